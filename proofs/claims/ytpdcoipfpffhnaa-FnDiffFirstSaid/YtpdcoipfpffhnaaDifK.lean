/-
  slices.Clone at steps; append at rows of steps and at rows of places; sums over keys. Conditions: none.
-/
import Derived.Test.YtpdcoipfpffhnaaAllK
import Derived.Test.YtpdcoipfpffhnaaFound4
namespace Go.Proofs.Ytpdcoipfpffhnaa
open Go.ChangeShapes Go.WideShapes Go.ChangeAt Go.RowKit
set_option linter.unusedVariables false
set_option linter.unusedSimpArgs false

def Cloned (ps : List (Option Step)) (w : World) (e : Ending) (w' : World) : Prop := ∃ A c, e = .returned (.slice A ps.length c) ∧ FrOwn w' w.heap.size (.slice A ps.length c) ps ∧ Below w.heap.size w w'

theorem row_form {w : World} {B size n : Nat} {e : TypeId} {v : Value} {xs : List Value} (h : w.ownsRow B e size v n xs) : (v = .slice none 0 0 ∧ n = 0) ∨ ∃ g c cur, v = .slice (some ⟨g, 0, none⟩) n c ∧ B ≤ g ∧ w.heap[g]? = some (.cells cur e (0, 0)) ∧ cur.toList.take (n * size) = xs := by
  rcases h.2 with h2 | ⟨g, cap, cur, h1, h2, h3, h4, h5, h6, h7⟩
  · exact Or.inl h2
  · exact Or.inr ⟨g, cap, cur, h1, h2, h3, h7⟩

set_option maxHeartbeats 2000000 in
set_option maxRecDepth 100000 in
theorem cloneF_any (v : Value) (B : Nat) (ps : List (Option Step)) (w : World) (ho : FrOwn w B v ps) (hl : ps.length ≤ 1000000) :
    Calls Try.prog 44 #[v] w (Cloned ps w) := by
  have q41 : ∀ (w : World) (a : Option Addr) (n c n' c' : Nat), (binOp .eql 41 (.slice a n c) (.slice none n' c')).run Try.prog w = .ok (.bool a.isNone) w := fun w a n c n' c' => Lib.run_eql_slice_nil w _ _ a n c n' c' Try.underlying41
  obtain ⟨i0, hi, hz0, hz1, hz2⟩ := info_parts info_frag
  obtain ⟨ns, hns, hrow, hst⟩ := ho
  rcases row_form hrow with ⟨rfl, h0⟩ | ⟨g, c, cur, rfl, hB, hb, hxs⟩
  · have hps : ps = [] := List.eq_nil_of_length_eq_zero h0
    have hps' := Lib.hid hps
    clear hrow hst hps h0 hns
    go_enter Try.func44, Try.ntmps44
    go_wp2_with fail
    go_ret
    refine ⟨none, 0, by rw [hps'.out]; rfl, ?_, Below.refl _ _⟩
    rw [hps'.out]
    exact FrOwn.nil _ _
  · have hns' := Lib.hid hns
    have hrow' := Lib.hid hrow
    have hst' := Lib.hid hst
    have hb' := Lib.hid hb
    have hxs' := Lib.hid hxs
    have hlt := (Array.getElem?_eq_some_iff.1 hb).1
    clear hns hrow hst hb hxs
    go_enter Try.func44, Try.ntmps44
    go_wp2_with (at_builtin; refine wpList_append_own _ rfl _ _ 41 rfl w.heap.size 64 i0 (.agg (fragL 0 ⟨#[]⟩ (.slice none 0 0)).toArray) 13 216 Try.underlying41 hi hz0 hz1 hz2 rfl (by decide) _ _ _ rfl (World.ownsRow_made w #[] 0 (Nat.le_refl _) (Nat.zero_le _) rfl) ⟨g, 0, none⟩ ps.length c (fragVals ps ns) rfl ?qc1 ?qc2 ?qc3 ?qc4 ?qc5 ?qc6 ?_)
    case qc1 => rw [fragVals_len _ _ hns'.out]
    case qc2 =>
      intro j u hj
      have e1 : (⟨g, 0, none⟩ : Addr).add j = ⟨g, j, none⟩ := by unfold Addr.add; split <;> simp_all
      rw [e1]
      refine ((below_alloc w _).cell (p := ⟨g, j, none⟩) hlt).trans ?_
      have hj2 := hj
      rw [← hxs'.out, List.getElem?_take] at hj2
      split at hj2
      · simp only [World.cell?, hb'.out]
        simpa using hj2
      · simp at hj2
    case qc3 =>
      intro u hu
      obtain ⟨j, hj⟩ := List.getElem?_of_mem hu
      have hjl := (List.getElem?_eq_some_iff.1 hj).1
      rw [fragVals_len _ _ hns'.out] at hjl
      obtain ⟨s, hs⟩ : ∃ s, ps[j / 13]? = some s := get_lt (by omega)
      obtain ⟨n, hn⟩ : ∃ n, ns[j / 13]? = some n := get_lt (by rw [hns'.out]; omega)
      have h1 := fragVals_get ps ns (j / 13) (j % 13) s n hs hn (Nat.mod_lt _ (by omega))
      rw [show 13 * (j / 13) + j % 13 = j from Nat.div_add_mod j 13, hj] at h1
      exact stepL_one (hst'.out _ _ _ hs hn) u (List.mem_of_getElem? h1.symm)
    case qc4 => unfold maxLen; omega
    case qc5 => omega
    case qc6 => simp
    intro v' w1 hown hgrow hnil
    obtain ⟨A, c', hv⟩ := row_slice hown
    subst hv
    have hbel : Below w.heap.size w w1 := ((Below.refl _ w).alloc (Nat.le_refl _) _).grown hgrow (by simp) (by intro k hk; simp [Value.ownBlock] at hk; omega)
    have hown' := Lib.hid hown
    clear hown hgrow hnil
    go_wp2
    go_ret
    refine ⟨A, c', rfl, ⟨ns, hns'.out, hown'.out, fun i s n h1 h2 => (hst'.out i s n h1 h2).keep (Keeps.of_below hbel)⟩, hbel⟩

/-- nth, child, as they are handed on. -/
theorem nth_of (i : Nat) (w : World) : Calls Try.prog 45 #[.int .i64 i] w (fun e w' => ∃ g, e = .returned (.agg #[.int .i64 4, .string ⟨#[]⟩, .slice (some ⟨g, 0, none⟩) 1 1, .slice none 0 0, .int .i64 0, .int .i64 0, .int .i64 0, .float .f64 0, .string ⟨#[]⟩, .slice none 0 0, .slice none 0 0, .slice none 0 0, .slice none 0 0]) ∧ StepN w' (some (.idx i)) (.slice (some ⟨g, 0, none⟩) 1 1) ∧ Below w.heap.size w w') := by
  refine (nth_any i w).mono ?_
  rintro e w' ⟨n, rfl, hn, hb⟩
  obtain ⟨g, cur, rfl, h⟩ := hn
  exact ⟨g, rfl, ⟨g, cur, rfl, h⟩, hb⟩

/-- A row of steps with one that was just built behind it. -/
theorem run_app_step (w : World) (v : Value) (B : Nat) (ps : List Step) (s : Step) (n : Value) (ty : TypeId) (o : Obj) (ho : FrOwn w B v (ps.map some)) (hs : StepN w (some s) n) (hob : o = .cells (stepL (some s) n).toArray 64) (hl : ps.length ≤ 1000000) (hB : B ≤ w.heap.size) :
    ∃ A c w', (Builtin.append_ #[41, 41] ty #[v, .slice (some ⟨w.heap.size, 0, none⟩) 1 1]).run Try.prog (w.alloc o) = .ok (.slice A (ps.length + 1) c) w' ∧ FrOwn w' B (.slice A (ps.length + 1) c) ((ps ++ [s]).map some) ∧ Below B w w' := by
  subst hob
  obtain ⟨i0, hi, hz0, hz1, hz2⟩ := info_parts info_frag
  obtain ⟨ns, hns, hrow, hst⟩ := ho
  rw [List.length_map] at hrow hns
  obtain ⟨v', w', hr, h2, h3, _, _⟩ := run_append_own_at (P := Try.prog) (w.alloc (.cells (stepL (some s) n).toArray 64)) B 41 ty 64 i0 (.agg (fragL 0 ⟨#[]⟩ (.slice none 0 0)).toArray) 13 216 Try.underlying41 hi hz0 hz1 hz2 rfl (by decide) v ps.length (fragVals (ps.map some) ns) (hrow.alloc _) ⟨w.heap.size, 0, none⟩ 1 1 (stepL (some s) n) (by rw [stepL_len]) (frag_cells _ _ _ rfl) (stepL_one hs) (by unfold maxLen; omega) (by omega) (by rw [alloc_size]; omega)
  obtain ⟨A, c, hv⟩ := row_slice h2
  subst hv
  refine ⟨A, c, w', hr, ?_, ((Below.refl _ _).alloc hB _).grown h3 (by simp; omega) (fun k hk => (hrow.lt k hk).1)⟩
  have hk : Keeps w (w.alloc (.cells (stepL (some s) n).toArray 64)) := Keeps.of_below (below_alloc _ _)
  rw [List.map_append, List.map_cons, List.map_nil]
  refine FrOwn.snoc (W := w.alloc (.cells (stepL (some s) n).toArray 64)) (v := v) (ns := ns) (n := n) (by rw [List.length_map]; exact hns) (by rw [List.length_map]; exact hrow.alloc _) (fun i s n h1 h2 => (hst i s n h1 h2).keep hk) (hs.keep hk) (by rw [List.length_map]; exact h2) h3

theorem info_row : (Try.prog.info? 41).map (fun i => (i.zero, i.size, i.bytes)) = some (some (.slice none 0 0), 1, 24) := by kernel_rfl

theorem Keeps.grown {w w' : World} {B n : Nat} {v : Value} {xs : List Value} {T : TypeId} {size : Nat} (hT : T ≠ 3) (hT' : T ≠ 64) (ho : w.ownsRow B T size v n xs) (hg : w.grownBy w' v.ownBlock) : Keeps w w' := fun k cur T' fr hk hT2 => by
  refine hg.block k (Array.getElem?_eq_some_iff.1 hk).1 (fun e => ?_)
  rcases ho.2 with ⟨rfl, _⟩ | ⟨g, cap, cur', rfl, _, hb, _⟩
  · simp [Value.ownBlock] at e
  · simp only [Value.ownBlock, Option.some.injEq] at e
    subst e
    rw [hb] at hk
    simp only [Option.some.injEq, Obj.cells.injEq] at hk
    rcases hT2 with h | h
    · exact hT' (hk.2.1.trans h)
    · exact hT (hk.2.1.trans h)

theorem WantOwn.nil (w : World) (B : Nat) : WantOwn w B (.slice none 0 0) [] := ⟨[], rfl, World.ownsRow_nil _ _ _ _, fun i x p h => by simp at h⟩
theorem WantOwn.form {w : World} {B : Nat} {v : Value} {ws : List (List Step)} (h : WantOwn w B v ws) : ∃ A c, v = .slice A ws.length c := by
  obtain ⟨vs, _, ho, _⟩ := h
  exact row_slice ho

/-- A row of places with those of another one behind it. -/
theorem run_app_rows (w : World) (v v' : Value) (B B' : Nat) (ws ws' : List (List Step)) (ty : TypeId) (ho : WantOwn w B v ws) (ho' : WantOwn w B' v' ws') (hl : ws.length + ws'.length ≤ 1000000) (hB : B ≤ w.heap.size) :
    ∃ A c w', (Builtin.append_ #[36, 36] ty #[v, v']).run Try.prog w = .ok (.slice A (ws.length + ws'.length) c) w' ∧ WantOwn w' B (.slice A (ws.length + ws'.length) c) (ws ++ ws') ∧ Below B w w' := by
  obtain ⟨i0, hi, hz0, hz1, hz2⟩ := info_parts info_row
  obtain ⟨vs, hvs, hrow, hfr⟩ := ho
  obtain ⟨vs', hvs', hrow', hfr'⟩ := ho'
  rcases row_form hrow' with ⟨rfl, h0⟩ | ⟨g, c, cur, rfl, hB', hb, hxs⟩
  · have hw0 : ws' = [] := List.eq_nil_of_length_eq_zero h0
    subst hw0
    obtain ⟨A1, c1, hv1⟩ := row_slice hrow
    subst hv1
    have hle : ws.length ≤ c1 := by
      rcases hrow.2 with ⟨e, h0⟩ | ⟨g, cap, cur, e, _, _, h1, _⟩
      · rw [h0]; omega
      · cases e; exact h1
    refine ⟨A1, c1, w, run_append_none w _ ty _ i0 Try.underlying36 hi A1 none ws.length c1 0 hle, ?_, Below.refl _ _⟩
    rw [List.append_nil]
    exact ⟨vs, hvs, hrow, hfr⟩
  · rw [Nat.mul_one] at hxs
    obtain ⟨v'', w', hr, h2, h3, _, _⟩ := run_append_own_at (P := Try.prog) w B 36 ty 41 i0 (.slice none 0 0) 1 24 Try.underlying36 hi hz0 hz1 hz2 rfl (by decide) v ws.length vs hrow ⟨g, 0, none⟩ ws'.length c vs' (by rw [hvs', Nat.mul_one]) (fun j u hj => by
      have e1 : (⟨g, 0, none⟩ : Addr).add j = ⟨g, j, none⟩ := by unfold Addr.add; split <;> simp_all
      rw [e1]
      exact row_at hb hxs hj) (fun u hu => by
      obtain ⟨j, hj⟩ := List.getElem?_of_mem hu
      have hjl := (List.getElem?_eq_some_iff.1 hj).1
      obtain ⟨p, hp⟩ : ∃ p, ws'[j]? = some p := get_lt (by omega)
      obtain ⟨A, c, rfl, _⟩ := (hfr' j u p hj hp).view
      rfl) (by unfold maxLen; omega) (by omega) hB
    obtain ⟨A, c, hv⟩ := row_slice h2
    subst hv
    have hk := Keeps.grown (by decide) (by decide) hrow h3
    refine ⟨A, c, w', hr, ⟨vs ++ vs', by simp [hvs, hvs'], by rw [List.length_append]; exact h2, fun i x p hx hp => ?_⟩, (Below.refl _ _).grown h3 hB (fun k hk => (hrow.lt k hk).1)⟩
    by_cases hi : i < ws.length
    · rw [List.getElem?_append_left hi] at hp
      rw [List.getElem?_append_left (by omega)] at hx
      exact (hfr i x p hx hp).keep hk
    · rw [List.getElem?_append_right (by omega)] at hp
      rw [List.getElem?_append_right (by omega)] at hx
      rw [hvs] at hx
      exact (hfr' _ x p hx hp).keep hk
/-- A row of places with one that was just built behind it. -/
theorem wantOne (w : World) (x : Value) (p : List Step) (o : Obj) (hob : o = .cells #[x] 41) (h : FrOwn w 0 x (p.map some)) : WantOwn (w.alloc o) 0 (.slice (some ⟨w.heap.size, 0, none⟩) 1 1) [p] := by
  subst hob
  refine ⟨[x], rfl, ⟨rfl, Or.inr ⟨w.heap.size, 1, _, rfl, Nat.zero_le _, heap_alloc_new w _, Nat.le_refl _, by unfold maxLen; omega, rfl, rfl⟩⟩, fun i y q h1 h2 => ?_⟩
  have h0 : i = 0 := by have := (List.getElem?_eq_some_iff.1 h2).1; simp at this; omega
  subst h0
  obtain rfl : x = y := by simpa using h1
  obtain rfl : p = q := by simpa using h2
  exact h.keep (Keeps.of_below (below_alloc _ _))
end Go.Proofs.Ytpdcoipfpffhnaa
