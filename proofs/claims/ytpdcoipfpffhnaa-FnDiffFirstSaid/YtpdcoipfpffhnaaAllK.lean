/-
  slices.Compact at ascending texts: none twice. Conditions: none.
-/
import Derived.Test.YtpdcoipfpffhnaaWhole
import Derived.Test.YtpdcoipfpffhnaaFitsIm
import Derived.Deep.RegionLaw
namespace Go.Proofs.Ytpdcoipfpffhnaa
open Go.ChangeShapes Go.WideShapes Go.ChangeAt Go.RowKit
set_option linter.unusedVariables false
set_option linter.unusedSimpArgs false

theorem compactUpTo_nodup (l : List (List UInt8)) (h : l.Pairwise (fun a b => a ≤ b)) (m : Nat) (hm : m ≤ l.length) : (Lib.compactUpTo l.toArray m).Nodup := by
  induction m with
  | zero => simp [Lib.compactUpTo]
  | succ m ih =>
    rw [Lib.compactUpTo_succ]
    have hle : ∀ i j (hi : i < l.length) (hj : j < l.length), i ≤ j → l[i] ≤ l[j] := fun i j hi hj hij => by
      rcases Nat.lt_or_eq_of_le hij with h1 | h1
      · exact List.pairwise_iff_getElem.1 h i j hi hj h1
      · subst h1; exact List.le_refl _
    by_cases hk : Lib.keeps l.toArray m = true
    · rw [if_pos hk]
      refine List.nodup_append.2 ⟨ih (by omega), by simp, fun a ha b hb => ?_⟩
      obtain rfl := List.mem_singleton.1 hb
      obtain ⟨j, hj, rfl⟩ := (mem_compactUpTo l.toArray m (by simp; omega) a).1 ha
      intro e
      unfold Lib.keeps at hk
      simp only [decide_eq_true_eq] at hk
      rcases hk with hk | hk
      · omega
      · apply hk
        rw [getElem!_pos l.toArray m (by simp; omega), getElem!_pos l.toArray (m - 1) (by simp; omega)]
        rw [getElem!_pos l.toArray m (by simp; omega), getElem!_pos l.toArray j (by simp; omega)] at e
        simp only [List.getElem_toArray] at e ⊢
        refine List.le_antisymm ?_ (hle (m - 1) m (by omega) (by omega) (by omega))
        rw [← e]
        exact hle j (m - 1) (by omega) (by omega) (by omega)
    · rw [if_neg hk, List.append_nil]
      exact ih (by omega)

def CmpN (v : Value) (B : Nat) (xs : List ByteArray) (w : World) (e : Ending) (w' : World) : Prop := ∃ v' ys, e = .returned v' ∧ (∀ s, s ∈ ys ↔ s ∈ xs) ∧ ys.Nodup ∧ Own w' B v' ys ∧ w.grownBy w' v.ownBlock ∧ v'.ownBlock = v.ownBlock
theorem compactN_any (v : Value) (B : Nat) (xs : List ByteArray) (w : World) (ho : Own w B v xs) (hl : xs.length ≤ 1000000) (hasc : Asc xs) :
    Calls Try.prog 60 #[v] w (CmpN v B xs w) := by
  rcases ho.2 with ⟨rfl, h0⟩ | ⟨g, cap, cur, rfl, hbase, hb, h1, h2, h3, h4⟩
  · obtain rfl : xs = [] := List.eq_nil_of_length_eq_zero h0
    refine (Try.slices_Compact_string_empty none 0 w).mono ?_
    rintro e w' ⟨rfl, rfl⟩
    exact ⟨_, [], rfl, fun _ => Iff.rfl, List.nodup_nil, ho, World.grownBy.refl _ _, rfl⟩
  · have hH : Go.Sort.Holds encStr w g 0 (xs.map byl).toArray := holds_of_block hb (by rw [map_byl, List.length_map]; simpa using h4)
    have hm := Try.slices_Compact_string g 0 cap (xs.map byl) w hH (by simp; omega) (by simpa using h1)
    rw [List.length_map] at hm
    refine hm.mono ?_
    rintro e w' ⟨rfl, n, rfl⟩
    have hle : (Lib.compact (xs.map byl)).length ≤ xs.length := by have := compactUpTo_le (xs.map byl).toArray (xs.map byl).length; simpa [Lib.compact] using this
    have hgr := grownBy_sorted (w := w) (g := g) (n := n) (os := #[]) (Lib.compact (xs.map byl) ++ List.replicate (xs.length - (Lib.compact (xs.map byl)).length) []).toArray
    simp only [Sort.grow_empty] at hgr
    refine ⟨_, (Lib.compact (xs.map byl)).map ofl, rfl, ?_, ?_, ?_, hgr, rfl⟩
    · intro s
      constructor
      · intro hs
        obtain ⟨l, hl', rfl⟩ := List.mem_map.1 hs
        unfold Lib.compact at hl'
        obtain ⟨j, hj, e⟩ := (mem_compactUpTo _ _ (by simp) _).1 hl'
        rw [getElem!_pos _ j (by simpa using hj)] at e
        simp only [List.getElem_toArray, List.getElem_map] at e
        rw [← e, ofl_byl]
        exact List.getElem_mem _
      · intro hs
        refine List.mem_map.2 ⟨byl s, ?_, ofl_byl s⟩
        unfold Lib.compact
        obtain ⟨j, hj, e⟩ := List.getElem_of_mem hs
        refine (mem_compactUpTo _ _ (by simp) _).2 ⟨j, by simpa using hj, ?_⟩
        rw [getElem!_pos _ j (by simpa using hj)]
        simp [e]
    · refine List.Pairwise.map ofl (fun a b (hab : a ≠ b) e => ?_) (compactUpTo_nodup (xs.map byl) hasc (xs.map byl).length (Nat.le_refl _))
      have h1 := congrArg byl e
      simp [byl, ofl] at h1
      exact hab h1
    · have hs := heap_sorted (w := w) (g := g) (n := n) (os := #[]) (Lib.compact (xs.map byl) ++ List.replicate (xs.length - (Lib.compact (xs.map byl)).length) []).toArray hb
      simp only [Sort.grow_empty] at hs
      refine ⟨by simp [strVs], .inr ⟨g, cap, _, by rw [List.length_map], hbase, hs, by rw [List.length_map]; omega, h2, by simp [Sort.putCells, h3], ?_⟩⟩
      have ht := take_putCells cur (Lib.compact (xs.map byl) ++ List.replicate (xs.length - (Lib.compact (xs.map byl)).length) []) (by simp; omega)
      have ht2 := congrArg (List.take (Lib.compact (xs.map byl)).length) ht
      rw [List.take_take, Nat.min_eq_left (by simp)] at ht2
      rw [Nat.mul_one, List.length_map, ht2]
      simp [strVs, List.map_append]
      exact fun _ _ => rfl


theorem run_append_none {P : Program} (w : World) (t ty e : TypeId) (i : TypeInfo) (ht : P.underlying t = some (.slice e)) (hi : P.info? e = some i) (A A' : Option Addr) (n c c' : Nat) (h : n ≤ c) :
    (Builtin.append_ #[t, t] ty #[.slice A n c, .slice A' 0 c']).run P w = .ok (.slice A n c) w := by
  have hl : ∀ a : Addr, (loadCells a 0).run P w = .ok #[] w := fun a => rfl
  cases A <;> cases A' <;> simp [hl, Result.andThen, Builtin.append_, run_underlying ht, sizeOf, typeInfo, hi, Builtin.lenOf, h, Builtin.firstCells, storeCells]

theorem World.ownsRow_le' {w : World} {B B' : Nat} {e : TypeId} {size n : Nat} {v : Value} {xs : List Value} (h : w.ownsRow B e size v n xs) (hB : B' ≤ B) : w.ownsRow B' e size v n xs := by
  refine ⟨h.1, ?_⟩
  rcases h.2 with h2 | ⟨g, cap, cur, e1, h1, h2⟩
  · exact Or.inl h2
  · exact Or.inr ⟨g, cap, cur, e1, Nat.le_trans hB h1, h2⟩
/-- append whose run is known, as one step of a region that draws. -/
theorem step_append_is {P : Program} {ops : Array Oper} {o : Oper} {a : Act} {w : World} {K : Act → World → Prop} {Q : Exit → Act → World → Prop} {E : Prop}
    (hg : o.guard = none) (s x : Operand) (t : TypeId) (hop : o.op = Op.call { callee := Callee.builtin Builtin.append, args := #[s, x], argTypes := #[t, t] })
    (sv xv : Value) (hs : a.eval s = sv) (hx : a.eval x = xv) (v' : Value) (w' : World) (hrun : (Builtin.append_ #[t, t] o.type #[sv, xv]).run P w = .ok v' w') (hK : K (a.put o.dst v') w') :
    if Region.wanted o (yielded ops a.tmps) = true then Oper.wp P o a w K Q else E := by
  have hw : Region.wanted o (yielded ops a.tmps) = true := by simp [Region.wanted, hg]
  rw [if_pos hw]
  unfold Oper.wp
  simp only [execOp, hop, resolve, invoke, builtin, Sem.run_bind, Sem.run_pure, Result.andThen_ok, List.map_toArray, List.map_cons, List.map_nil, hs, hx, hrun]
  exact hK

theorem info_strK : (Try.prog.info? 9).map (fun i => (i.zero, i.size, i.bytes)) = some (some (.string ⟨#[]⟩), 1, 16) := by kernel_rfl
/-- A row of texts with the texts of a slice behind it. -/
theorem run_app_strs (w : World) (v : Value) (B : Nat) (xs ys : List ByteArray) (A : Option Addr) (c : Nat) (ty : TypeId) {ok : Nat → Prop} (ho : Own w B v xs) (hA : Strs ok w A ys) (hl : xs.length + ys.length ≤ 1000000) (hB : B ≤ w.heap.size) :
    ∃ v' w', (Builtin.append_ #[24, 24] ty #[v, .slice A ys.length c]).run Try.prog w = .ok v' w' ∧ Own w' B v' (xs ++ ys) ∧ w.grownBy w' v.ownBlock := by
  obtain ⟨i0, hi, hz0, hz1, hz2⟩ := info_parts info_strK
  by_cases hne : ys = []
  · subst hne
    obtain ⟨A1, c1, rfl, h1, _⟩ := own_slice ho
    refine ⟨_, w, run_append_none w _ ty _ i0 Try.underlying24 hi A1 A xs.length c1 c h1, by rw [List.append_nil]; exact ho, World.grownBy.refl _ _⟩
  · obtain ⟨ad, rfl, _, hc⟩ := hA hne
    obtain ⟨v', w', hr, h2, h3, _, _⟩ := run_append_own_at (P := Try.prog) w B 24 ty 9 i0 (.string ⟨#[]⟩) 1 16 Try.underlying24 hi hz0 hz1 hz2 rfl (by decide) v xs.length (strVs xs) ho ad ys.length c (strVs ys) (by simp [strVs]) (fun j u hu => by
      simp only [strVs, List.getElem?_map] at hu
      cases hy : ys[j]? with
      | none => rw [hy] at hu; simp at hu
      | some s =>
        rw [hy] at hu
        obtain rfl : Value.string s = u := by simpa using hu
        exact (hc j s hy).1) (fun u hu => by
      obtain ⟨s, _, rfl⟩ := List.mem_map.1 hu
      rfl) (by unfold maxLen; omega) (by omega) hB
    refine ⟨v', w', hr, ?_, h3⟩
    unfold Own
    rw [List.length_append]
    have e1 : strVs (xs ++ ys) = strVs xs ++ strVs ys := by simp [strVs]
    rw [e1]
    exact h2

theorem run_app_strs' (w : World) (v : Value) (B : Nat) (xs ys : List ByteArray) (A : Option Addr) (c : Nat) (ty : TypeId) {ok : Nat → Prop} (ho : Own w B v xs) (hA : Strs ok w A ys) (hl : xs.length + ys.length ≤ 1000000) (hB : B ≤ w.heap.size) :
    ∃ zs v' w', (Builtin.append_ #[24, 24] ty #[v, .slice A ys.length c]).run Try.prog w = .ok v' w' ∧ Own w' B v' zs ∧ w.grownBy w' v.ownBlock ∧ Hid (zs = xs ++ ys) := by
  obtain ⟨v', w', h1, h2, h3⟩ := run_app_strs w v B xs ys A c ty ho hA hl hB
  exact ⟨_, v', w', h1, h2, h3, rfl⟩

set_option maxRecDepth 100000 in
set_option maxHeartbeats 2000000 in
theorem allKeys_any (a b : V) {ok : Nat → Prop} (A B A' B' : Option Addr) (ca cb ca' cb' : Nat) (w : World) (hB : Strs ok w B a.keys) (hB' : Strs ok w B' b.keys) (hl : a.keys.length + b.keys.length ≤ 1000000) :
    Calls Try.prog 46 #[.agg #[.int .i64 a.kind, .int .i64 a.n, .float .f64 a.f, .string a.s, .slice A a.l.length ca, .slice B a.keys.length cb], .agg #[.int .i64 b.kind, .int .i64 b.n, .float .f64 b.f, .string b.s, .slice A' b.l.length ca', .slice B' b.keys.length cb']] w (SomeOwn (fun ys => ys.Nodup ∧ ∀ s, s ∈ ys ↔ (s ∈ a.keys ∨ s ∈ b.keys)) w) := by
  have hbel0 : Below (w.heap.size + 2) ((w.alloc (valObj a A ca B cb)).alloc (valObj b A' ca' B' cb')) ((w.alloc (valObj a A ca B cb)).alloc (valObj b A' ca' B' cb')) := Below.refl _ _
  obtain ⟨⟨b0, b1, b2, b3, b4, b5⟩, ⟨d0, d1, d2, d3, d4, d5⟩, hbw⟩ := boxed2 hbel0
  go_enter Try.func46, Try.ntmps46
  have hsz : w.heap.size + 2 = ((w.alloc (valObj a A ca B cb)).alloc (valObj b A' ca' B' cb')).heap.size := by rw [alloc_size, alloc_size]
  go_wp2_with fail
  clear b0 b1 b2 b3 b4 d0 d1 d2 d3 d4 hbel0
  simp only [valObj] at b5 d5 hbw hsz
  generalize (w.alloc (.cells #[.int .i64 a.kind, .int .i64 a.n, .float .f64 a.f, .string a.s, .slice A a.l.length ca, .slice B a.keys.length cb] 26)).alloc (.cells #[.int .i64 b.kind, .int .i64 b.n, .float .f64 b.f, .string b.s, .slice A' b.l.length ca', .slice B' b.keys.length cb'] 26) = W at b5 d5 hbw hsz ⊢
  have hS1 : Hid ((fun w' : World => w'.cell? ⟨w.heap.size, 5, none⟩ = some (.slice B a.keys.length cb) ∧ w'.cell? ⟨w.heap.size + 1, 5, none⟩ = some (.slice B' b.keys.length cb')) W) := ⟨b5, d5⟩
  have hS2 : Hid (∀ w2, Below W.heap.size W w2 → (fun w' : World => w'.cell? ⟨w.heap.size, 5, none⟩ = some (.slice B a.keys.length cb) ∧ w'.cell? ⟨w.heap.size + 1, 5, none⟩ = some (.slice B' b.keys.length cb')) w2) := fun w2 hb2 => ⟨(hb2.cell (p := ⟨w.heap.size, 5, none⟩) (by show w.heap.size < _; omega)).trans b5, (hb2.cell (p := ⟨w.heap.size + 1, 5, none⟩) (by show w.heap.size + 1 < _; omega)).trans d5⟩
  have hBW := hB.bel (below_drew hbw)
  have hBW' := hB'.bel hbw
  go_region_held3 (fun w' : World => w'.cell? ⟨w.heap.size, 5, none⟩ = some (.slice B a.keys.length cb) ∧ w'.cell? ⟨w.heap.size + 1, 5, none⟩ = some (.slice B' b.keys.length cb')) (first | exact hS1.out | exact hS3.out | exact hS4.out | go_keep)
    (first
    | (go_at_call 58; refine (clone_any B a.keys cb W.drew hBW (by omega)).mono ?_; rintro e w2 ⟨v2, xs, rfl, rfl, ho2, hl2⟩; obtain ⟨A2, c2, rfl, -, -⟩ := own_slice ho2; have hl2' := below_undrew hl2; have hS3 := Lib.hid (hS2.out w2 hl2'); obtain ⟨z3, v3, w3, hrun, ho3, hgr3, hz3⟩ := run_app_strs' w2 _ W.heap.size a.keys b.keys B' cb' 24 ho2 (hB'.bel (hbw.trans (hl2'.mono hbw.size))) hl hl2'.size; obtain ⟨A3, c3, rfl, -, -⟩ := own_slice ho3; have hl3 := hl2'.grown hgr3 hl2'.size (fun k hk => (ho2.lt k hk).1); have hS4 := Lib.hid (hS2.out w3 hl3); have hrun' := Lib.hid hrun; clear hrun)
    | (refine step_append_is rfl (.tmp 8) (.tmp 10) 24 rfl (.slice A2 a.keys.length c2) (.slice B' b.keys.length cb') (by simp [Act.eval, Act.put]) (by simp [Act.eval, Act.put]) (.slice A3 z3.length c3) w3 hrun'.out ?_))
  have hb3 := hbw.trans (hl3.mono hbw.size)
  have ho3' := Lib.hid ho3
  have hsz3 := hl3.size
  clear hS1 hS2 hS3 hS4 hrun' hgr3 hl3 ho2 hl2 hl2' hBW hBW' ho3
  go_wp2_with fail
  refine (sort_any _ W.heap.size _ w3 ho3'.out (by rw [hz3.out, List.length_append]; exact hl)).mono ?_
  rintro e w4 ⟨zs, rfl, hp, hasc, ho4, hgr4⟩
  have hb4 := hb3.grown hgr4 hb3.size (fun k hk => by have := (ho3'.out.lt k hk).1; have := hbw.size; omega)
  have hlz : zs.length ≤ 1000000 := by rw [hp.length_eq, hz3.out, List.length_append]; exact hl
  have ho4' := Lib.hid ho4
  have hasc' := Lib.hid hasc
  have hmz : Hid (∀ s, s ∈ zs ↔ (s ∈ a.keys ∨ s ∈ b.keys)) := fun s => by rw [hp.mem_iff, hz3.out, List.mem_append]
  clear hp hasc ho4 hgr4 ho3'
  go_wp2_with fail
  refine (compactN_any _ W.heap.size zs w4 ho4'.out hlz hasc'.out).mono ?_
  rintro e w5 ⟨v5, ys, rfl, hmem, hnd, ho5, hgr5, _⟩
  have hb5 := hb4.grown hgr5 hb4.size (fun k hk => by have := (ho4'.out.lt k hk).1; have := hbw.size; omega)
  obtain ⟨A5, c5, rfl, -, -⟩ := own_slice ho5
  have hfin : Hid (Own w5 w.heap.size (.slice A5 ys.length c5) ys) := World.ownsRow_le' ho5 hbw.size
  have hmy : Hid (∀ s, s ∈ ys ↔ (s ∈ a.keys ∨ s ∈ b.keys)) := fun s => (hmem s).trans (hmz.out s)
  have hnd' := Lib.hid hnd
  clear hmem ho5 hgr5 hnd ho4' hasc' hmz
  go_wp2_with fail
  go_ret
  exact ⟨_, ys, rfl, ⟨hnd'.out, hmy.out⟩, hfin.out, hb5⟩
end Go.Proofs.Ytpdcoipfpffhnaa
