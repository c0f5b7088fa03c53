/-
  impl.trailOf. Conditions: none.
-/
import Derived.Test.YtpdcoipfpffhnaaFrag
namespace Go.Proofs.Ytpdcoipfpffhnaa
open Go.ChangeShapes Go.WideShapes Go.ChangeAt Go.RowKit
set_option linter.unusedVariables false
attribute [local go_sem] tay_bool tam_bool tan_bool tay_int tam_int tan_int tay_int8 tam_int8 tan_int8 tay_int16 tam_int16 tan_int16 tay_int32 tam_int32 tan_int32 tay_int64 tam_int64 tan_int64 tay_uint tam_uint tan_uint tay_uint8 tam_uint8 tan_uint8 tay_uint16 tam_uint16 tan_uint16 tay_uint32 tam_uint32 tan_uint32 tay_uint64 tam_uint64 tan_uint64 tay_float32 tam_float32 tan_float32 tay_float64 tam_float64 tan_float64 tay_string tam_string tan_string tay_sl tam_sl tan_sl tay_mp tam_mp tan_mp tay_fil tam_fil tan_fil tay_gint tam_gint tan_gint tay_gfl tam_gfl tan_gfl
/-- Blocks of numbers stand. -/
def KeepsI (w w' : World) : Prop := ∀ (k : Nat) (cur : Array Value) (fr : Nat × Nat), w.heap[k]? = some (Obj.cells cur 3 fr) → w'.heap[k]? = w.heap[k]?
theorem StepN.keepI {w w' : World} {s : Option Step} {n : Value} (h : StepN w s n) (hk : KeepsI w w') : StepN w' s n := by
  rcases s with _ | s
  · exact h
  · cases s with
    | key k => exact h
    | idx i =>
      obtain ⟨g, cur, h1, h2, h3⟩ := h
      exact ⟨g, cur, h1, (hk g _ _ h2).trans h2, h3⟩
theorem KeepsI.of_below {w w' : World} (h : Below w.heap.size w w') : KeepsI w w' := fun k cur fr hk => h.block k (Array.getElem?_eq_some_iff.1 hk).1
theorem KeepsI.trans {w w1 w2 : World} (h : KeepsI w w1) (h2 : KeepsI w1 w2) : KeepsI w w2 := fun k cur fr hk => by
  have h1 := h k cur fr hk
  exact (h2 k cur fr (h1.trans hk)).trans h1
theorem KeepsI.grown {w w' : World} {B n : Nat} {v : Value} {xs : List Value} {T : TypeId} {size : Nat} (hT : T ≠ 3) (ho : w.ownsRow B T size v n xs) (hg : w.grownBy w' v.ownBlock) : KeepsI w w' := fun k cur fr hk => by
  refine hg.block k (Array.getElem?_eq_some_iff.1 hk).1 (fun e => ?_)
  rcases ho.2 with ⟨rfl, _⟩ | ⟨g, cap, cur', rfl, _, hb, _⟩
  · simp [Value.ownBlock] at e
  · simp only [Value.ownBlock, Option.some.injEq] at e
    subst e
    rw [hb] at hk
    simp only [Option.some.injEq, Obj.cells.injEq] at hk
    exact hT hk.2.1
theorem FrOwn.snoc {W w' : World} {B : Nat} {v v' : Value} {ps : List (Option Step)} {ns : List Value} {s : Option Step} {n : Value} (hn : ns.length = ps.length) (ho : W.ownsRow B 64 13 v ps.length (fragVals ps ns)) (hs : ∀ (i : Nat) s n, ps[i]? = some s → ns[i]? = some n → StepN W s n) (hsn : StepN W s n)
    (ho' : w'.ownsRow B 64 13 v' (ps.length + 1) (fragVals ps ns ++ stepL s n)) (hg : W.grownBy w' v.ownBlock) : FrOwn w' B v' (ps ++ [s]) := by
  have hk := KeepsI.grown (by decide) ho hg
  refine ⟨ns ++ [n], by simp [hn], ?_, fun i s' n' h1 h2 => ?_⟩
  · rw [fragVals_snoc ps ns s n hn, List.length_append]
    exact ho'
  · by_cases hi : i < ps.length
    · rw [List.getElem?_append_left hi] at h1
      rw [List.getElem?_append_left (by omega)] at h2
      exact (hs i s' n' h1 h2).keepI hk
    · have hi2 : i = ps.length := by have := (List.getElem?_eq_some_iff.1 h1).1; simp at this; omega
      subst hi2
      rw [List.getElem?_append_right (Nat.le_refl _)] at h1
      rw [List.getElem?_append_right (by omega)] at h2
      simp [hn] at h1 h2
      subst h1 h2
      exact hsn.keepI hk

theorem frag_cells2 (w : World) (o : Obj) (cs : Array Value) (t : TypeId) {xs : List Value} (hx : cs.toList = xs) : ∀ j u, xs[j]? = some u → ((w.alloc o).alloc (.cells cs t)).cell? ((⟨w.heap.size + 1, 0, none⟩ : Addr).add j) = some u := by
  have h := frag_cells (w.alloc o) cs t hx
  rw [alloc_size] at h
  exact h
def Trailed (ps : List (Option Step)) (w : World) (e : Ending) (w' : World) : Prop := ∃ v', e = .returned v' ∧ FrOwn w' w.heap.size v' ps ∧ Below w.heap.size w w'

set_option maxHeartbeats 4000000 in
theorem trailOf_at (w : World) (h d n : Nat) (qs : List (Option Step)) (hn : qs.length = n) (hl : n ≤ 1000001) (hcell : ∀ i u, (qs.map toV)[i]? = some u → w.cell? ⟨h, i, none⟩ = some u) (hlt : h < w.heap.size) :
    Calls Try.prog 42 #[.slice (some ⟨h, 0, none⟩) n d] w (Trailed qs w) := by
  have hc := Lib.hid hcell
  have hn' := Lib.hid hn
  obtain ⟨i0, hi, hz0, hz1, hz2⟩ := info_parts info_frag
  clear hcell hn
  go_enter Try.func42, Try.ntmps42
  go_wp2_with fail
  go_loopw [3, 11] (fun o i wr => ∃ (j : Nat) (A : Option Addr) (c : Nat), j ≤ n ∧ i = .int .i64 j ∧ o = .slice A j c ∧ Hid (FrOwn wr w.heap.size (.slice A j c) (qs.take j)) ∧ Below w.heap.size w wr) (fun _ i _ => n - (intOf i).toNat)
  case atStart => exact ⟨0, none, 0, Nat.zero_le _, rfl, rfl, by rw [List.take_zero]; exact FrOwn.nil _ _, Below.refl _ _⟩
  case round =>
    obtain ⟨j, A, c, hj, rfl, rfl, hfr, hbel⟩ := hrel
    have hsz := hbel.size
    by_cases hlt2 : j < n
    · obtain ⟨s, hs⟩ : ∃ s, qs[j]? = some s := get_lt (by rw [hn'.out]; exact hlt2)
      have q1 : wr.cell? ⟨h, j, none⟩ = some (toV s) := (hbel.cell (p := ⟨h, j, none⟩) hlt).trans (hc.out j (toV s) (by rw [List.getElem?_map, hs]; rfl))
      obtain ⟨ns, hns, ho, hst⟩ := hfr.out
      have htl : (qs.take j).length = j := by rw [List.length_take]; have := hn'.out; omega
      rw [htl] at ho hns
      have ho' := Lib.hid ho
      have hst' := Lib.hid hst
      have htk : Hid (qs.take (j + 1) = qs.take j ++ [s]) := take_get hs
      have hns' := Lib.hid hns
      have htl' := Lib.hid htl
      clear hfr ho hst hs htl hns
      rcases s with _ | s
      · have q1' : wr.cell? ⟨h, j, none⟩ = some (.nilIface) := q1
        clear q1
        go_wp2_with (at_builtin; refine wpList_append_own_at _ rfl _ _ 41 rfl w.heap.size 64 i0 (.agg (fragL 0 ⟨#[]⟩ (.slice none 0 0)).toArray) 13 216 Try.underlying41 hi hz0 hz1 hz2 rfl (by decide) (.slice A j c) j (fragVals (qs.take j) ns) rfl (ho'.out.alloc _) ⟨wr.heap.size, 0, none⟩ 1 1 (stepL none (.slice none 0 0)) rfl (by rw [stepL_len]) ?c1 ?c2 ?c3 ?c4 ?c5 ?_)
        case c1 => exact frag_cells _ _ _ rfl
        case c2 => exact stepL_one (w := wr) rfl
        case c3 => unfold maxLen; omega
        case c4 => omega
        case c5 => simp; omega
        intro v' w' hown hgr hne hat
        obtain ⟨gx, cx, hvx, -⟩ := hown.form (by omega)
        subst hvx
        have hbel' : Below w.heap.size w w' := (hbel.trans ((below_alloc wr _).mono hsz)).grown hgr (by simp; omega) (fun g hg => (ho'.out.lt g hg).1)
        have hfr' : Hid (FrOwn w' w.heap.size (.slice (some ⟨gx, 0, none⟩) (j + 1) cx) (qs.take (j + 1))) := by
          rw [htk.out]
          have hk : KeepsI wr (wr.alloc (.cells (stepL none (.slice none 0 0)).toArray 64)) := KeepsI.of_below (below_alloc _ _)
          refine FrOwn.snoc (W := wr.alloc (.cells (stepL none (.slice none 0 0)).toArray 64)) (v := .slice A j c) (ns := ns) (n := (.slice none 0 0)) (by rw [htl'.out]; exact hns'.out) (by rw [htl'.out]; exact (ho'.out.alloc _)) (fun i s n h1 h2 => (hst'.out i s n h1 h2).keepI hk) rfl (by rw [htl'.out]; exact hown) hgr
        clear hown hgr hne hat
        go_wp2_with fail
        go_roundw
        case rel => exact ⟨j + 1, _, cx, by omega, by go_num, rfl, hfr', hbel'⟩
        case measure => simp [intOf]; omega
      · cases s with
        | key k =>
          have q1' : wr.cell? ⟨h, j, none⟩ = some (.iface 9 (.string k)) := q1
          clear q1
          go_wp2_with (at_builtin; refine wpList_append_own_at _ rfl _ _ 41 rfl w.heap.size 64 i0 (.agg (fragL 0 ⟨#[]⟩ (.slice none 0 0)).toArray) 13 216 Try.underlying41 hi hz0 hz1 hz2 rfl (by decide) (.slice A j c) j (fragVals (qs.take j) ns) rfl (ho'.out.alloc _) ⟨wr.heap.size, 0, none⟩ 1 1 (stepL (some (.key k)) (.slice none 0 0)) rfl (by rw [stepL_len]) ?c1 ?c2 ?c3 ?c4 ?c5 ?_)
          case c1 => exact frag_cells _ _ _ rfl
          case c2 => exact stepL_one (w := wr) rfl
          case c3 => unfold maxLen; omega
          case c4 => omega
          case c5 => simp; omega
          intro v' w' hown hgr hne hat
          obtain ⟨gx, cx, hvx, -⟩ := hown.form (by omega)
          subst hvx
          have hbel' : Below w.heap.size w w' := (hbel.trans ((below_alloc wr _).mono hsz)).grown hgr (by simp; omega) (fun g hg => (ho'.out.lt g hg).1)
          have hfr' : Hid (FrOwn w' w.heap.size (.slice (some ⟨gx, 0, none⟩) (j + 1) cx) (qs.take (j + 1))) := by
            rw [htk.out]
            have hk : KeepsI wr (wr.alloc (.cells (stepL (some (.key k)) (.slice none 0 0)).toArray 64)) := KeepsI.of_below (below_alloc _ _)
            refine FrOwn.snoc (W := wr.alloc (.cells (stepL (some (.key k)) (.slice none 0 0)).toArray 64)) (v := .slice A j c) (ns := ns) (n := (.slice none 0 0)) (by rw [htl'.out]; exact hns'.out) (by rw [htl'.out]; exact (ho'.out.alloc _)) (fun i s n h1 h2 => (hst'.out i s n h1 h2).keepI hk) rfl (by rw [htl'.out]; exact hown) hgr
          clear hown hgr hne hat
          go_wp2_with fail
          go_roundw
          case rel => exact ⟨j + 1, _, cx, by omega, by go_num, rfl, hfr', hbel'⟩
          case measure => simp [intOf]; omega
        | idx k =>
          have q1' : wr.cell? ⟨h, j, none⟩ = some (.iface 3 (.int .i64 k)) := q1
          clear q1
          go_wp2_with (at_builtin; refine wpList_append_own_at _ rfl _ _ 41 rfl w.heap.size 64 i0 (.agg (fragL 0 ⟨#[]⟩ (.slice none 0 0)).toArray) 13 216 Try.underlying41 hi hz0 hz1 hz2 rfl (by decide) (.slice A j c) j (fragVals (qs.take j) ns) rfl ((ho'.out.alloc _).alloc _) ⟨wr.heap.size + 1, 0, none⟩ 1 1 (stepL (some (.idx k)) (.slice (some ⟨wr.heap.size, 0, none⟩) 1 1)) rfl (by rw [stepL_len]) ?c1 ?c2 ?c3 ?c4 ?c5 ?_)
          case c1 => exact frag_cells2 _ _ _ _ rfl
          case c2 => exact stepL_one (w := wr.alloc (.cells #[.int .i64 k] 3)) ⟨_, _, rfl, heap_alloc_new _ _, rfl⟩
          case c3 => unfold maxLen; omega
          case c4 => omega
          case c5 => simp; omega
          intro v' w' hown hgr hne hat
          obtain ⟨gx, cx, hvx, -⟩ := hown.form (by omega)
          subst hvx
          have hbel' : Below w.heap.size w w' := (hbel.trans ((below_two wr _ _).mono hsz)).grown hgr (by simp; omega) (fun g hg => (ho'.out.lt g hg).1)
          have hfr' : Hid (FrOwn w' w.heap.size (.slice (some ⟨gx, 0, none⟩) (j + 1) cx) (qs.take (j + 1))) := by
            rw [htk.out]
            have hk : KeepsI wr ((wr.alloc (.cells #[.int .i64 k] 3)).alloc (.cells (stepL (some (.idx k)) (.slice (some ⟨wr.heap.size, 0, none⟩) 1 1)).toArray 64)) := KeepsI.of_below (below_two _ _ _)
            refine FrOwn.snoc (W := (wr.alloc (.cells #[.int .i64 k] 3)).alloc (.cells (stepL (some (.idx k)) (.slice (some ⟨wr.heap.size, 0, none⟩) 1 1)).toArray 64)) (v := .slice A j c) (ns := ns) (n := (.slice (some ⟨wr.heap.size, 0, none⟩) 1 1)) (by rw [htl'.out]; exact hns'.out) (by rw [htl'.out]; exact ((ho'.out.alloc _).alloc _)) (fun i s n h1 h2 => (hst'.out i s n h1 h2).keepI hk) ⟨wr.heap.size, #[.int .i64 k], rfl, (Below.heap_alloc _ _ _ (by simp)).trans (heap_alloc_new _ _), rfl⟩ (by rw [htl'.out]; exact hown) hgr
          clear hown hgr hne hat
          go_wp2_with fail
          go_roundw
          case rel => exact ⟨j + 1, _, cx, by omega, by go_num, rfl, hfr', hbel'⟩
          case measure => simp [intOf]; omega
    · obtain rfl : j = n := by omega
      have hfin : Hid (FrOwn wr w.heap.size (.slice A j c) qs) := by
        have := hfr.out
        rw [List.take_of_length_le (by rw [hn'.out]; exact Nat.le_refl _)] at this
        exact this
      clear hfr
      go_wp2_with fail
      go_ret
      exact ⟨_, rfl, hfin.out, hbel⟩
end Go.Proofs.Ytpdcoipfpffhnaa
