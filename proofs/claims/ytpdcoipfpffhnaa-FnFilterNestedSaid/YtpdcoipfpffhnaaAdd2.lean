/-
  alt.Filter.add of a dotted key, and of a map within a map; alt.NewFilter. Conditions: none.
-/
import Derived.Test.YtpdcoipfpffhnaaAdd
namespace Go.Proofs.Ytpdcoipfpffhnaa
open Go.ChangeShapes Go.WideShapes Go.ChangeAt Go.RowKit
open Go.ChangeMaps (setBlock)
set_option linter.unusedVariables false
attribute [local go_sem] tay_bool tam_bool tan_bool tay_int tam_int tan_int tay_int8 tam_int8 tan_int8 tay_int16 tam_int16 tan_int16 tay_int32 tam_int32 tan_int32 tay_int64 tam_int64 tan_int64 tay_uint tam_uint tan_uint tay_uint8 tam_uint8 tan_uint8 tay_uint16 tam_uint16 tan_uint16 tay_uint32 tam_uint32 tan_uint32 tay_uint64 tam_uint64 tan_uint64 tay_float32 tam_float32 tan_float32 tay_float64 tam_float64 tan_float64 tay_string tam_string tan_string tay_sl tam_sl tan_sl tay_mp tam_mp tan_mp tay_fil tam_fil tan_fil tay_gint tam_gint tan_gint tay_gfl tam_gfl tan_gfl

/-- One node below a key. -/
def Node (a b : ByteArray) (x : Value) (lo : Nat) (w' : World) (qs : List (ByteArray × Value)) : Prop := ∃ g, qs = [(a, .iface 56 (.map (some g)))] ∧ lo ≤ g ∧ HasMap w' g [(b, x)]

set_option maxRecDepth 100000 in
set_option maxHeartbeats 4000000 in
theorem add_two (fb sb : Nat) (a b k : ByteArray) (x : Value) (w : World) (hab : k = dotted a b) (hf : HasMap w fb []) (hs : HasMap w sb [(k, x)]) (hne : sb ≠ fb) (hka : NoDot a) (hkb : NoDot b) (hsa : a.size ≤ 1000) (hsb : b.size ≤ 1000) (hx : LeafX x) :
    Calls Try.prog 67 #[.map (some fb), .map (some sb)] w (Added fb (Node a b x w.heap.size) w) := by
  obtain ⟨es, clock, e0, ho⟩ := one_of hs
  have ho' := Lib.hid ho
  have hf' := Lib.hid hf
  have hka' := Lib.hid hka
  have hkb' := Lib.hid hkb
  have hab' := Lib.hid hab
  have hx' := Lib.hid hx
  have hsl := hs.lt
  have hfl := hf.lt
  clear ho hs hf hka hkb hx hab
  go_enter Try.func67, Try.ntmps67
  go_wp2_with (at_range; refine wpList_range_str _ rfl _ 54 rfl _ _ Try.underlying54 sb es clock rfl ho'.out.hb ?_)
  go_frame
  go_loopw [] (fun wr => ∃ (seen : Array Nat) (c0 : Nat), Hid (wr.heap[w.heap.size]? = some (.mapIter (some sb) clock seen c0)) ∧ clock ≤ c0 ∧ Hid ((seen = #[] ∧ HasMap wr fb []) ∨ (seen = #[e0.born] ∧ ∃ qs, Node a b x w.heap.size wr qs ∧ HasMap wr fb qs)) ∧ Hid (w.grownBy wr (some fb))) (fun wr => (leftOf es (wr.iterSeen w.heap.size)).size)
  case atStart => exact ⟨#[], clock, heap_alloc_new _ _, Nat.le_refl _, Or.inl ⟨rfl, hf'.out.same (Below.heap_alloc _ _ _ hfl)⟩, World.grownBy_alloc _ _ _⟩
  case round =>
    obtain ⟨seen, c0, hr, hc0, hst, hgr⟩ := hrel
    have hbr : Hid (wr.heap[sb]? = some (.map es clock)) := (hgr.out.block sb hsl (by simp; exact hne)).trans ho'.out.hb
    have hold : Hid (∀ x ∈ es.toList, x.born < clock) := ho'.out.st.1
    go_wp2_with (at_next; refine wpList_next_str _ rfl _ rfl w.heap.size sb clock c0 seen es clock [(k, x)] rfl hr.out hbr.out hold.out hc0 ho'.out.en ?_ ?_)
    · intro h0
      have hfin : Hid (∃ qs, Node a b x w.heap.size wr qs ∧ HasMap wr fb qs) := by
        rcases hst.out with ⟨rfl, _⟩ | ⟨_, h⟩
        · exact absurd (by simpa using h0) ho'.out.left0
        · exact h
      clear h0 hst
      go_wp2_with fail
      go_end0
      obtain ⟨qs, h1, h2⟩ := hfin.out
      exact ⟨qs, rfl, h1, h2, hgr.out⟩
    · intro x1 s v w1 hx0 hsk hvx hxk hxv hw1
      have hx1 : x1 ∈ (leftOf es seen).toList := by simpa using hx0
      have hseen : seen = #[] ∧ HasMap wr fb [] := by
        rcases hst.out with h | ⟨rfl, _⟩
        · exact h
        · exact (ho'.out.left1 (ho'.out.mem hx1 ▸ hx1)).elim
      obtain ⟨rfl, hf1⟩ := hseen
      obtain rfl := ho'.out.mem hx1
      subst hsk hvx
      have hnw := next_grown (clock := clock) (born := x1.born) hr.out hw1 hgr.out (Nat.le_refl _)
      have hsh := Lib.hid (left_shrinks es #[] x1 hx1)
      have hsn := Lib.hid (iterSeen_of hr.out)
      have hrlt : w.heap.size < wr.heap.size := (Array.getElem?_eq_some_iff.1 hr.out).1
      clear hr hst hx0 hx1
      generalize setBlock w1 w.heap.size (.mapIter (some sb) clock ((#[] : Array Nat).push x1.born) clock) = W1 at hnw ⊢
      obtain ⟨hr1, hgr1, hfar⟩ := hnw
      have hb3 : Hid (W1.heap[sb]? = some (.map es clock)) := (hfar sb (by omega)).trans hbr.out
      have hen : (Instr.entry (.pointer (some ⟨w.heap.size, 0, none⟩))).run Try.prog W1 = .ok (.tuple #[.string s, v]) W1 := by
        rw [← hxk, ← hxv]
        exact run_entry_at W1 w.heap.size sb clock #[] es clock x1 hr1 hb3.out (by rw [ho'.out.es]; simp) ho'.out.st.2.1
      have hf2 := Lib.hid (hf1.same (hfar fb (by omega)))
      have hr1' := Lib.hid hr1
      have hgr1' := Lib.hid hgr1
      have hxv' := Lib.hid hxv
      clear hr1 hxk hxv hw1 hf1 hgr hbr hfar hgr1
      go_wp2_with fail
      rw [hab'.out]
      refine (split_two a b W1 hsa hsb hka'.out hkb'.out).mono ?_
      rintro e w2 ⟨pv, ys, rfl, rfl, hown, hb2⟩
      have hown' := Lib.hid hown
      obtain ⟨A, c, rfl, hc1, hc2⟩ := own_slice hown
      obtain ⟨g, rfl, hcell⟩ := own_cell hown (j := 0) (s := a) rfl
      obtain ⟨g', hgg, hcell1⟩ := own_cell hown (j := 1) (s := b) rfl
      obtain rfl : g = g' := by simpa using hgg
      have hcap : 2 ≤ c := by simpa using hc1
      have hglt : g < w2.heap.size := World.block_lt_of_cell? w2 _ hcell
      have hgW : W1.heap.size ≤ g := (hown.lt g rfl).1
      have hrW : w.heap.size < W1.heap.size := (Array.getElem?_eq_some_iff.1 hr1'.out).1
      clear hown hc1 hc2
      have hwfb : HasMap w2 fb [] := hf2.out.same (hb2.block fb hf2.out.lt)
      have hfb2 : fb < w2.heap.size := hwfb.lt
      have hlk : (Instr.lookup 56 (.map (some fb)) (.string a) false).run Try.prog w2 = .ok .nilIface w2 := lookup_not Try.underlying56 Try.underlying9 (by kernel_rfl) hwfb (by simp)
      have qm : ∀ w : World, (binOp .eql 56 (.map none) (.map none)).run Try.prog w = .ok (.bool true) w := fun w => run_eql_map_nil w _ _ _ none Try.underlying56
      have hmm := @run_makeMap Try.prog
      obtain ⟨o, hrun, hm3⟩ := update_new (P := Try.prog) (t := 56) Try.underlying56 Try.underlying9 (hwfb.same (Below.heap_alloc w2 (.map #[] 0) _ hfb2)) (.iface 56 (.map (some w2.heap.size))) (s := a) (by simp)
      have hsub : HasMap (setBlock (w2.alloc (.map #[] 0)) fb o) w2.heap.size [] := (HasMap.made w2).same (setBlock_far _ _ _ (by omega))
      obtain ⟨o2, hrun2, hm4⟩ := update_new (P := Try.prog) (t := 56) Try.underlying56 Try.underlying9 hsub v (s := b) (by simp)
      have hcell3 : (setBlock (w2.alloc (.map #[] 0)) fb o).cell? ⟨g, 1, none⟩ = some (.string b) :=
        (cell_same (w := w2) (w1 := setBlock (w2.alloc (.map #[] 0)) fb o) ⟨g, 1, none⟩ ((setBlock_far _ _ _ (by show g ≠ fb; have := hf2.out.lt; omega)).trans (Below.heap_alloc _ _ _ hglt))).trans hcell1
      have hgr2 := grown_below hgr1'.out hb2
      have hgr3 : Hid (w.grownBy (setBlock (setBlock (w2.alloc (.map #[] 0)) fb o) w2.heap.size o2) (some fb)) := by
        have h1 : w.grownBy (setBlock (w2.alloc (.map #[] 0)) fb o) (some fb) := grown_setBlock (grown_below hgr2 (below_alloc _ _)) o
        exact ⟨h1.os, h1.tape, h1.output, by rw [setBlock_size]; exact h1.size, fun k hk hne => (setBlock_far _ _ _ (by omega)).trans (h1.block k hk hne)⟩
      have hnode : Hid (Node a b v w.heap.size (setBlock (setBlock (w2.alloc (.map #[] 0)) fb o) w2.heap.size o2) [(a, .iface 56 (.map (some w2.heap.size)))] ∧ HasMap (setBlock (setBlock (w2.alloc (.map #[] 0)) fb o) w2.heap.size o2) fb [(a, .iface 56 (.map (some w2.heap.size)))]) :=
        ⟨⟨_, rfl, by omega, hm4⟩, hm3.same (setBlock_far _ _ _ (by omega))⟩
      have hr3 : Hid ((setBlock (setBlock (w2.alloc (.map #[] 0)) fb o) w2.heap.size o2).heap[w.heap.size]? = some (.mapIter (some sb) clock ((#[] : Array Nat).push x1.born) clock)) :=
        (setBlock_far _ _ _ (by have := hb2.size; omega)).trans ((setBlock_far _ _ _ (by omega)).trans ((Below.heap_alloc _ _ _ (by have := hb2.size; omega)).trans ((hb2.block _ hrW).trans hr1'.out)))
      have hmeas : Hid ((leftOf es ((setBlock (setBlock (w2.alloc (.map #[] 0)) fb o) w2.heap.size o2).iterSeen w.heap.size)).size < (leftOf es (wr.iterSeen w.heap.size)).size) := by
        rw [iterSeen_of hr3.out, hsn.out]; exact hsh.out
      clear hm3 hm4 hsub hwfb hsh hsn hb2 hen hr1' hb3 hgr2 hcell1 hgW hrW
      have hlf := hx'.out
      clear hx'
      cases hlf
      all_goals
        go_wp2_with fail
        refine wp_loop_rounds 2 ?_
        rw [rounds_succ]
        go_wp2_with fail
        rw [rounds_succ]
        go_wp2_with (go_at_call 62; refine (asInt_int _ _).mono ?_; rintro e w' ⟨rfl, rfl⟩)
        go_roundw
        case rel => exact ⟨_, clock, hr3, Nat.le_refl _, Or.inr ⟨rfl, _, hnode.out⟩, hgr3⟩
        case measure => exact hmeas.out
end Go.Proofs.Ytpdcoipfpffhnaa
