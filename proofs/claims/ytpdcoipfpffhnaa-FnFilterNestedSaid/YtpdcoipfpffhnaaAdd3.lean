/-
  alt.Filter.add of a map within a map; alt.NewFilter at an empty map. Conditions: none.
-/
import Derived.Test.YtpdcoipfpffhnaaAdd2
import Derived.Outline
namespace Go.Proofs.Ytpdcoipfpffhnaa
open Go.ChangeShapes Go.WideShapes Go.ChangeAt Go.RowKit
open Go.ChangeMaps (setBlock)
set_option linter.unusedVariables false
attribute [local go_sem] tay_bool tam_bool tan_bool tay_int tam_int tan_int tay_int8 tam_int8 tan_int8 tay_int16 tam_int16 tan_int16 tay_int32 tam_int32 tan_int32 tay_int64 tam_int64 tan_int64 tay_uint tam_uint tan_uint tay_uint8 tam_uint8 tan_uint8 tay_uint16 tam_uint16 tan_uint16 tay_uint32 tam_uint32 tan_uint32 tay_uint64 tam_uint64 tan_uint64 tay_float32 tam_float32 tan_float32 tay_float64 tam_float64 tan_float64 tay_string tam_string tan_string tay_sl tam_sl tan_sl tay_mp tam_mp tan_mp tay_fil tam_fil tan_fil tay_gint tam_gint tan_gint tay_gfl tam_gfl tan_gfl

set_option maxRecDepth 100000 in
set_option maxHeartbeats 4000000 in
theorem add_empty (fb sb : Nat) (w : World) (hs : HasMap w sb []) :
    Calls Try.prog 67 #[.map (some fb), .map (some sb)] w fun e w' => e = .returned (.tuple #[]) ∧ Below w.heap.size w w' := by
  obtain ⟨es, clock, hb, hst, he⟩ := hs
  have hb' := Lib.hid hb
  have hst' := Lib.hid hst
  have he' := Lib.hid he
  have hlt : sb < w.heap.size := (Array.getElem?_eq_some_iff.1 hb).1
  clear hb hst he
  go_enter Try.func67, Try.ntmps67
  go_wp2_with (at_range; refine wpList_range_str _ rfl _ 54 rfl _ _ Try.underlying54 sb es clock rfl hb'.out ?_)
  go_frame
  refine wp_loop_rounds 1 ?_
  rw [rounds_succ]
  have hr : Hid ((w.alloc (.mapIter (some sb) clock #[] clock)).heap[w.heap.size]? = some (.mapIter (some sb) clock #[] clock)) := heap_alloc_new _ _
  have hbr : Hid ((w.alloc (.mapIter (some sb) clock #[] clock)).heap[sb]? = some (.map es clock)) := (Below.heap_alloc _ _ _ hlt).trans hb'.out
  have hold : Hid (∀ x ∈ es.toList, x.born < clock) := hst'.out.1
  have hle : clock ≤ clock := Nat.le_refl _
  go_wp2_with (at_next; refine wpList_next_str _ rfl _ rfl w.heap.size sb clock clock #[] es clock [] rfl hr.out hbr.out hold.out hle he'.out ?_ ?_)
  intro h0
  go_wp2_with fail
  go_end0
  exact ⟨rfl, below_alloc _ _⟩

set_option maxHeartbeats 1000000 in
theorem newFilter_empty (sb : Nat) (w : World) (hs : HasMap w sb []) :
    Calls Try.prog 37 #[.map (some sb)] w fun e w' => ∃ g, e = .returned (.map (some g)) ∧ HasMap w' g [] ∧ w.heap.size ≤ g ∧ Below w.heap.size w w' := by
  have hmm := @run_makeMap Try.prog
  have hs' := Lib.hid hs
  clear hs
  go_enter Try.func37, Try.ntmps37
  go_wp2_with fail
  refine (add_empty w.heap.size sb _ (hs'.out.same (Below.heap_alloc w (.map #[] 0) _ hs'.out.lt))).mono ?_
  rintro e w2 ⟨rfl, hb2⟩
  have hm : Hid (HasMap w2 w.heap.size []) := (HasMap.made w).same (hb2.block _ (by simp))
  have hbw : Below w.heap.size w w2 := (below_alloc w _).trans (hb2.mono (by simp))
  clear hb2
  go_wp2_with fail
  go_ret
  exact ⟨_, rfl, hm.out, Nat.le_refl _, hbw⟩

set_option maxRecDepth 100000 in
set_option maxHeartbeats 4000000 in
theorem add_nest (fb sb m2 : Nat) (a b : ByteArray) (y x : Value) (w : World) (hxy : x = .iface 54 (.map (some m2))) (hm2 : HasMap w m2 [(b, y)]) (hmf : m2 ≠ fb) (hf : HasMap w fb []) (hs : HasMap w sb [(a, x)]) (hne : sb ≠ fb) (hka : NoDot a) (hkb : NoDot b) (hsa : a.size ≤ 1000) (hsb : b.size ≤ 1000) (hx : LeafX y) :
    Calls Try.prog 67 #[.map (some fb), .map (some sb)] w (Added fb (Node a b y w.heap.size) w) := by
  obtain ⟨es, clock, e0, ho⟩ := one_of hs
  have ho' := Lib.hid ho
  have hf' := Lib.hid hf
  have hka' := Lib.hid hka
  have hkb' := Lib.hid hkb
  have hxy' := Lib.hid hxy
  have hm2' := Lib.hid hm2
  have hm2l := hm2.lt
  have hx' := Lib.hid hx
  have hsl := hs.lt
  have hfl := hf.lt
  clear ho hs hf hka hkb hx hxy hm2
  go_enter Try.func67, Try.ntmps67
  go_wp2_with (at_range; refine wpList_range_str _ rfl _ 54 rfl _ _ Try.underlying54 sb es clock rfl ho'.out.hb ?_)
  go_frame
  go_loopw [] (fun wr => ∃ (seen : Array Nat) (c0 : Nat), Hid (wr.heap[w.heap.size]? = some (.mapIter (some sb) clock seen c0)) ∧ clock ≤ c0 ∧ Hid ((seen = #[] ∧ HasMap wr fb []) ∨ (seen = #[e0.born] ∧ ∃ qs, Node a b y w.heap.size wr qs ∧ HasMap wr fb qs)) ∧ Hid (w.grownBy wr (some fb))) (fun wr => (leftOf es (wr.iterSeen w.heap.size)).size)
  case atStart => exact ⟨#[], clock, heap_alloc_new _ _, Nat.le_refl _, Or.inl ⟨rfl, hf'.out.same (Below.heap_alloc _ _ _ hfl)⟩, World.grownBy_alloc _ _ _⟩
  case round =>
    obtain ⟨seen, c0, hr, hc0, hst, hgr⟩ := hrel
    have hbr : Hid (wr.heap[sb]? = some (.map es clock)) := (hgr.out.block sb hsl (by simp; exact hne)).trans ho'.out.hb
    have hold : Hid (∀ x ∈ es.toList, x.born < clock) := ho'.out.st.1
    go_wp2_with (at_next; refine wpList_next_str _ rfl _ rfl w.heap.size sb clock c0 seen es clock [(a, x)] rfl hr.out hbr.out hold.out hc0 ho'.out.en ?_ ?_)
    · intro h0
      have hfin : Hid (∃ qs, Node a b y w.heap.size wr qs ∧ HasMap wr fb qs) := by
        rcases hst.out with ⟨rfl, _⟩ | ⟨_, h⟩
        · exact absurd (by simpa using h0) ho'.out.left0
        · exact h
      clear h0 hst
      go_wp2_with fail
      go_end0
      obtain ⟨qs, h1, h2⟩ := hfin.out
      exact ⟨qs, rfl, h1, h2, hgr.out⟩
    · intro x1 s v w1 hx0 hsk hvx hxk hxv hw1
      have hx1 : x1 ∈ (leftOf es seen).toList := by simpa using hx0
      have hseen : seen = #[] ∧ HasMap wr fb [] := by
        rcases hst.out with h | ⟨rfl, _⟩
        · exact h
        · exact (ho'.out.left1 (ho'.out.mem hx1 ▸ hx1)).elim
      obtain ⟨rfl, hf1⟩ := hseen
      obtain rfl := ho'.out.mem hx1
      subst hsk hvx
      have hnw := next_grown (clock := clock) (born := x1.born) hr.out hw1 hgr.out (Nat.le_refl _)
      have hsh := Lib.hid (left_shrinks es #[] x1 hx1)
      have hsn := Lib.hid (iterSeen_of hr.out)
      have hrlt : w.heap.size < wr.heap.size := (Array.getElem?_eq_some_iff.1 hr.out).1
      clear hr hst hx0 hx1
      generalize setBlock w1 w.heap.size (.mapIter (some sb) clock ((#[] : Array Nat).push x1.born) clock) = W1 at hnw ⊢
      obtain ⟨hr1, hgr1, hfar⟩ := hnw
      have hb3 : Hid (W1.heap[sb]? = some (.map es clock)) := (hfar sb (by omega)).trans hbr.out
      have hen : (Instr.entry (.pointer (some ⟨w.heap.size, 0, none⟩))).run Try.prog W1 = .ok (.tuple #[.string s, v]) W1 := by
        rw [← hxk, ← hxv]
        exact run_entry_at W1 w.heap.size sb clock #[] es clock x1 hr1 hb3.out (by rw [ho'.out.es]; simp) ho'.out.st.2.1
      have hf2 := Lib.hid (hf1.same (hfar fb (by omega)))
      have hr1' := Lib.hid hr1
      have hgr1' := Lib.hid hgr1
      have hxv' := Lib.hid hxv
      clear hr1 hxk hxv hw1 hf1 hgr hbr hfar hgr1
      go_wp2_with fail
      refine (split_one s W1 (by omega) hka'.out).mono ?_
      rintro e w2 ⟨pv, ys, rfl, rfl, hown, hb2⟩
      have hown' := Lib.hid hown
      obtain ⟨A, c, rfl, hc1, hc2⟩ := own_slice hown
      obtain ⟨g, rfl, hcell⟩ := own_cell hown (j := 0) (s := s) rfl
      have hcap : 1 ≤ c := by simpa using hc1
      have hrW : w.heap.size < W1.heap.size := (Array.getElem?_eq_some_iff.1 hr1'.out).1
      clear hown hc1 hc2
      have hwfb : HasMap w2 fb [] := hf2.out.same (hb2.block fb hf2.out.lt)
      have hfb2 : fb < w2.heap.size := hwfb.lt
      have hlk : (Instr.lookup 56 (.map (some fb)) (.string s) false).run Try.prog w2 = .ok .nilIface w2 := lookup_not Try.underlying56 Try.underlying9 (by kernel_rfl) hwfb (by simp)
      have qm : ∀ w : World, (binOp .eql 56 (.map none) (.map none)).run Try.prog w = .ok (.bool true) w := fun w => run_eql_map_nil w _ _ _ none Try.underlying56
      have hmm := @run_makeMap Try.prog
      have hgr2 := Lib.hid (grown_below hgr1'.out hb2)
      have hwfb' := Lib.hid hwfb
      have hb2' := Lib.hid hb2
      rw [hxy'.out]
      rw [hxy'.out] at hen
      clear hwfb hb2
      go_wp2_with fail
      refine wp_loop_rounds 1 ?_
      rw [rounds_succ]
      go_wp2_with fail
      refine (newFilter_empty w2.heap.size _ (HasMap.made w2)).mono ?_
      rintro e w3 ⟨g2, rfl, hg2, hge, hb3'⟩
      have hb4 : Below w2.heap.size w2 w3 := (below_alloc w2 _).trans (hb3'.mono (by rw [alloc_size]; omega))
      rw [alloc_size] at hge
      obtain ⟨o, hrun, hm3⟩ := update_new (P := Try.prog) (t := 56) Try.underlying56 Try.underlying9 (hwfb'.out.same (hb4.block _ hfb2)) (.iface 56 (.map (some g2))) (s := s) (by simp)
      have hg2' : Hid (HasMap (setBlock w3 fb o) g2 []) := hg2.same (setBlock_far _ _ _ (by omega))
      have hm23 : Hid (HasMap (setBlock w3 fb o) m2 [(b, y)]) :=
        hm2'.out.same ((setBlock_far _ _ _ hmf).trans ((hgr2.out.block m2 hm2l (by simp; exact hmf) ▸ hb4.block m2 (by have := hb2'.out.size; omega))))
      have hm3' := Lib.hid hm3
      have hb4' := Lib.hid hb4
      have hw3g : g2 < w3.heap.size := hg2.lt
      clear hg2 hm3 hb4 hb3' hlk hcell
      go_wp2_with fail
      refine (add_one g2 m2 b y (setBlock w3 fb o) hg2'.out hm23.out (by have := hb2'.out.size; omega) hkb'.out hsb hx'.out).mono ?_
      rintro e w4 ⟨qs, rfl, hqs, hg4, hgr4⟩
      have hfb4 : HasMap w4 fb [(s, .iface 56 (.map (some g2)))] := hm3'.out.same (hgr4.block fb (by rw [setBlock_size]; have := hb4'.out.size; omega) (by simp; omega))
      have hW2 : W1.heap.size ≤ w2.heap.size := hb2'.out.size
      have hW3 : w2.heap.size ≤ w3.heap.size := hb4'.out.size
      have hgrw : Hid (w.grownBy w4 (some fb)) := by
        have h2 := hgr2.out
        have h4 := hb4'.out
        refine ⟨hgr4.os.trans (h4.os.trans h2.os), hgr4.tape.trans (h4.tape.trans h2.tape), hgr4.output.trans (h4.output.trans h2.output), ?_, fun k hk hne => ?_⟩
        · have := hgr4.size; rw [setBlock_size] at this; omega
        · have hkf : k ≠ fb := fun e => hne (by rw [e])
          exact (hgr4.block k (by rw [setBlock_size]; omega) (by simp; omega)).trans ((setBlock_far _ _ _ hkf).trans ((h4.block k (by omega)).trans (h2.block k hk hne)))
      have hnode : Hid (Node s b y w.heap.size w4 [(s, .iface 56 (.map (some g2)))] ∧ HasMap w4 fb [(s, .iface 56 (.map (some g2)))]) :=
        ⟨⟨g2, rfl, by omega, by rw [hqs] at hg4; exact hg4⟩, hfb4⟩
      have hr4 : Hid (w4.heap[w.heap.size]? = some (.mapIter (some sb) clock ((#[] : Array Nat).push x1.born) clock)) :=
        (hgr4.block _ (by rw [setBlock_size]; omega) (by simp; omega)).trans ((setBlock_far _ _ _ (by omega)).trans ((hb4'.out.block _ (by omega)).trans ((hb2'.out.block _ hrW).trans hr1'.out)))
      have hmeas : Hid ((leftOf es (w4.iterSeen w.heap.size)).size < (leftOf es (wr.iterSeen w.heap.size)).size) := by
        rw [iterSeen_of hr4.out, hsn.out]; exact hsh.out
      clear hfb4 hgr4 hg4 hqs hrun hen
      go_wp2_with fail
      go_roundw
      case rel => exact ⟨_, clock, hr4, Nat.le_refl _, Or.inr ⟨rfl, _, hnode.out⟩, hgrw⟩
      case measure => exact hmeas.out
end Go.Proofs.Ytpdcoipfpffhnaa
