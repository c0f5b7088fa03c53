/-
  alt.Filter.add of a map of one pair. Conditions: none.
-/
import Derived.Test.YtpdcoipfpffhnaaFilt
import Derived.Test.YtpdcoipfpffhnaaSplit
import Derived.Test.YtpdcoipfpffhnaaPlain
import Derived.Outline
namespace Go.Proofs.Ytpdcoipfpffhnaa
open Go.ChangeShapes Go.WideShapes Go.ChangeAt Go.RowKit
open Go.ChangeMaps (setBlock)
set_option linter.unusedVariables false
attribute [local go_sem] tay_bool tam_bool tan_bool tay_int tam_int tan_int tay_int8 tam_int8 tan_int8 tay_int16 tam_int16 tan_int16 tay_int32 tam_int32 tan_int32 tay_int64 tam_int64 tan_int64 tay_uint tam_uint tan_uint tay_uint8 tam_uint8 tan_uint8 tay_uint16 tam_uint16 tan_uint16 tay_uint32 tam_uint32 tan_uint32 tay_uint64 tam_uint64 tan_uint64 tay_float32 tam_float32 tan_float32 tay_float64 tam_float64 tan_float64 tay_string tam_string tan_string tay_sl tam_sl tan_sl tay_mp tam_mp tan_mp tay_fil tam_fil tan_fil tay_gint tam_gint tan_gint tay_gfl tam_gfl tan_gfl
inductive LeafX : Value → Prop
  | nil : LeafX .nilIface
  | bool (b : Bool) : LeafX (.iface 4 (.bool b))
  | int (n : Int) : LeafX (.iface 2 (.int .i64 n))
  | str (s : ByteArray) : LeafX (.iface 9 (.string s))
theorem PT.leafX {w : World} {lo hi : Nat} {v : V} {x : Value} (h : PT w lo hi v x) (h4 : v.kind ≠ 4) (h7 : v.kind ≠ 7) (h8 : v.kind ≠ 8) : LeafX x := by
  cases h with
  | null _ _ _ h => exact .nil
  | bool _ _ _ h => exact .bool _
  | int _ _ _ h => exact .int _
  | float _ _ _ h => exact absurd h h4
  | str _ _ _ h => exact .str _
  | arr _ _ _ h => exact absurd h h7
  | obj _ _ _ h => exact absurd h h8

/-- A map of one pair, entry by entry. -/
structure One (w : World) (b : Nat) (k : ByteArray) (x : Value) (es : Array MapEntry) (clock : Nat) (e0 : MapEntry) : Prop where
  hb : w.heap[b]? = some (.map es clock)
  st : MapKept.Stamped es clock
  en : Ents [(k, x)] es
  es : es.toList = [e0]
  key : e0.key = .string k
  val : e0.val = x
theorem one_of {w : World} {b : Nat} {k : ByteArray} {x : Value} (h : HasMap w b [(k, x)]) : ∃ es clock e0, One w b k x es clock e0 := by
  obtain ⟨es, clock, hb, hs, he⟩ := h
  have hl : es.toList.length = 1 := by have := he.size; simpa using this
  obtain ⟨e0, he0⟩ := List.length_eq_one_iff.1 hl
  have h2 := he
  unfold Ents at h2
  rw [he0] at h2
  simp at h2
  exact ⟨es, clock, e0, hb, hs, he, he0, h2.1, h2.2⟩
theorem One.left0 {w : World} {b : Nat} {k : ByteArray} {x : Value} {es : Array MapEntry} {clock : Nat} {e0 : MapEntry} (h : One w b k x es clock e0) : ¬ (leftOf es #[]).size = 0 := by
  intro h0
  have := all_seen es #[] h0 e0 (by rw [h.es]; simp)
  simp at this
theorem One.left1 {w : World} {b : Nat} {k : ByteArray} {x : Value} {es : Array MapEntry} {clock : Nat} {e0 : MapEntry} (h : One w b k x es clock e0) {e : MapEntry} (he : e ∈ (leftOf es #[e0.born]).toList) : False := by
  have h1 := mem_left he
  rw [h.es] at h1
  simp at h1
  exact h1.2 (by rw [h1.1])
theorem One.mem {w : World} {b : Nat} {k : ByteArray} {x : Value} {es : Array MapEntry} {clock : Nat} {e0 : MapEntry} (h : One w b k x es clock e0) {e : MapEntry} {s : Array Nat} (he : e ∈ (leftOf es s).toList) : e = e0 := by
  have h1 := (mem_left he).1
  rw [h.es] at h1
  simpa using h1

def Added (fb : Nat) (ps : World → List (ByteArray × Value) → Prop) (w : World) (e : Ending) (w' : World) : Prop := ∃ qs, e = .returned (.tuple #[]) ∧ ps w' qs ∧ HasMap w' fb qs ∧ w.grownBy w' (some fb)

theorem grown_setBlock {w w1 : World} {fb : Nat} (h : w.grownBy w1 (some fb)) (o : Obj) : w.grownBy (setBlock w1 fb o) (some fb) :=
  ⟨h.os, h.tape, h.output, by simp [setBlock]; exact h.size, fun k hk hne => by
    simp only [setBlock, Array.getElem?_setIfInBounds]
    rw [if_neg (fun e => hne (by rw [e]))]
    exact h.block k hk hne⟩
theorem grown_below {w w1 w2 : World} {row : Option Nat} (h : w.grownBy w1 row) (hb : Below w1.heap.size w1 w2) : w.grownBy w2 row :=
  ⟨hb.os.trans h.os, hb.tape.trans h.tape, hb.output.trans h.output, Nat.le_trans h.size hb.size, fun k hk hne => (hb.block k (Nat.lt_of_lt_of_le hk h.size)).trans (h.block k hk hne)⟩

theorem next_grown {w wr w1 : World} {r b since c0 clock : Nat} {seen : Array Nat} {born : Nat} {row : Option Nat} (hr : wr.heap[r]? = some (.mapIter (some b) since seen c0)) (hw1 : w1 = wr ∨ w1 = wr.drew) (hg : w.grownBy wr row) (hB : w.heap.size ≤ r) :
    (setBlock w1 r (.mapIter (some b) since (seen.push born) clock)).heap[r]? = some (.mapIter (some b) since (seen.push born) clock) ∧ w.grownBy (setBlock w1 r (.mapIter (some b) since (seen.push born) clock)) row ∧ ∀ k, k ≠ r → (setBlock w1 r (.mapIter (some b) since (seen.push born) clock)).heap[k]? = wr.heap[k]? := by
  have hr1 : w1.heap[r]? = some (.mapIter (some b) since seen c0) := by rcases hw1 with rfl | rfl <;> exact hr
  have hh : w1.heap = wr.heap := by rcases hw1 with rfl | rfl <;> rfl
  have hg1 : w.grownBy w1 row := by
    rcases hw1 with rfl | rfl
    · exact hg
    · exact ⟨hg.os, hg.tape, hg.output, hg.size, hg.block⟩
  have hfar : ∀ k, k ≠ r → (setBlock w1 r (.mapIter (some b) since (seen.push born) clock)).heap[k]? = w1.heap[k]? := fun k hk => by
    simp only [setBlock, Array.getElem?_setIfInBounds]
    rw [if_neg (fun e => hk e.symm)]
  refine ⟨by simp [setBlock, (Array.getElem?_eq_some_iff.1 hr1).1], ⟨hg1.os, hg1.tape, hg1.output, by simp [setBlock]; exact hg1.size, fun k hk hne => (hfar k (by omega)).trans (hg1.block k hk hne)⟩, fun k hk => (hfar k hk).trans (by rw [hh])⟩

set_option maxRecDepth 100000 in
set_option maxHeartbeats 4000000 in
theorem add_one (fb sb : Nat) (k : ByteArray) (x : Value) (w : World) (hf : HasMap w fb []) (hs : HasMap w sb [(k, x)]) (hne : sb ≠ fb) (hk : NoDot k) (hks : k.size ≤ 1000) (hx : LeafX x) :
    Calls Try.prog 67 #[.map (some fb), .map (some sb)] w (Added fb (fun _ qs => qs = [(k, x)]) w) := by
  obtain ⟨es, clock, e0, ho⟩ := one_of hs
  have ho' := Lib.hid ho
  have hf' := Lib.hid hf
  have hkd := Lib.hid hk
  have hx' := Lib.hid hx
  have hsl := hs.lt
  have hfl := hf.lt
  clear ho hs hf hk hx
  go_enter Try.func67, Try.ntmps67
  go_wp2_with (at_range; refine wpList_range_str _ rfl _ 54 rfl _ _ Try.underlying54 sb es clock rfl ho'.out.hb ?_)
  go_frame
  go_loopw [] (fun wr => ∃ (seen : Array Nat) (c0 : Nat), Hid (wr.heap[w.heap.size]? = some (.mapIter (some sb) clock seen c0)) ∧ clock ≤ c0 ∧ Hid ((seen = #[] ∧ HasMap wr fb []) ∨ (seen = #[e0.born] ∧ HasMap wr fb [(k, x)])) ∧ Hid (w.grownBy wr (some fb))) (fun wr => (leftOf es (wr.iterSeen w.heap.size)).size)
  case atStart => exact ⟨#[], clock, heap_alloc_new _ _, Nat.le_refl _, Or.inl ⟨rfl, hf'.out.same (Below.heap_alloc _ _ _ hfl)⟩, World.grownBy_alloc _ _ _⟩
  case round =>
    obtain ⟨seen, c0, hr, hc0, hst, hgr⟩ := hrel
    have hbr : Hid (wr.heap[sb]? = some (.map es clock)) := (hgr.out.block sb hsl (by simp; exact hne)).trans ho'.out.hb
    have hold : Hid (∀ x ∈ es.toList, x.born < clock) := ho'.out.st.1
    go_wp2_with (at_next; refine wpList_next_str _ rfl _ rfl w.heap.size sb clock c0 seen es clock [(k, x)] rfl hr.out hbr.out hold.out hc0 ho'.out.en ?_ ?_)
    · intro h0
      have hfin : Hid (HasMap wr fb [(k, x)]) := by
        rcases hst.out with ⟨rfl, _⟩ | ⟨_, h⟩
        · exact absurd (by simpa using h0) ho'.out.left0
        · exact h
      clear h0 hst
      go_wp2_with fail
      go_end0
      exact ⟨_, rfl, rfl, hfin.out, hgr.out⟩
    · intro x1 s v w1 hx0 hsk hvx hxk hxv hw1
      have hx1 : x1 ∈ (leftOf es seen).toList := by simpa using hx0
      have hseen : seen = #[] ∧ HasMap wr fb [] := by
        rcases hst.out with h | ⟨rfl, _⟩
        · exact h
        · exact (ho'.out.left1 (ho'.out.mem hx1 ▸ hx1)).elim
      obtain ⟨rfl, hf1⟩ := hseen
      obtain rfl := ho'.out.mem hx1
      subst hsk hvx
      have hnw := next_grown (clock := clock) (born := x1.born) hr.out hw1 hgr.out (Nat.le_refl _)
      have hsh := Lib.hid (left_shrinks es #[] x1 hx1)
      have hsn := Lib.hid (iterSeen_of hr.out)
      have hrlt : w.heap.size < wr.heap.size := (Array.getElem?_eq_some_iff.1 hr.out).1
      clear hr hst hx0 hx1
      generalize setBlock w1 w.heap.size (.mapIter (some sb) clock ((#[] : Array Nat).push x1.born) clock) = W1 at hnw ⊢
      obtain ⟨hr1, hgr1, hfar⟩ := hnw
      have hb3 : Hid (W1.heap[sb]? = some (.map es clock)) := (hfar sb (by omega)).trans hbr.out
      have hen : (Instr.entry (.pointer (some ⟨w.heap.size, 0, none⟩))).run Try.prog W1 = .ok (.tuple #[.string s, v]) W1 := by
        rw [← hxk, ← hxv]
        exact run_entry_at W1 w.heap.size sb clock #[] es clock x1 hr1 hb3.out (by rw [ho'.out.es]; simp) ho'.out.st.2.1
      have hf2 := Lib.hid (hf1.same (hfar fb (by omega)))
      have hr1' := Lib.hid hr1
      have hgr1' := Lib.hid hgr1
      have hxv' := Lib.hid hxv
      clear hr1 hxk hxv hw1 hf1 hgr hbr hfar hgr1
      go_wp2_with fail
      refine (split_one s W1 (by omega) hkd.out).mono ?_
      rintro e w2 ⟨pv, ys, rfl, rfl, hown, hb2⟩
      have hown' := Lib.hid hown
      obtain ⟨A, c, rfl, hc1, hc2⟩ := own_slice hown
      obtain ⟨g, rfl, hcell⟩ := own_cell hown (j := 0) (s := s) rfl
      have hcap : 1 ≤ c := by simpa using hc1
      clear hown hc1 hc2
      have hwfb : HasMap w2 fb [] := hf2.out.same (hb2.block fb hf2.out.lt)
      obtain ⟨o, hrun, hm3⟩ := update_new (P := Try.prog) (t := 56) Try.underlying56 Try.underlying9 hwfb v (s := s) (by simp)
      have hm3' : Hid (HasMap (setBlock w2 fb o) fb [(s, v)]) := hm3
      have hgr3 := Lib.hid (grown_setBlock (grown_below hgr1'.out hb2) o)
      have hr3 : Hid ((setBlock w2 fb o).heap[w.heap.size]? = some (.mapIter (some sb) clock ((#[] : Array Nat).push x1.born) clock)) :=
        (setBlock_far _ _ _ (by omega)).trans ((hb2.block _ (Array.getElem?_eq_some_iff.1 hr1'.out).1).trans hr1'.out)
      have hmeas : Hid ((leftOf es ((setBlock w2 fb o).iterSeen w.heap.size)).size < (leftOf es (wr.iterSeen w.heap.size)).size) := by
        rw [iterSeen_of hr3.out, hsn.out]; exact hsh.out
      clear hm3 hwfb hsh hsn hb2 hen hr1' hb3
      have hlf := hx'.out
      clear hx'
      cases hlf
      all_goals
        go_wp2_with fail
        refine wp_loop_rounds 1 ?_
        rw [rounds_succ]
        go_wp2_with (go_at_call 62; refine (asInt_int _ _).mono ?_; rintro e w' ⟨rfl, rfl⟩)
        go_roundw
        case rel => exact ⟨_, clock, hr3, Nat.le_refl _, Or.inr ⟨rfl, hm3'.out⟩, hgr3⟩
        case measure => exact hmeas.out
end Go.Proofs.Ytpdcoipfpffhnaa
