/-
  small: data of a bounded weight. Conditions: none.
-/
import Derived.Test.YtlebdceidmkddaaData3
namespace Go.Proofs.Ytlebdceidmkddaa
open Go.ChangeShapes Go.WideShapes Go.ChangeAt Go.RowKit
set_option linter.unusedVariables false

set_option maxHeartbeats 1000000 in
theorem small_any (v : V) {ok : Nat → Prop} (A B : Option Addr) (ca cb : Nat) (m : Int) (w : World) (hb : Bds v ca cb) (hB : Strs ok w B v.keys) (hA : Vals ok w A v.l) (hm0 : 0 ≤ m) (hm : m ≤ 1000000) :
    Calls Try.prog 5 #[.agg #[.int .i64 v.kind, .int .i64 v.n, .float .f64 v.f, .string v.s, .slice A v.l.length ca, .slice B v.keys.length cb], .int .i64 m] w
      (SomeBool (fun r => r = true → (v.heft : Int) ≤ m ∧ v.Good) w) := by
  go_enter Try.func5, Try.ntmps5
  go_wp2_with fail
  have hbel : Below (w.heap.size + 1) (w.alloc (valObj v A ca B cb)) (w.alloc (valObj v A ca B cb)) := Below.refl _ _
  have hA0 := hA.bel (boxed hbel).2
  have hB0 := hB.bel (boxed hbel).2
  refine (heft_any v A B ca cb m _ hb hB0 hA0 hm0 hm).mono ?_
  rintro e w2 ⟨r, rfl, hr0, hr1, hr, hb2⟩
  replace hbel : Below (w.heap.size + 1) (w.alloc (valObj v A ca B cb)) w2 := hbel.trans (hb2.mono (by simp))
  obtain ⟨⟨b0, b1, b2, b3, b4, b5⟩, hbw⟩ := boxed hbel
  have hr' := Lib.hid hr
  clear hr hb2 hA0 hB0
  by_cases hrm : r ≤ m
  · have hhm : (v.heft : Int) ≤ m := by have := hr'.out hrm; omega
    go_wp2_with fail
    have hle := below_boxed_size hbel
    refine (deep_any v A B ca cb w2 hb (hB.bel hbw) (hA.bel hbw) (by omega)).mono ?_
    rintro e w3 ⟨q, rfl, hq0, hq1, hb3⟩
    replace hbel : Below (w.heap.size + 1) (w.alloc (valObj v A ca B cb)) w3 := hbel.trans (hb3.mono hle)
    clear b0 b1 b2 b3 b4 b5 hbw hb3
    obtain ⟨⟨b0, b1, b2, b3, b4, b5⟩, hbw⟩ := boxed hbel
    by_cases hq : q ≤ 60
    · go_wp2_with fail
      have hle := below_boxed_size hbel
      refine (data_any v A B ca cb w3 hb (hB.bel hbw) (hA.bel hbw)).mono ?_
      rintro e w4 ⟨b, rfl, hg, hb4⟩
      have hg' := Lib.hid hg
      have hbw4 : Below w.heap.size w w4 := below_call hbw (by omega) hb4
      clear hg b0 b1 b2 b3 b4 b5
      go_wp2_with fail
      go_ret
      exact ⟨b, rfl, fun h => ⟨hhm, hg'.out h⟩, hbw4⟩
    · go_wp2_with fail
      go_ret
      exact ⟨false, rfl, fun h => (by cases h), hbw⟩
  · go_wp2_with fail
    go_ret
    exact ⟨false, rfl, fun h => (by cases h), hbw⟩
end Go.Proofs.Ytlebdceidmkddaa
