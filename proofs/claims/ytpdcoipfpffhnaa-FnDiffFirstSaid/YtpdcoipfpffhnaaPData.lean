/-
  plainData: the values of which the laws of differences speak. Conditions: none.
-/
import Derived.Test.YtpdcoipfpffhnaaLight
namespace Go.Proofs.Ytpdcoipfpffhnaa
open Go.ChangeShapes Go.WideShapes Go.ChangeAt Go.RowKit
set_option linter.unusedVariables false

set_option maxHeartbeats 1000000 in
theorem plainData_any (v : V) {ok : Nat → Prop} (A B : Option Addr) (ca cb : Nat) (w : World) (hb : Bds v ca cb) (hB : Strs ok w B v.keys) (hA : Vals ok w A v.l) :
    Calls Try.prog 7 #[.agg #[.int .i64 v.kind, .int .i64 v.n, .float .f64 v.f, .string v.s, .slice A v.l.length ca, .slice B v.keys.length cb]] w
      (SomeBool (fun r => r = true → v.wt ≤ 150 ∧ v.Ok ∧ v.No 4) w) := by
  go_enter Try.func7, Try.ntmps7
  go_wp2_with fail
  have hbel : Below (w.heap.size + 1) (w.alloc (valObj v A ca B cb)) (w.alloc (valObj v A ca B cb)) := Below.refl _ _
  have hA0 := hA.bel (boxed hbel).2
  have hB0 := hB.bel (boxed hbel).2
  refine (light_any v A B ca cb 150 _ hb hB0 hA0 (by omega) (by omega)).mono ?_
  rintro e w2 ⟨r, rfl, hr, hb2⟩
  replace hbel : Below (w.heap.size + 1) (w.alloc (valObj v A ca B cb)) w2 := hbel.trans (hb2.mono (by simp))
  obtain ⟨⟨b0, b1, b2, b3, b4, b5⟩, hbw⟩ := boxed hbel
  clear hb2 hA0 hB0
  cases r with
  | false =>
    clear hr
    go_wp2_with fail
    go_ret
    exact ⟨false, rfl, fun h => (by cases h), hbw⟩
  | true =>
  have hr' := Lib.hid (hr rfl)
  clear hr
  go_wp2_with fail
  have hle := below_boxed_size hbel
  refine (holds_any v A B ca cb w2 hb (hA.bel hbw) 4).mono ?_
  rintro e w5 ⟨r4, rfl, hno, hb5⟩
  have hbw5 : Below w.heap.size w w5 := below_call hbw (by omega) hb5
  clear b0 b1 b2 b3 b4 b5
  cases r4 with
  | true =>
    clear hno
    go_wp2_with fail
    go_ret
    exact ⟨false, rfl, fun h => (by cases h), hbw5⟩
  | false =>
    have hno' := Lib.hid (hno rfl)
    clear hno
    go_wp2_with fail
    go_ret
    exact ⟨true, rfl, fun _ => ⟨by have := hr'.out.1; omega, hr'.out.2, hno'.out⟩, hbw5⟩
end Go.Proofs.Ytpdcoipfpffhnaa
