/-
  light: the values of which the laws speak. Conditions: none.
-/
import Derived.Test.YthagnngckegekaaGreatDoorWhole
import Derived.Test.YthagnngckegekaaGreatDoorWeight
namespace Go.Proofs.YthagnngckegekaaGreatDoor
open Go.ChangeShapes Go.WideShapes Go.ChangeAt Go.RowKit
set_option linter.unusedVariables false

set_option maxHeartbeats 1000000 in
theorem light_any (v : V) {ok : Nat → Prop} (A B : Option Addr) (ca cb : Nat) (m : Int) (w : World) (hb : Bds v ca cb) (hB : Strs ok w B v.keys) (hA : Vals ok w A v.l) (hm0 : 0 ≤ m) (hm : m ≤ 1000000) :
    Calls Tryz.prog 13 #[.agg #[.int .i64 v.kind, .int .i64 v.n, .float .f64 v.f, .string v.s, .slice A v.l.length ca, .slice B v.keys.length cb], .int .i64 m] w
      (SomeBool (fun r => r = true → (v.wt : Int) ≤ m ∧ v.Ok) w) := by
  go_enter Tryz.func13, Tryz.ntmps13
  go_wp2_with fail
  have hbel : Below (w.heap.size + 1) (w.alloc (valObj v A ca B cb)) (w.alloc (valObj v A ca B cb)) := Below.refl _ _
  have hA0 := hA.bel (boxed hbel).2
  have hB0 := hB.bel (boxed hbel).2
  refine (weight_any v A B ca cb m _ hb hB0 hA0 hm0 hm).mono ?_
  rintro e w2 ⟨r, rfl, hr0, hr1, hr, hb2⟩
  replace hbel : Below (w.heap.size + 1) (w.alloc (valObj v A ca B cb)) w2 := hbel.trans (hb2.mono (by simp))
  obtain ⟨⟨b0, b1, b2, b3, b4, b5⟩, hbw⟩ := boxed hbel
  have hr' := Lib.hid hr
  clear hr hb2 hA0 hB0
  by_cases hrm : 0 ≤ r
  rotate_left
  · go_wp2_with fail
    go_ret
    exact ⟨false, rfl, fun h => (by cases h), hbw⟩
  have hwt : Hid ((v.wt : Int) ≤ m) := by have h1 := hr'.out hrm; show (v.wt : Int) ≤ m; omega
  have hwt2 : Hid (v.wt ≤ 1000000) := by have h1 := hwt.out; show v.wt ≤ _; omega
  clear hr'
  go_wp2_with fail
  have hle := below_boxed_size hbel
  refine (cleanValue_any v A B ca cb w2 hb (hA.bel hbw)).mono ?_
  rintro e w3 ⟨r2, rfl, hcl, hb3⟩
  replace hbel : Below (w.heap.size + 1) (w.alloc (valObj v A ca B cb)) w3 := hbel.trans (hb3.mono hle)
  clear b0 b1 b2 b3 b4 b5 hbw hb3
  obtain ⟨⟨b0, b1, b2, b3, b4, b5⟩, hbw⟩ := boxed hbel
  cases r2 with
  | false =>
    clear hcl
    go_wp2_with fail
    go_ret
    exact ⟨false, rfl, fun h => (by cases h), hbw⟩
  | true =>
  have hcl' := Lib.hid (hcl rfl)
  clear hcl
  go_wp2_with fail
  have hle := below_boxed_size hbel
  refine (whole_any v A B ca cb w3 hb (hB.bel hbw) (hA.bel hbw) hwt2.out).mono ?_
  rintro e w4 ⟨r3, rfl, hwh, hb4⟩
  replace hbel : Below (w.heap.size + 1) (w.alloc (valObj v A ca B cb)) w4 := hbel.trans (hb4.mono hle)
  clear b0 b1 b2 b3 b4 b5 hbw hb4
  obtain ⟨⟨b0, b1, b2, b3, b4, b5⟩, hbw⟩ := boxed hbel
  cases r3 with
  | false =>
    clear hwh
    go_wp2_with fail
    go_ret
    exact ⟨false, rfl, fun h => (by cases h), hbw⟩
  | true =>
  have hwh' := Lib.hid (hwh rfl)
  clear hwh
  go_wp2_with fail
  have hle := below_boxed_size hbel
  refine (holds_any v A B ca cb w4 hb (hA.bel hbw) 6).mono ?_
  rintro e w5 ⟨r4, rfl, hno, hb5⟩
  have hbw5 : Below w.heap.size w w5 := below_call hbw (by omega) hb5
  clear b0 b1 b2 b3 b4 b5
  cases r4 with
  | true =>
    clear hno
    go_wp2_with fail
    go_ret
    exact ⟨false, rfl, fun h => (by cases h), hbw5⟩
  | false =>
    have hok : Hid v.Ok := V.ok_of v hcl'.out hwh'.out (hno rfl)
    clear hno
    go_wp2_with fail
    go_ret
    exact ⟨true, rfl, fun _ => ⟨hwt.out, hok.out⟩, hbw5⟩

end Go.Proofs.YthagnngckegekaaGreatDoor
