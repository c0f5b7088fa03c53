/-
  ParseFloat: a text without digits and without n is no float. Conditions: none.
-/
import Derived.Test.YthagnngckegekaaGreatDoorPf2
import Derived.Test.YthagnngckegekaaGreatDoorShelf
namespace Go.Proofs.YthagnngckegekaaGreatDoor
open Go.ChangeShapes Go.WideShapes Go.ChangeAt Go.RowKit
set_option linter.unusedVariables false
set_option linter.unusedSimpArgs false

/-- The variable of the error for a text that is no number holds an error, or none. -/
def ErrAt (w : World) : Prop := ∃ ev, w.cell? ⟨1, 0, none⟩ = some ev ∧ (ev = .nilIface ∨ ∃ te pe, ev = .iface te pe)
theorem ErrAt.bel {w w1 : World} (h : ErrAt w) (hb : Below w.heap.size w w1) : ErrAt w1 := by
  obtain ⟨ev, h1, h2⟩ := h
  exact ⟨ev, (hb.cell (p := ⟨1, 0, none⟩) (Lib.lt_of_cell h1)).trans h1, h2⟩

/-- What the inner functions hand back: nought, and that it is no number. -/
def NoFloat3 (w : World) (e : Ending) (w' : World) : Prop := (∃ n : Int, e = .returned (.tuple #[.float .f64 0, .int .i64 n, .iface 75 (.int .i64 2)])) ∧ w = w'

set_option maxRecDepth 100000 in
set_option maxHeartbeats 4000000 in
theorem atof64_any (s : ByteArray) (w : World) (hs : s.size ≤ 1000000) (hno : Numberless (L s)) :
    Calls Tryz.prog 71 #[.string s] w (NoFloat3 w) := by
  have h1 := Lib.hid (special_any s w (by omega) hno)
  have h2 := Lib.hid (readFloat_any s w hs hno)
  clear hno
  go_enter Tryz.func71, Tryz.ntmps71
  go_wp2_with fail
  refine h1.out.mono ?_
  rintro e w1 ⟨rfl, rfl⟩
  go_wp2_with fail
  refine h2.out.mono ?_
  rintro e w2 ⟨⟨neg, i, rfl⟩, rfl⟩
  go_wp2_with fail
  go_ret3
  exact ⟨⟨i, rfl⟩, rfl⟩

theorem parseFloatPrefix_any (s : ByteArray) (w : World) (hs : s.size ≤ 1000000) (hno : Numberless (L s)) :
    Calls Tryz.prog 52 #[.string s, .int .i64 64] w (NoFloat3 w) := by
  have h1 := Lib.hid (atof64_any s w (by omega) hno)
  clear hno
  go_enter Tryz.func52, Tryz.ntmps52
  go_wp2_with fail
  refine h1.out.mono ?_
  rintro e w1 ⟨⟨n, rfl⟩, rfl⟩
  go_wp2_with fail
  go_ret3
  exact ⟨⟨n, rfl⟩, rfl⟩

def NoFloat2 (w : World) (e : Ending) (w' : World) : Prop := e = .returned (.tuple #[.float .f64 0, .iface 75 (.int .i64 2)]) ∧ w = w'

theorem parseFloatIn_any (s : ByteArray) (w : World) (hs : s.size ≤ 1000000) (hno : Numberless (L s)) :
    Calls Tryz.prog 42 #[.string s, .int .i64 64] w (NoFloat2 w) := by
  have h1 := Lib.hid (parseFloatPrefix_any s w (by omega) hno)
  clear hno
  go_enter Tryz.func42, Tryz.ntmps42
  go_wp2_with fail
  refine h1.out.mono ?_
  rintro e w1 ⟨⟨n, rfl⟩, rfl⟩
  rcases Bool.eq_false_or_eq_true (n != (s.size : Int)) with hn | hn
  · go_wp2_with fail
    go_ret2
    exact ⟨rfl, rfl⟩
  · go_wp2_with fail
    go_ret2
    exact ⟨rfl, rfl⟩

/-- No number: an error in a new block. -/
def NoNum (x : Value) (w : World) (e : Ending) (w' : World) : Prop := (∃ N : Nat, e = .returned (.tuple #[x, .iface 78 (.pointer (some ⟨N, 0, none⟩))])) ∧ Below w.heap.size w w'

theorem parseFloat_any (s : ByteArray) (w : World) (hs : s.size ≤ 1000000) (hno : Numberless (L s)) (herr : ErrAt w) :
    Calls Tryz.prog 29 #[.string s, .int .i64 64] w (NoNum (.float .f64 0) w) := by
  have h1 := Lib.hid (parseFloatIn_any s w (by omega) hno)
  obtain ⟨ev, hv, hev⟩ := herr
  have h2 := Lib.hid (Tryz.strconv_toError_syntax ⟨#[80, 97, 114, 115, 101, 70, 108, 111, 97, 116]⟩ s 0 64 ev w (by omega) hv hev)
  clear hno hv hev
  go_enter Tryz.func29, Tryz.ntmps29
  go_wp2_with fail
  refine h1.out.mono ?_
  rintro e w1 ⟨rfl, rfl⟩
  go_wp2_with fail
  refine h2.out.mono ?_
  rintro e w2 ⟨N, rfl, _, _, hb2⟩
  go_wp2_with fail
  go_ret2
  exact ⟨⟨N, rfl⟩, hb2⟩
end Go.Proofs.YthagnngckegekaaGreatDoor
