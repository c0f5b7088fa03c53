/-
  Objects of one key. No program in sight. Conditions: none.
-/
import Derived.Test.YtpdcoipfpffhnaaObj
namespace Go.Proofs.Ytpdcoipfpffhnaa
open Go.ChangeShapes Go.WideShapes Go.ChangeAt Go.RowKit
set_option linter.unusedVariables false

theorem obj1_ok {k : ByteArray} {x : V} (h : x.Ok) : (V.obj1 k x).Ok := .obj _ rfl rfl (by simp [V.obj1]) (fun y hy => by
  have : y = x := by simpa [V.obj1] using hy
  rw [this]; exact h)
theorem obj1_no {k : ByteArray} {x : V} (h : x.No 4) : (V.obj1 k x).No 4 := .mk _ (by show (8 : Int) ≠ 4; omega) (fun _ y hy => by
  have : y = x := by simpa [V.obj1] using hy
  rw [this]; exact h)
theorem obj1_wt (k : ByteArray) (x : V) : (V.obj1 k x).wt = 2 + k.size + x.wt := by
  rw [V.wt_eq]
  show 1 + 0 + 1 + sumS [k] + V.wts [x] = _
  simp [sumS, V.wts]
theorem obj1_member (k : ByteArray) (x : V) : (V.obj1 k x).member k = x := member_some (v := V.obj1 k x) (by simp [V.obj1]) rfl (i := 0) rfl rfl

def keyA : ByteArray := ⟨#[97]⟩
end Go.Proofs.Ytpdcoipfpffhnaa
