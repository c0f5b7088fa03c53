/-
  math.Float64bits hands back the bits. Conditions: none.
-/
import Derived.Test.YthagnngckegekaaGreatDoorOpen
import Derived.Laws.Externs
namespace Go.Proofs.YthagnngckegekaaGreatDoor
open Go.ChangeShapes Go.WideShapes Go.ChangeAt Go.RowKit
set_option linter.unusedVariables false

theorem run_bits (f : Nat) (w : World) : (callFunc 33 #[.float .f64 f]).run Tryz.prog w = .ok (.value (.int .u64 f)) w := by
  rw [run_callFunc_extern (fn := Tryz.f33) (e := Extern.MathFloatBits.float64bits) Tryz.func33 (by decide +kernel) (by rfl) (by kernel_rfl) (by kernel_rfl)]
  rfl
end Go.Proofs.YthagnngckegekaaGreatDoor
