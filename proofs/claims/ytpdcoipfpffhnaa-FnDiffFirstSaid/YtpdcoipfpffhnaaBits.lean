/-
  math.Float64bits hands back the bits. Conditions: none.
-/
import Derived.Test.YtpdcoipfpffhnaaOpen
import Derived.Laws.Externs
namespace Go.Proofs.Ytpdcoipfpffhnaa
open Go.ChangeShapes Go.WideShapes Go.ChangeAt Go.RowKit
set_option linter.unusedVariables false

theorem run_bits (f : Nat) (w : World) : (callFunc 81 #[.float .f64 f]).run Try.prog w = .ok (.value (.int .u64 f)) w := by
  rw [run_callFunc_extern (fn := Try.f81) (e := Extern.MathFloatBits.float64bits) Try.func81 (by decide +kernel) (by rfl) (by kernel_rfl) (by kernel_rfl)]
  rfl
end Go.Proofs.Ytpdcoipfpffhnaa
