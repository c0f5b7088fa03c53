/-
  math.IsNaN, math.IsInf. Conditions: none.
-/
import Derived.Test.YtpdcoipfpffhnaaGreatBits
import Derived.Test.YtpdcoipfpffhnaaGreatBox
import Derived.WalkLawsBesides
namespace Go.Proofs.YtpdcoipfpffhnaaGreat
open Go.ChangeShapes Go.WideShapes Go.ChangeAt Go.RowKit
set_option linter.unusedVariables false
def nanF (f : Nat) : Bool := FloatKind.f64.format.order f f != some Ordering.eq
def absF (f : Nat) : Nat := (bits BinOp.andNot IntKind.u64 (↑f) 9223372036854775808).toNat
def gtF (a b : Nat) : Bool := FloatKind.f64.format.order a b == some Ordering.gt
def infF (f : Nat) : Bool := gtF (absF f) 9218868437227405311
theorem nan_any (f : Nat) (w : World) :
    Calls Tryz.prog 27 #[.float .f64 f] w fun e w' => e = .returned (.bool (nanF f)) ∧ w = w' := by
  go_enter Tryz.func27, Tryz.ntmps27
  go_wp2_with fail
  go_ret
  exact ⟨rfl, rfl⟩
theorem run_frombits (f : Int) (w : World) : (callFunc 57 #[.int .u64 f]).run Tryz.prog w = .ok (.value (.float .f64 f.toNat)) w := by
  rw [run_callFunc_extern (fn := Tryz.f57) (e := Extern.MathFloatBits.float64frombits) Tryz.func57 (by decide +kernel) (by rfl) (by kernel_rfl) (by kernel_rfl)]
  rfl
theorem abs_any (f : Nat) (w : World) :
    Calls Tryz.prog 46 #[.float .f64 f] w fun e w' => e = .returned (.float .f64 (absF f)) ∧ w = w' := by
  have hbits := run_bits f
  have hb2 := run_frombits 
  go_enter Tryz.func46, Tryz.ntmps46
  go_wp2_with fail
  go_ret
  exact ⟨rfl, rfl⟩
theorem inf_any (f : Nat) (w : World) :
    Calls Tryz.prog 28 #[.float .f64 f, .int .i64 0] w fun e w' => e = .returned (.bool (infF f)) ∧ w = w' := by
  go_enter Tryz.func28, Tryz.ntmps28
  go_wp2_with (refine (abs_any f w).mono ?_; rintro e w' ⟨rfl, rfl⟩)
  go_ret
  exact ⟨rfl, rfl⟩
end Go.Proofs.YtpdcoipfpffhnaaGreat
