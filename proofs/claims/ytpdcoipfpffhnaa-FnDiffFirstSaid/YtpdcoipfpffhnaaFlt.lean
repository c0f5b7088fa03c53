/-
  math.IsNaN, math.IsInf. Conditions: none.
-/
import Derived.Test.YtpdcoipfpffhnaaBits
import Derived.Test.YtpdcoipfpffhnaaBox
import Derived.WalkLawsBesides
namespace Go.Proofs.Ytpdcoipfpffhnaa
open Go.ChangeShapes Go.WideShapes Go.ChangeAt Go.RowKit
set_option linter.unusedVariables false
def nanF (f : Nat) : Bool := FloatKind.f64.format.order f f != some Ordering.eq
def absF (f : Nat) : Nat := (bits BinOp.andNot IntKind.u64 (↑f) 9223372036854775808).toNat
def gtF (a b : Nat) : Bool := FloatKind.f64.format.order a b == some Ordering.gt
def infF (f : Nat) : Bool := gtF (absF f) 9218868437227405311
theorem nan_any (f : Nat) (w : World) :
    Calls Try.prog 54 #[.float .f64 f] w fun e w' => e = .returned (.bool (nanF f)) ∧ w = w' := by
  go_enter Try.func54, Try.ntmps54
  go_wp2_with fail
  go_ret
  exact ⟨rfl, rfl⟩
theorem run_frombits (f : Int) (w : World) : (callFunc 82 #[.int .u64 f]).run Try.prog w = .ok (.value (.float .f64 f.toNat)) w := by
  rw [run_callFunc_extern (fn := Try.f82) (e := Extern.MathFloatBits.float64frombits) Try.func82 (by decide +kernel) (by rfl) (by kernel_rfl) (by kernel_rfl)]
  rfl
theorem abs_any (f : Nat) (w : World) :
    Calls Try.prog 73 #[.float .f64 f] w fun e w' => e = .returned (.float .f64 (absF f)) ∧ w = w' := by
  have hbits := run_bits f
  have hb2 := run_frombits 
  go_enter Try.func73, Try.ntmps73
  go_wp2_with fail
  go_ret
  exact ⟨rfl, rfl⟩
theorem inf_any (f : Nat) (w : World) :
    Calls Try.prog 55 #[.float .f64 f, .int .i64 0] w fun e w' => e = .returned (.bool (infF f)) ∧ w = w' := by
  go_enter Try.func55, Try.ntmps55
  go_wp2_with (refine (abs_any f w).mono ?_; rintro e w' ⟨rfl, rfl⟩)
  go_ret
  exact ⟨rfl, rfl⟩
end Go.Proofs.Ytpdcoipfpffhnaa
