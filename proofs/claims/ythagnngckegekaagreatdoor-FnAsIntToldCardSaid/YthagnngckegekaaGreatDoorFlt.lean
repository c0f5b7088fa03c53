/-
  math.IsNaN, math.IsInf. Conditions: none.
-/
import Derived.Test.YthagnngckegekaaGreatDoorBits
import Derived.Test.YthagnngckegekaaGreatDoorBox
import Derived.WalkLawsBesides
namespace Go.Proofs.YthagnngckegekaaGreatDoor
open Go.ChangeShapes Go.WideShapes Go.ChangeAt Go.RowKit
set_option linter.unusedVariables false
def nanF (f : Nat) : Bool := FloatKind.f64.format.order f f != some Ordering.eq
def absF (f : Nat) : Nat := (bits BinOp.andNot IntKind.u64 (↑f) 9223372036854775808).toNat
def gtF (a b : Nat) : Bool := FloatKind.f64.format.order a b == some Ordering.gt
def infF (f : Nat) : Bool := gtF (absF f) 9218868437227405311
theorem nan_any (f : Nat) (w : World) :
    Calls Tryz.prog 30 #[.float .f64 f] w fun e w' => e = .returned (.bool (nanF f)) ∧ w = w' := by
  go_enter Tryz.func30, Tryz.ntmps30
  go_wp2_with fail
  go_ret
  exact ⟨rfl, rfl⟩
theorem run_frombits (f : Int) (w : World) : (callFunc 53 #[.int .u64 f]).run Tryz.prog w = .ok (.value (.float .f64 f.toNat)) w := by
  rw [run_callFunc_extern (fn := Tryz.f53) (e := Extern.MathFloatBits.float64frombits) Tryz.func53 (by decide +kernel) (by rfl) (by kernel_rfl) (by kernel_rfl)]
  rfl
theorem abs_any (f : Nat) (w : World) :
    Calls Tryz.prog 43 #[.float .f64 f] w fun e w' => e = .returned (.float .f64 (absF f)) ∧ w = w' := by
  have hbits := run_bits f
  have hb2 := run_frombits 
  go_enter Tryz.func43, Tryz.ntmps43
  go_wp2_with fail
  go_ret
  exact ⟨rfl, rfl⟩
theorem inf_any (f : Nat) (w : World) :
    Calls Tryz.prog 31 #[.float .f64 f, .int .i64 0] w fun e w' => e = .returned (.bool (infF f)) ∧ w = w' := by
  go_enter Tryz.func31, Tryz.ntmps31
  go_wp2_with (refine (abs_any f w).mono ?_; rintro e w' ⟨rfl, rfl⟩)
  go_ret
  exact ⟨rfl, rfl⟩
end Go.Proofs.YthagnngckegekaaGreatDoor
