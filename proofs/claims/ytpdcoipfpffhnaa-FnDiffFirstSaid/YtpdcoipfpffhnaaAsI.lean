/-
  alt.asInt of plain data. Conditions: none.
-/
import Derived.Test.YtpdcoipfpffhnaaTa
namespace Go.Proofs.Ytpdcoipfpffhnaa
open Go.ChangeShapes Go.WideShapes Go.ChangeAt Go.RowKit
set_option linter.unusedVariables false
attribute [local go_sem] tay_bool tam_bool tan_bool tay_int tam_int tan_int tay_int8 tam_int8 tan_int8 tay_int16 tam_int16 tan_int16 tay_int32 tam_int32 tan_int32 tay_int64 tam_int64 tan_int64 tay_uint tam_uint tan_uint tay_uint8 tam_uint8 tan_uint8 tay_uint16 tam_uint16 tan_uint16 tay_uint32 tam_uint32 tan_uint32 tay_uint64 tam_uint64 tan_uint64 tay_float32 tam_float32 tan_float32 tay_float64 tam_float64 tan_float64 tay_string tam_string tan_string tay_sl tam_sl tan_sl tay_mp tam_mp tan_mp tay_fil tam_fil tan_fil tay_gint tam_gint tan_gint tay_gfl tam_gfl tan_gfl

/-- Plain data that is no number. -/
inductive NoNum : Value → Prop
  | nil : NoNum .nilIface
  | bool (b : Bool) : NoNum (.iface 4 (.bool b))
  | str (s : ByteArray) : NoNum (.iface 9 (.string s))
  | arr (A : Option Addr) (n c : Nat) : NoNum (.iface 67 (.slice A n c))
  | map (b : Option Nat) : NoNum (.iface 54 (.map b))
theorem PT.noNum {w : World} {lo hi : Nat} {v : V} {x : Value} (h : PT w lo hi v x) (h3 : v.kind ≠ 3) (h4 : v.kind ≠ 4) : NoNum x := by
  cases h with
  | null _ _ _ h => exact .nil
  | bool _ _ _ h => exact .bool _
  | int _ _ _ h => exact absurd h h3
  | float _ _ _ h => exact absurd h h4
  | str _ _ _ h => exact .str _
  | arr _ _ _ h => exact .arr _ _ _
  | obj _ _ _ h => exact .map _

set_option maxRecDepth 100000 in
theorem asInt_int (n : Int) (w : World) :
    Calls Try.prog 62 #[.iface 2 (.int .i64 n)] w fun e w' => e = .returned (.tuple #[.int .i64 n, .bool true]) ∧ w = w' := by
  go_enter Try.func62, Try.ntmps62
  go_wp2_with fail
  go_ret2
  exact ⟨rfl, rfl⟩
set_option maxRecDepth 100000 in
set_option maxHeartbeats 1000000 in
theorem asInt_not (y : Value) (w : World) (h : NoNum y) :
    Calls Try.prog 62 #[y] w fun e w' => e = .returned (.tuple #[.int .i64 0, .bool false]) ∧ w = w' := by
  cases h
  all_goals
    go_enter Try.func62, Try.ntmps62
    go_wp2_with fail
    go_ret2
    exact ⟨rfl, rfl⟩
end Go.Proofs.Ytpdcoipfpffhnaa
