/-
  alt.Int of plain data, with none, one or two defaults. Conditions: none.
-/
import Derived.Test.YthagnngckegekaaGreatDoorTa6
import Derived.Test.YthagnngckegekaaGreatDoorFlo
import Derived.Test.YthagnngckegekaaGreatDoorPf3
namespace Go.Proofs.YthagnngckegekaaGreatDoor
open Go.ChangeShapes Go.WideShapes Go.ChangeAt Go.RowKit
set_option linter.unusedVariables false
set_option linter.unusedSimpArgs false
attribute [local go_sem] tay_bool tam_bool tan_bool tay_int tam_int tan_int tay_int8 tam_int8 tan_int8 tay_int16 tam_int16 tan_int16 tay_int32 tam_int32 tan_int32 tay_int64 tam_int64 tan_int64 tay_uint tam_uint tan_uint tay_uint8 tam_uint8 tan_uint8 tay_uint16 tam_uint16 tan_uint16 tay_uint32 tam_uint32 tan_uint32 tay_uint64 tam_uint64 tan_uint64 tay_float32 tam_float32 tan_float32 tay_float64 tam_float64 tan_float64 tay_string tam_string tan_string tay_sl tam_sl tan_sl tay_mp tam_mp tan_mp tay_gint tam_gint tan_gint tay_gfl tam_gfl tan_gfl tay_gstr tam_gstr tan_gstr tay_gbig tam_gbig tan_gbig

theorem run_negF (f : Nat) (w : World) : (Op.unary .neg (.float .f64 f)).run Tryz.prog w = .ok (.float .f64 (negF f)) w := rfl
section
attribute [local go_sem] run_negF
theorem sized_any (f : Nat) (w : World) : Calls Tryz.prog 6 #[.float .f64 f] w fun e w' => e = .returned (.float .f64 (sizedF f)) ∧ w = w' := by
  cases h : (FloatKind.f64.format.order f 0 == some Ordering.lt) with
  | true =>
    have e : sizedF f = negF f := by unfold sizedF; rw [h]; rfl
    rw [e]
    clear e
    go_enter Tryz.func6, Tryz.ntmps6
    go_wp2_with fail
    go_ret
    exact ⟨rfl, rfl⟩
  | false =>
    have e : sizedF f = f := by unfold sizedF; rw [h]; rfl
    rw [e]
    clear e
    go_enter Tryz.func6, Tryz.ntmps6
    go_wp2_with fail
    go_ret
    exact ⟨rfl, rfl⟩
end

/-- A slice of at most two numbers, at the head of a block. -/
inductive DS (w : World) : List Int → Value → Prop
  | none (A : Option Addr) (c : Nat) : DS w [] (.slice A 0 c)
  | one (g c : Nat) (a : Int) (h : w.cell? ⟨g, 0, none⟩ = some (.int .i64 a)) : DS w [a] (.slice (some ⟨g, 0, none⟩) 1 c)
  | two (g c : Nat) (a b : Int) (h : w.cell? ⟨g, 0, none⟩ = some (.int .i64 a)) (h' : w.cell? ⟨g, 1, none⟩ = some (.int .i64 b)) : DS w [a, b] (.slice (some ⟨g, 0, none⟩) 2 c)
def IntOf (r : Int) (w : World) (e : Ending) (w' : World) : Prop := e = .returned (.int .i64 r) ∧ Below w.heap.size w w'
def neqF (z : Int) (f : Nat) : Bool := FloatKind.f64.format.order (floatOfInt .f64 z) f != some Ordering.eq

/-- Plain data that is neither null nor a number nor a text. -/
inductive NoVal : Value → Prop
  | bool (b : Bool) : NoVal (.iface 4 (.bool b))
  | arr (A : Option Addr) (n c : Nat) : NoVal (.iface 64 (.slice A n c))
  | map (b : Option Nat) : NoVal (.iface 65 (.map b))

set_option maxRecDepth 100000 in
set_option maxHeartbeats 4000000 in
theorem int_nil (ds : List Int) (d : Value) (w : World) (h : DS w ds d) : Calls Tryz.prog 17 #[.nilIface, d] w (IntOf (ds.getD 1 0) w) := by
  cases h
  all_goals
    go_enter Tryz.func17, Tryz.ntmps17
    go_wp2_with fail
    go_ret
    exact ⟨rfl, Below.refl _ _⟩

set_option maxRecDepth 100000 in
set_option maxHeartbeats 4000000 in
theorem int_int (n : Int) (ds : List Int) (d : Value) (w : World) (h : DS w ds d) : Calls Tryz.prog 17 #[.iface 2 (.int .i64 n), d] w (IntOf n w) := by
  cases h
  all_goals
    go_enter Tryz.func17, Tryz.ntmps17
    go_wp2_with fail
    go_ret
    exact ⟨rfl, Below.refl _ _⟩

set_option maxRecDepth 100000 in
set_option maxHeartbeats 8000000 in
theorem int_none (x : Value) (ds : List Int) (d : Value) (w : World) (h : DS w ds d) (hx : NoVal x) : Calls Tryz.prog 17 #[x, d] w (IntOf (ds.getD 0 0) w) := by
  cases hx
  all_goals cases h
  all_goals
    go_enter Tryz.func17, Tryz.ntmps17
    go_wp2_with fail
    go_ret
    exact ⟨rfl, Below.refl _ _⟩
end Go.Proofs.YthagnngckegekaaGreatDoor
