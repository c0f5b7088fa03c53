/-
  What a type assertion with ok answers of an any value. Conditions: none.
-/
import Derived.Test.YthagnngckegekaaGreatDoorPT
namespace Go.Proofs.YthagnngckegekaaGreatDoor
open Go.ChangeShapes Go.WideShapes Go.ChangeAt Go.RowKit
set_option linter.unusedVariables false
section
variable {P : Program} {T x : TypeId} {d : TypeDesc} {z : Value} {w : World}
theorem ta_hit (hd : P.underlying T = some d) (hn : ∀ m, d ≠ .interface m) (v : Value) : (Instr.typeAssert (.iface T v) x T true).run P w = .ok (.tuple #[v, .bool true]) w := by
  cases d <;> simp [Instr.typeAssert, run_underlying hd, Result.andThen] <;> first | rfl | exact absurd rfl (hn _)
theorem ta_miss (hd : P.underlying T = some d) (hn : ∀ m, d ≠ .interface m) (hz : (zeroValue T).run P w = .ok z w) (t : TypeId) (v : Value) (h : t ≠ T) : (Instr.typeAssert (.iface t v) x T true).run P w = .ok (.tuple #[z, .bool false]) w := by
  cases d <;> simp [Instr.typeAssert, run_underlying hd, h, hz, Result.andThen] <;> first | rfl | exact absurd rfl (hn _)
theorem ta_nil (hd : P.underlying T = some d) (hn : ∀ m, d ≠ .interface m) (hz : (zeroValue T).run P w = .ok z w) : (Instr.typeAssert .nilIface x T true).run P w = .ok (.tuple #[z, .bool false]) w := by
  cases d <;> simp [Instr.typeAssert, run_underlying hd, hz, Result.andThen] <;> first | rfl | exact absurd rfl (hn _)
end
theorem tay_bool (v : Value) (w : World) : (Instr.typeAssert (.iface 4 v) 20 4 true).run Tryz.prog w = .ok (.tuple #[v, .bool true]) w := ta_hit Tryz.underlying4 (fun _ h => by cases h) v
theorem tam_bool (t : TypeId) (v : Value) (w : World) (h : t ≠ 4) : (Instr.typeAssert (.iface t v) 20 4 true).run Tryz.prog w = .ok (.tuple #[.bool false, .bool false]) w := ta_miss Tryz.underlying4 (fun _ h => by cases h) (by kernel_rfl) t v h
theorem tan_bool (w : World) : (Instr.typeAssert .nilIface 20 4 true).run Tryz.prog w = .ok (.tuple #[.bool false, .bool false]) w := ta_nil Tryz.underlying4 (fun _ h => by cases h) (by kernel_rfl)
theorem tay_int (v : Value) (w : World) : (Instr.typeAssert (.iface 3 v) 20 3 true).run Tryz.prog w = .ok (.tuple #[v, .bool true]) w := ta_hit Tryz.underlying3 (fun _ h => by cases h) v
theorem tam_int (t : TypeId) (v : Value) (w : World) (h : t ≠ 3) : (Instr.typeAssert (.iface t v) 20 3 true).run Tryz.prog w = .ok (.tuple #[.int .i64 0, .bool false]) w := ta_miss Tryz.underlying3 (fun _ h => by cases h) (by kernel_rfl) t v h
theorem tan_int (w : World) : (Instr.typeAssert .nilIface 20 3 true).run Tryz.prog w = .ok (.tuple #[.int .i64 0, .bool false]) w := ta_nil Tryz.underlying3 (fun _ h => by cases h) (by kernel_rfl)
theorem tay_int8 (v : Value) (w : World) : (Instr.typeAssert (.iface 46 v) 20 46 true).run Tryz.prog w = .ok (.tuple #[v, .bool true]) w := ta_hit Tryz.underlying46 (fun _ h => by cases h) v
theorem tam_int8 (t : TypeId) (v : Value) (w : World) (h : t ≠ 46) : (Instr.typeAssert (.iface t v) 20 46 true).run Tryz.prog w = .ok (.tuple #[.int .i8 0, .bool false]) w := ta_miss Tryz.underlying46 (fun _ h => by cases h) (by kernel_rfl) t v h
theorem tan_int8 (w : World) : (Instr.typeAssert .nilIface 20 46 true).run Tryz.prog w = .ok (.tuple #[.int .i8 0, .bool false]) w := ta_nil Tryz.underlying46 (fun _ h => by cases h) (by kernel_rfl)
theorem tay_int16 (v : Value) (w : World) : (Instr.typeAssert (.iface 47 v) 20 47 true).run Tryz.prog w = .ok (.tuple #[v, .bool true]) w := ta_hit Tryz.underlying47 (fun _ h => by cases h) v
theorem tam_int16 (t : TypeId) (v : Value) (w : World) (h : t ≠ 47) : (Instr.typeAssert (.iface t v) 20 47 true).run Tryz.prog w = .ok (.tuple #[.int .i16 0, .bool false]) w := ta_miss Tryz.underlying47 (fun _ h => by cases h) (by kernel_rfl) t v h
theorem tan_int16 (w : World) : (Instr.typeAssert .nilIface 20 47 true).run Tryz.prog w = .ok (.tuple #[.int .i16 0, .bool false]) w := ta_nil Tryz.underlying47 (fun _ h => by cases h) (by kernel_rfl)
theorem tay_int32 (v : Value) (w : World) : (Instr.typeAssert (.iface 21 v) 20 21 true).run Tryz.prog w = .ok (.tuple #[v, .bool true]) w := ta_hit Tryz.underlying21 (fun _ h => by cases h) v
theorem tam_int32 (t : TypeId) (v : Value) (w : World) (h : t ≠ 21) : (Instr.typeAssert (.iface t v) 20 21 true).run Tryz.prog w = .ok (.tuple #[.int .i32 0, .bool false]) w := ta_miss Tryz.underlying21 (fun _ h => by cases h) (by kernel_rfl) t v h
theorem tan_int32 (w : World) : (Instr.typeAssert .nilIface 20 21 true).run Tryz.prog w = .ok (.tuple #[.int .i32 0, .bool false]) w := ta_nil Tryz.underlying21 (fun _ h => by cases h) (by kernel_rfl)
theorem tay_int64 (v : Value) (w : World) : (Instr.typeAssert (.iface 2 v) 20 2 true).run Tryz.prog w = .ok (.tuple #[v, .bool true]) w := ta_hit Tryz.underlying2 (fun _ h => by cases h) v
theorem tam_int64 (t : TypeId) (v : Value) (w : World) (h : t ≠ 2) : (Instr.typeAssert (.iface t v) 20 2 true).run Tryz.prog w = .ok (.tuple #[.int .i64 0, .bool false]) w := ta_miss Tryz.underlying2 (fun _ h => by cases h) (by kernel_rfl) t v h
theorem tan_int64 (w : World) : (Instr.typeAssert .nilIface 20 2 true).run Tryz.prog w = .ok (.tuple #[.int .i64 0, .bool false]) w := ta_nil Tryz.underlying2 (fun _ h => by cases h) (by kernel_rfl)
theorem tay_uint (v : Value) (w : World) : (Instr.typeAssert (.iface 48 v) 20 48 true).run Tryz.prog w = .ok (.tuple #[v, .bool true]) w := ta_hit Tryz.underlying48 (fun _ h => by cases h) v
theorem tam_uint (t : TypeId) (v : Value) (w : World) (h : t ≠ 48) : (Instr.typeAssert (.iface t v) 20 48 true).run Tryz.prog w = .ok (.tuple #[.int .u64 0, .bool false]) w := ta_miss Tryz.underlying48 (fun _ h => by cases h) (by kernel_rfl) t v h
theorem tan_uint (w : World) : (Instr.typeAssert .nilIface 20 48 true).run Tryz.prog w = .ok (.tuple #[.int .u64 0, .bool false]) w := ta_nil Tryz.underlying48 (fun _ h => by cases h) (by kernel_rfl)
theorem tay_uint8 (v : Value) (w : World) : (Instr.typeAssert (.iface 5 v) 20 5 true).run Tryz.prog w = .ok (.tuple #[v, .bool true]) w := ta_hit Tryz.underlying5 (fun _ h => by cases h) v
theorem tam_uint8 (t : TypeId) (v : Value) (w : World) (h : t ≠ 5) : (Instr.typeAssert (.iface t v) 20 5 true).run Tryz.prog w = .ok (.tuple #[.int .u8 0, .bool false]) w := ta_miss Tryz.underlying5 (fun _ h => by cases h) (by kernel_rfl) t v h
theorem tan_uint8 (w : World) : (Instr.typeAssert .nilIface 20 5 true).run Tryz.prog w = .ok (.tuple #[.int .u8 0, .bool false]) w := ta_nil Tryz.underlying5 (fun _ h => by cases h) (by kernel_rfl)
theorem tay_uint16 (v : Value) (w : World) : (Instr.typeAssert (.iface 49 v) 20 49 true).run Tryz.prog w = .ok (.tuple #[v, .bool true]) w := ta_hit Tryz.underlying49 (fun _ h => by cases h) v
theorem tam_uint16 (t : TypeId) (v : Value) (w : World) (h : t ≠ 49) : (Instr.typeAssert (.iface t v) 20 49 true).run Tryz.prog w = .ok (.tuple #[.int .u16 0, .bool false]) w := ta_miss Tryz.underlying49 (fun _ h => by cases h) (by kernel_rfl) t v h
theorem tan_uint16 (w : World) : (Instr.typeAssert .nilIface 20 49 true).run Tryz.prog w = .ok (.tuple #[.int .u16 0, .bool false]) w := ta_nil Tryz.underlying49 (fun _ h => by cases h) (by kernel_rfl)
theorem tay_uint32 (v : Value) (w : World) : (Instr.typeAssert (.iface 50 v) 20 50 true).run Tryz.prog w = .ok (.tuple #[v, .bool true]) w := ta_hit Tryz.underlying50 (fun _ h => by cases h) v
theorem tam_uint32 (t : TypeId) (v : Value) (w : World) (h : t ≠ 50) : (Instr.typeAssert (.iface t v) 20 50 true).run Tryz.prog w = .ok (.tuple #[.int .u32 0, .bool false]) w := ta_miss Tryz.underlying50 (fun _ h => by cases h) (by kernel_rfl) t v h
theorem tan_uint32 (w : World) : (Instr.typeAssert .nilIface 20 50 true).run Tryz.prog w = .ok (.tuple #[.int .u32 0, .bool false]) w := ta_nil Tryz.underlying50 (fun _ h => by cases h) (by kernel_rfl)
theorem tay_uint64 (v : Value) (w : World) : (Instr.typeAssert (.iface 51 v) 20 51 true).run Tryz.prog w = .ok (.tuple #[v, .bool true]) w := ta_hit Tryz.underlying51 (fun _ h => by cases h) v
theorem tam_uint64 (t : TypeId) (v : Value) (w : World) (h : t ≠ 51) : (Instr.typeAssert (.iface t v) 20 51 true).run Tryz.prog w = .ok (.tuple #[.int .u64 0, .bool false]) w := ta_miss Tryz.underlying51 (fun _ h => by cases h) (by kernel_rfl) t v h
theorem tan_uint64 (w : World) : (Instr.typeAssert .nilIface 20 51 true).run Tryz.prog w = .ok (.tuple #[.int .u64 0, .bool false]) w := ta_nil Tryz.underlying51 (fun _ h => by cases h) (by kernel_rfl)
theorem tay_float32 (v : Value) (w : World) : (Instr.typeAssert (.iface 52 v) 20 52 true).run Tryz.prog w = .ok (.tuple #[v, .bool true]) w := ta_hit Tryz.underlying52 (fun _ h => by cases h) v
theorem tam_float32 (t : TypeId) (v : Value) (w : World) (h : t ≠ 52) : (Instr.typeAssert (.iface t v) 20 52 true).run Tryz.prog w = .ok (.tuple #[.float .f32 0, .bool false]) w := ta_miss Tryz.underlying52 (fun _ h => by cases h) (by kernel_rfl) t v h
theorem tan_float32 (w : World) : (Instr.typeAssert .nilIface 20 52 true).run Tryz.prog w = .ok (.tuple #[.float .f32 0, .bool false]) w := ta_nil Tryz.underlying52 (fun _ h => by cases h) (by kernel_rfl)
theorem tay_float64 (v : Value) (w : World) : (Instr.typeAssert (.iface 22 v) 20 22 true).run Tryz.prog w = .ok (.tuple #[v, .bool true]) w := ta_hit Tryz.underlying22 (fun _ h => by cases h) v
theorem tam_float64 (t : TypeId) (v : Value) (w : World) (h : t ≠ 22) : (Instr.typeAssert (.iface t v) 20 22 true).run Tryz.prog w = .ok (.tuple #[.float .f64 0, .bool false]) w := ta_miss Tryz.underlying22 (fun _ h => by cases h) (by kernel_rfl) t v h
theorem tan_float64 (w : World) : (Instr.typeAssert .nilIface 20 22 true).run Tryz.prog w = .ok (.tuple #[.float .f64 0, .bool false]) w := ta_nil Tryz.underlying22 (fun _ h => by cases h) (by kernel_rfl)
theorem tay_string (v : Value) (w : World) : (Instr.typeAssert (.iface 9 v) 20 9 true).run Tryz.prog w = .ok (.tuple #[v, .bool true]) w := ta_hit Tryz.underlying9 (fun _ h => by cases h) v
theorem tam_string (t : TypeId) (v : Value) (w : World) (h : t ≠ 9) : (Instr.typeAssert (.iface t v) 20 9 true).run Tryz.prog w = .ok (.tuple #[.string ⟨#[]⟩, .bool false]) w := ta_miss Tryz.underlying9 (fun _ h => by cases h) (by kernel_rfl) t v h
theorem tan_string (w : World) : (Instr.typeAssert .nilIface 20 9 true).run Tryz.prog w = .ok (.tuple #[.string ⟨#[]⟩, .bool false]) w := ta_nil Tryz.underlying9 (fun _ h => by cases h) (by kernel_rfl)
theorem tay_sl (v : Value) (w : World) : (Instr.typeAssert (.iface 64 v) 20 64 true).run Tryz.prog w = .ok (.tuple #[v, .bool true]) w := ta_hit Tryz.underlying64 (fun _ h => by cases h) v
theorem tam_sl (t : TypeId) (v : Value) (w : World) (h : t ≠ 64) : (Instr.typeAssert (.iface t v) 20 64 true).run Tryz.prog w = .ok (.tuple #[.slice none 0 0, .bool false]) w := ta_miss Tryz.underlying64 (fun _ h => by cases h) (by kernel_rfl) t v h
theorem tan_sl (w : World) : (Instr.typeAssert .nilIface 20 64 true).run Tryz.prog w = .ok (.tuple #[.slice none 0 0, .bool false]) w := ta_nil Tryz.underlying64 (fun _ h => by cases h) (by kernel_rfl)
theorem tay_mp (v : Value) (w : World) : (Instr.typeAssert (.iface 65 v) 20 65 true).run Tryz.prog w = .ok (.tuple #[v, .bool true]) w := ta_hit Tryz.underlying65 (fun _ h => by cases h) v
theorem tam_mp (t : TypeId) (v : Value) (w : World) (h : t ≠ 65) : (Instr.typeAssert (.iface t v) 20 65 true).run Tryz.prog w = .ok (.tuple #[.map none, .bool false]) w := ta_miss Tryz.underlying65 (fun _ h => by cases h) (by kernel_rfl) t v h
theorem tan_mp (w : World) : (Instr.typeAssert .nilIface 20 65 true).run Tryz.prog w = .ok (.tuple #[.map none, .bool false]) w := ta_nil Tryz.underlying65 (fun _ h => by cases h) (by kernel_rfl)
theorem tay_gint (v : Value) (w : World) : (Instr.typeAssert (.iface 59 v) 20 59 true).run Tryz.prog w = .ok (.tuple #[v, .bool true]) w := ta_hit Tryz.underlying59 (fun _ h => by cases h) v
theorem tam_gint (t : TypeId) (v : Value) (w : World) (h : t ≠ 59) : (Instr.typeAssert (.iface t v) 20 59 true).run Tryz.prog w = .ok (.tuple #[.int .i64 0, .bool false]) w := ta_miss Tryz.underlying59 (fun _ h => by cases h) (by kernel_rfl) t v h
theorem tan_gint (w : World) : (Instr.typeAssert .nilIface 20 59 true).run Tryz.prog w = .ok (.tuple #[.int .i64 0, .bool false]) w := ta_nil Tryz.underlying59 (fun _ h => by cases h) (by kernel_rfl)
theorem tay_gfl (v : Value) (w : World) : (Instr.typeAssert (.iface 60 v) 20 60 true).run Tryz.prog w = .ok (.tuple #[v, .bool true]) w := ta_hit Tryz.underlying60 (fun _ h => by cases h) v
theorem tam_gfl (t : TypeId) (v : Value) (w : World) (h : t ≠ 60) : (Instr.typeAssert (.iface t v) 20 60 true).run Tryz.prog w = .ok (.tuple #[.float .f64 0, .bool false]) w := ta_miss Tryz.underlying60 (fun _ h => by cases h) (by kernel_rfl) t v h
theorem tan_gfl (w : World) : (Instr.typeAssert .nilIface 20 60 true).run Tryz.prog w = .ok (.tuple #[.float .f64 0, .bool false]) w := ta_nil Tryz.underlying60 (fun _ h => by cases h) (by kernel_rfl)
theorem tay_gstr (v : Value) (w : World) : (Instr.typeAssert (.iface 61 v) 20 61 true).run Tryz.prog w = .ok (.tuple #[v, .bool true]) w := ta_hit Tryz.underlying61 (fun _ h => by cases h) v
theorem tam_gstr (t : TypeId) (v : Value) (w : World) (h : t ≠ 61) : (Instr.typeAssert (.iface t v) 20 61 true).run Tryz.prog w = .ok (.tuple #[.string ⟨#[]⟩, .bool false]) w := ta_miss Tryz.underlying61 (fun _ h => by cases h) (by kernel_rfl) t v h
theorem tan_gstr (w : World) : (Instr.typeAssert .nilIface 20 61 true).run Tryz.prog w = .ok (.tuple #[.string ⟨#[]⟩, .bool false]) w := ta_nil Tryz.underlying61 (fun _ h => by cases h) (by kernel_rfl)
theorem tay_gbig (v : Value) (w : World) : (Instr.typeAssert (.iface 62 v) 20 62 true).run Tryz.prog w = .ok (.tuple #[v, .bool true]) w := ta_hit Tryz.underlying62 (fun _ h => by cases h) v
theorem tam_gbig (t : TypeId) (v : Value) (w : World) (h : t ≠ 62) : (Instr.typeAssert (.iface t v) 20 62 true).run Tryz.prog w = .ok (.tuple #[.string ⟨#[]⟩, .bool false]) w := ta_miss Tryz.underlying62 (fun _ h => by cases h) (by kernel_rfl) t v h
theorem tan_gbig (w : World) : (Instr.typeAssert .nilIface 20 62 true).run Tryz.prog w = .ok (.tuple #[.string ⟨#[]⟩, .bool false]) w := ta_nil Tryz.underlying62 (fun _ h => by cases h) (by kernel_rfl)
end Go.Proofs.YthagnngckegekaaGreatDoor
