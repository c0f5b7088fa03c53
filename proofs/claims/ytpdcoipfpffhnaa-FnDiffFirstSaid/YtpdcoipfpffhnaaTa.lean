/-
  What a type assertion with ok answers of an any value. Conditions: none.
-/
import Derived.Test.YtpdcoipfpffhnaaPT
namespace Go.Proofs.Ytpdcoipfpffhnaa
open Go.ChangeShapes Go.WideShapes Go.ChangeAt Go.RowKit
set_option linter.unusedVariables false
section
variable {P : Program} {T x : TypeId} {d : TypeDesc} {z : Value} {w : World}
theorem ta_hit (hd : P.underlying T = some d) (hn : ∀ m, d ≠ .interface m) (v : Value) : (Instr.typeAssert (.iface T v) x T true).run P w = .ok (.tuple #[v, .bool true]) w := by
  cases d <;> simp [Instr.typeAssert, run_underlying hd, Result.andThen] <;> first | rfl | exact absurd rfl (hn _)
theorem ta_miss (hd : P.underlying T = some d) (hn : ∀ m, d ≠ .interface m) (hz : (zeroValue T).run P w = .ok z w) (t : TypeId) (v : Value) (h : t ≠ T) : (Instr.typeAssert (.iface t v) x T true).run P w = .ok (.tuple #[z, .bool false]) w := by
  cases d <;> simp [Instr.typeAssert, run_underlying hd, h, hz, Result.andThen] <;> first | rfl | exact absurd rfl (hn _)
theorem ta_nil (hd : P.underlying T = some d) (hn : ∀ m, d ≠ .interface m) (hz : (zeroValue T).run P w = .ok z w) : (Instr.typeAssert .nilIface x T true).run P w = .ok (.tuple #[z, .bool false]) w := by
  cases d <;> simp [Instr.typeAssert, run_underlying hd, hz, Result.andThen] <;> first | rfl | exact absurd rfl (hn _)
end
theorem tay_bool (v : Value) (w : World) : (Instr.typeAssert (.iface 4 v) 20 4 true).run Try.prog w = .ok (.tuple #[v, .bool true]) w := ta_hit Try.underlying4 (fun _ h => by cases h) v
theorem tam_bool (t : TypeId) (v : Value) (w : World) (h : t ≠ 4) : (Instr.typeAssert (.iface t v) 20 4 true).run Try.prog w = .ok (.tuple #[.bool false, .bool false]) w := ta_miss Try.underlying4 (fun _ h => by cases h) (by kernel_rfl) t v h
theorem tan_bool (w : World) : (Instr.typeAssert .nilIface 20 4 true).run Try.prog w = .ok (.tuple #[.bool false, .bool false]) w := ta_nil Try.underlying4 (fun _ h => by cases h) (by kernel_rfl)
theorem tay_int (v : Value) (w : World) : (Instr.typeAssert (.iface 3 v) 20 3 true).run Try.prog w = .ok (.tuple #[v, .bool true]) w := ta_hit Try.underlying3 (fun _ h => by cases h) v
theorem tam_int (t : TypeId) (v : Value) (w : World) (h : t ≠ 3) : (Instr.typeAssert (.iface t v) 20 3 true).run Try.prog w = .ok (.tuple #[.int .i64 0, .bool false]) w := ta_miss Try.underlying3 (fun _ h => by cases h) (by kernel_rfl) t v h
theorem tan_int (w : World) : (Instr.typeAssert .nilIface 20 3 true).run Try.prog w = .ok (.tuple #[.int .i64 0, .bool false]) w := ta_nil Try.underlying3 (fun _ h => by cases h) (by kernel_rfl)
theorem tay_int8 (v : Value) (w : World) : (Instr.typeAssert (.iface 85 v) 20 85 true).run Try.prog w = .ok (.tuple #[v, .bool true]) w := ta_hit Try.underlying85 (fun _ h => by cases h) v
theorem tam_int8 (t : TypeId) (v : Value) (w : World) (h : t ≠ 85) : (Instr.typeAssert (.iface t v) 20 85 true).run Try.prog w = .ok (.tuple #[.int .i8 0, .bool false]) w := ta_miss Try.underlying85 (fun _ h => by cases h) (by kernel_rfl) t v h
theorem tan_int8 (w : World) : (Instr.typeAssert .nilIface 20 85 true).run Try.prog w = .ok (.tuple #[.int .i8 0, .bool false]) w := ta_nil Try.underlying85 (fun _ h => by cases h) (by kernel_rfl)
theorem tay_int16 (v : Value) (w : World) : (Instr.typeAssert (.iface 86 v) 20 86 true).run Try.prog w = .ok (.tuple #[v, .bool true]) w := ta_hit Try.underlying86 (fun _ h => by cases h) v
theorem tam_int16 (t : TypeId) (v : Value) (w : World) (h : t ≠ 86) : (Instr.typeAssert (.iface t v) 20 86 true).run Try.prog w = .ok (.tuple #[.int .i16 0, .bool false]) w := ta_miss Try.underlying86 (fun _ h => by cases h) (by kernel_rfl) t v h
theorem tan_int16 (w : World) : (Instr.typeAssert .nilIface 20 86 true).run Try.prog w = .ok (.tuple #[.int .i16 0, .bool false]) w := ta_nil Try.underlying86 (fun _ h => by cases h) (by kernel_rfl)
theorem tay_int32 (v : Value) (w : World) : (Instr.typeAssert (.iface 21 v) 20 21 true).run Try.prog w = .ok (.tuple #[v, .bool true]) w := ta_hit Try.underlying21 (fun _ h => by cases h) v
theorem tam_int32 (t : TypeId) (v : Value) (w : World) (h : t ≠ 21) : (Instr.typeAssert (.iface t v) 20 21 true).run Try.prog w = .ok (.tuple #[.int .i32 0, .bool false]) w := ta_miss Try.underlying21 (fun _ h => by cases h) (by kernel_rfl) t v h
theorem tan_int32 (w : World) : (Instr.typeAssert .nilIface 20 21 true).run Try.prog w = .ok (.tuple #[.int .i32 0, .bool false]) w := ta_nil Try.underlying21 (fun _ h => by cases h) (by kernel_rfl)
theorem tay_int64 (v : Value) (w : World) : (Instr.typeAssert (.iface 2 v) 20 2 true).run Try.prog w = .ok (.tuple #[v, .bool true]) w := ta_hit Try.underlying2 (fun _ h => by cases h) v
theorem tam_int64 (t : TypeId) (v : Value) (w : World) (h : t ≠ 2) : (Instr.typeAssert (.iface t v) 20 2 true).run Try.prog w = .ok (.tuple #[.int .i64 0, .bool false]) w := ta_miss Try.underlying2 (fun _ h => by cases h) (by kernel_rfl) t v h
theorem tan_int64 (w : World) : (Instr.typeAssert .nilIface 20 2 true).run Try.prog w = .ok (.tuple #[.int .i64 0, .bool false]) w := ta_nil Try.underlying2 (fun _ h => by cases h) (by kernel_rfl)
theorem tay_uint (v : Value) (w : World) : (Instr.typeAssert (.iface 87 v) 20 87 true).run Try.prog w = .ok (.tuple #[v, .bool true]) w := ta_hit Try.underlying87 (fun _ h => by cases h) v
theorem tam_uint (t : TypeId) (v : Value) (w : World) (h : t ≠ 87) : (Instr.typeAssert (.iface t v) 20 87 true).run Try.prog w = .ok (.tuple #[.int .u64 0, .bool false]) w := ta_miss Try.underlying87 (fun _ h => by cases h) (by kernel_rfl) t v h
theorem tan_uint (w : World) : (Instr.typeAssert .nilIface 20 87 true).run Try.prog w = .ok (.tuple #[.int .u64 0, .bool false]) w := ta_nil Try.underlying87 (fun _ h => by cases h) (by kernel_rfl)
theorem tay_uint8 (v : Value) (w : World) : (Instr.typeAssert (.iface 5 v) 20 5 true).run Try.prog w = .ok (.tuple #[v, .bool true]) w := ta_hit Try.underlying5 (fun _ h => by cases h) v
theorem tam_uint8 (t : TypeId) (v : Value) (w : World) (h : t ≠ 5) : (Instr.typeAssert (.iface t v) 20 5 true).run Try.prog w = .ok (.tuple #[.int .u8 0, .bool false]) w := ta_miss Try.underlying5 (fun _ h => by cases h) (by kernel_rfl) t v h
theorem tan_uint8 (w : World) : (Instr.typeAssert .nilIface 20 5 true).run Try.prog w = .ok (.tuple #[.int .u8 0, .bool false]) w := ta_nil Try.underlying5 (fun _ h => by cases h) (by kernel_rfl)
theorem tay_uint16 (v : Value) (w : World) : (Instr.typeAssert (.iface 88 v) 20 88 true).run Try.prog w = .ok (.tuple #[v, .bool true]) w := ta_hit Try.underlying88 (fun _ h => by cases h) v
theorem tam_uint16 (t : TypeId) (v : Value) (w : World) (h : t ≠ 88) : (Instr.typeAssert (.iface t v) 20 88 true).run Try.prog w = .ok (.tuple #[.int .u16 0, .bool false]) w := ta_miss Try.underlying88 (fun _ h => by cases h) (by kernel_rfl) t v h
theorem tan_uint16 (w : World) : (Instr.typeAssert .nilIface 20 88 true).run Try.prog w = .ok (.tuple #[.int .u16 0, .bool false]) w := ta_nil Try.underlying88 (fun _ h => by cases h) (by kernel_rfl)
theorem tay_uint32 (v : Value) (w : World) : (Instr.typeAssert (.iface 89 v) 20 89 true).run Try.prog w = .ok (.tuple #[v, .bool true]) w := ta_hit Try.underlying89 (fun _ h => by cases h) v
theorem tam_uint32 (t : TypeId) (v : Value) (w : World) (h : t ≠ 89) : (Instr.typeAssert (.iface t v) 20 89 true).run Try.prog w = .ok (.tuple #[.int .u32 0, .bool false]) w := ta_miss Try.underlying89 (fun _ h => by cases h) (by kernel_rfl) t v h
theorem tan_uint32 (w : World) : (Instr.typeAssert .nilIface 20 89 true).run Try.prog w = .ok (.tuple #[.int .u32 0, .bool false]) w := ta_nil Try.underlying89 (fun _ h => by cases h) (by kernel_rfl)
theorem tay_uint64 (v : Value) (w : World) : (Instr.typeAssert (.iface 90 v) 20 90 true).run Try.prog w = .ok (.tuple #[v, .bool true]) w := ta_hit Try.underlying90 (fun _ h => by cases h) v
theorem tam_uint64 (t : TypeId) (v : Value) (w : World) (h : t ≠ 90) : (Instr.typeAssert (.iface t v) 20 90 true).run Try.prog w = .ok (.tuple #[.int .u64 0, .bool false]) w := ta_miss Try.underlying90 (fun _ h => by cases h) (by kernel_rfl) t v h
theorem tan_uint64 (w : World) : (Instr.typeAssert .nilIface 20 90 true).run Try.prog w = .ok (.tuple #[.int .u64 0, .bool false]) w := ta_nil Try.underlying90 (fun _ h => by cases h) (by kernel_rfl)
theorem tay_float32 (v : Value) (w : World) : (Instr.typeAssert (.iface 93 v) 20 93 true).run Try.prog w = .ok (.tuple #[v, .bool true]) w := ta_hit Try.underlying93 (fun _ h => by cases h) v
theorem tam_float32 (t : TypeId) (v : Value) (w : World) (h : t ≠ 93) : (Instr.typeAssert (.iface t v) 20 93 true).run Try.prog w = .ok (.tuple #[.float .f32 0, .bool false]) w := ta_miss Try.underlying93 (fun _ h => by cases h) (by kernel_rfl) t v h
theorem tan_float32 (w : World) : (Instr.typeAssert .nilIface 20 93 true).run Try.prog w = .ok (.tuple #[.float .f32 0, .bool false]) w := ta_nil Try.underlying93 (fun _ h => by cases h) (by kernel_rfl)
theorem tay_float64 (v : Value) (w : World) : (Instr.typeAssert (.iface 22 v) 20 22 true).run Try.prog w = .ok (.tuple #[v, .bool true]) w := ta_hit Try.underlying22 (fun _ h => by cases h) v
theorem tam_float64 (t : TypeId) (v : Value) (w : World) (h : t ≠ 22) : (Instr.typeAssert (.iface t v) 20 22 true).run Try.prog w = .ok (.tuple #[.float .f64 0, .bool false]) w := ta_miss Try.underlying22 (fun _ h => by cases h) (by kernel_rfl) t v h
theorem tan_float64 (w : World) : (Instr.typeAssert .nilIface 20 22 true).run Try.prog w = .ok (.tuple #[.float .f64 0, .bool false]) w := ta_nil Try.underlying22 (fun _ h => by cases h) (by kernel_rfl)
theorem tay_string (v : Value) (w : World) : (Instr.typeAssert (.iface 9 v) 20 9 true).run Try.prog w = .ok (.tuple #[v, .bool true]) w := ta_hit Try.underlying9 (fun _ h => by cases h) v
theorem tam_string (t : TypeId) (v : Value) (w : World) (h : t ≠ 9) : (Instr.typeAssert (.iface t v) 20 9 true).run Try.prog w = .ok (.tuple #[.string ⟨#[]⟩, .bool false]) w := ta_miss Try.underlying9 (fun _ h => by cases h) (by kernel_rfl) t v h
theorem tan_string (w : World) : (Instr.typeAssert .nilIface 20 9 true).run Try.prog w = .ok (.tuple #[.string ⟨#[]⟩, .bool false]) w := ta_nil Try.underlying9 (fun _ h => by cases h) (by kernel_rfl)
theorem tay_sl (v : Value) (w : World) : (Instr.typeAssert (.iface 67 v) 20 67 true).run Try.prog w = .ok (.tuple #[v, .bool true]) w := ta_hit Try.underlying67 (fun _ h => by cases h) v
theorem tam_sl (t : TypeId) (v : Value) (w : World) (h : t ≠ 67) : (Instr.typeAssert (.iface t v) 20 67 true).run Try.prog w = .ok (.tuple #[.slice none 0 0, .bool false]) w := ta_miss Try.underlying67 (fun _ h => by cases h) (by kernel_rfl) t v h
theorem tan_sl (w : World) : (Instr.typeAssert .nilIface 20 67 true).run Try.prog w = .ok (.tuple #[.slice none 0 0, .bool false]) w := ta_nil Try.underlying67 (fun _ h => by cases h) (by kernel_rfl)
theorem tay_mp (v : Value) (w : World) : (Instr.typeAssert (.iface 54 v) 20 54 true).run Try.prog w = .ok (.tuple #[v, .bool true]) w := ta_hit Try.underlying54 (fun _ h => by cases h) v
theorem tam_mp (t : TypeId) (v : Value) (w : World) (h : t ≠ 54) : (Instr.typeAssert (.iface t v) 20 54 true).run Try.prog w = .ok (.tuple #[.map none, .bool false]) w := ta_miss Try.underlying54 (fun _ h => by cases h) (by kernel_rfl) t v h
theorem tan_mp (w : World) : (Instr.typeAssert .nilIface 20 54 true).run Try.prog w = .ok (.tuple #[.map none, .bool false]) w := ta_nil Try.underlying54 (fun _ h => by cases h) (by kernel_rfl)
theorem tay_fil (v : Value) (w : World) : (Instr.typeAssert (.iface 56 v) 20 56 true).run Try.prog w = .ok (.tuple #[v, .bool true]) w := ta_hit Try.underlying56 (fun _ h => by cases h) v
theorem tam_fil (t : TypeId) (v : Value) (w : World) (h : t ≠ 56) : (Instr.typeAssert (.iface t v) 20 56 true).run Try.prog w = .ok (.tuple #[.map none, .bool false]) w := ta_miss Try.underlying56 (fun _ h => by cases h) (by kernel_rfl) t v h
theorem tan_fil (w : World) : (Instr.typeAssert .nilIface 20 56 true).run Try.prog w = .ok (.tuple #[.map none, .bool false]) w := ta_nil Try.underlying56 (fun _ h => by cases h) (by kernel_rfl)
theorem tay_gint (v : Value) (w : World) : (Instr.typeAssert (.iface 109 v) 20 109 true).run Try.prog w = .ok (.tuple #[v, .bool true]) w := ta_hit Try.underlying109 (fun _ h => by cases h) v
theorem tam_gint (t : TypeId) (v : Value) (w : World) (h : t ≠ 109) : (Instr.typeAssert (.iface t v) 20 109 true).run Try.prog w = .ok (.tuple #[.int .i64 0, .bool false]) w := ta_miss Try.underlying109 (fun _ h => by cases h) (by kernel_rfl) t v h
theorem tan_gint (w : World) : (Instr.typeAssert .nilIface 20 109 true).run Try.prog w = .ok (.tuple #[.int .i64 0, .bool false]) w := ta_nil Try.underlying109 (fun _ h => by cases h) (by kernel_rfl)
theorem tay_gfl (v : Value) (w : World) : (Instr.typeAssert (.iface 110 v) 20 110 true).run Try.prog w = .ok (.tuple #[v, .bool true]) w := ta_hit Try.underlying110 (fun _ h => by cases h) v
theorem tam_gfl (t : TypeId) (v : Value) (w : World) (h : t ≠ 110) : (Instr.typeAssert (.iface t v) 20 110 true).run Try.prog w = .ok (.tuple #[.float .f64 0, .bool false]) w := ta_miss Try.underlying110 (fun _ h => by cases h) (by kernel_rfl) t v h
theorem tan_gfl (w : World) : (Instr.typeAssert .nilIface 20 110 true).run Try.prog w = .ok (.tuple #[.float .f64 0, .bool false]) w := ta_nil Try.underlying110 (fun _ h => by cases h) (by kernel_rfl)
end Go.Proofs.Ytpdcoipfpffhnaa
