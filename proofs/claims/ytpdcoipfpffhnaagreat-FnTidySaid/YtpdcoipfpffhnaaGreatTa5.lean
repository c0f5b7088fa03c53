/-
  What a type assertion with ok answers of an any value. Conditions: none.
-/
import Derived.Test.YtpdcoipfpffhnaaGreatPT
namespace Go.Proofs.YtpdcoipfpffhnaaGreat
open Go.ChangeShapes Go.WideShapes Go.ChangeAt Go.RowKit
set_option linter.unusedVariables false
section
variable {P : Program} {T x : TypeId} {d : TypeDesc} {z : Value} {w : World}
theorem ta_hit (hd : P.underlying T = some d) (hn : ∀ m, d ≠ .interface m) (v : Value) : (Instr.typeAssert (.iface T v) x T true).run P w = .ok (.tuple #[v, .bool true]) w := by
  cases d <;> simp [Instr.typeAssert, run_underlying hd, Result.andThen] <;> first | rfl | exact absurd rfl (hn _)
theorem ta_miss (hd : P.underlying T = some d) (hn : ∀ m, d ≠ .interface m) (hz : (zeroValue T).run P w = .ok z w) (t : TypeId) (v : Value) (h : t ≠ T) : (Instr.typeAssert (.iface t v) x T true).run P w = .ok (.tuple #[z, .bool false]) w := by
  cases d <;> simp [Instr.typeAssert, run_underlying hd, h, hz, Result.andThen] <;> first | rfl | exact absurd rfl (hn _)
theorem ta_nil (hd : P.underlying T = some d) (hn : ∀ m, d ≠ .interface m) (hz : (zeroValue T).run P w = .ok z w) : (Instr.typeAssert .nilIface x T true).run P w = .ok (.tuple #[z, .bool false]) w := by
  cases d <;> simp [Instr.typeAssert, run_underlying hd, hz, Result.andThen] <;> first | rfl | exact absurd rfl (hn _)
end
theorem tay_bool (v : Value) (w : World) : (Instr.typeAssert (.iface 4 v) 20 4 true).run Tryz.prog w = .ok (.tuple #[v, .bool true]) w := ta_hit Tryz.underlying4 (fun _ h => by cases h) v
theorem tam_bool (t : TypeId) (v : Value) (w : World) (h : t ≠ 4) : (Instr.typeAssert (.iface t v) 20 4 true).run Tryz.prog w = .ok (.tuple #[.bool false, .bool false]) w := ta_miss Tryz.underlying4 (fun _ h => by cases h) (by kernel_rfl) t v h
theorem tan_bool (w : World) : (Instr.typeAssert .nilIface 20 4 true).run Tryz.prog w = .ok (.tuple #[.bool false, .bool false]) w := ta_nil Tryz.underlying4 (fun _ h => by cases h) (by kernel_rfl)
theorem tay_int (v : Value) (w : World) : (Instr.typeAssert (.iface 3 v) 20 3 true).run Tryz.prog w = .ok (.tuple #[v, .bool true]) w := ta_hit Tryz.underlying3 (fun _ h => by cases h) v
theorem tam_int (t : TypeId) (v : Value) (w : World) (h : t ≠ 3) : (Instr.typeAssert (.iface t v) 20 3 true).run Tryz.prog w = .ok (.tuple #[.int .i64 0, .bool false]) w := ta_miss Tryz.underlying3 (fun _ h => by cases h) (by kernel_rfl) t v h
theorem tan_int (w : World) : (Instr.typeAssert .nilIface 20 3 true).run Tryz.prog w = .ok (.tuple #[.int .i64 0, .bool false]) w := ta_nil Tryz.underlying3 (fun _ h => by cases h) (by kernel_rfl)
theorem tay_int8 (v : Value) (w : World) : (Instr.typeAssert (.iface 88 v) 20 88 true).run Tryz.prog w = .ok (.tuple #[v, .bool true]) w := ta_hit Tryz.underlying88 (fun _ h => by cases h) v
theorem tam_int8 (t : TypeId) (v : Value) (w : World) (h : t ≠ 88) : (Instr.typeAssert (.iface t v) 20 88 true).run Tryz.prog w = .ok (.tuple #[.int .i8 0, .bool false]) w := ta_miss Tryz.underlying88 (fun _ h => by cases h) (by kernel_rfl) t v h
theorem tan_int8 (w : World) : (Instr.typeAssert .nilIface 20 88 true).run Tryz.prog w = .ok (.tuple #[.int .i8 0, .bool false]) w := ta_nil Tryz.underlying88 (fun _ h => by cases h) (by kernel_rfl)
theorem tay_int16 (v : Value) (w : World) : (Instr.typeAssert (.iface 89 v) 20 89 true).run Tryz.prog w = .ok (.tuple #[v, .bool true]) w := ta_hit Tryz.underlying89 (fun _ h => by cases h) v
theorem tam_int16 (t : TypeId) (v : Value) (w : World) (h : t ≠ 89) : (Instr.typeAssert (.iface t v) 20 89 true).run Tryz.prog w = .ok (.tuple #[.int .i16 0, .bool false]) w := ta_miss Tryz.underlying89 (fun _ h => by cases h) (by kernel_rfl) t v h
theorem tan_int16 (w : World) : (Instr.typeAssert .nilIface 20 89 true).run Tryz.prog w = .ok (.tuple #[.int .i16 0, .bool false]) w := ta_nil Tryz.underlying89 (fun _ h => by cases h) (by kernel_rfl)
theorem tay_int32 (v : Value) (w : World) : (Instr.typeAssert (.iface 21 v) 20 21 true).run Tryz.prog w = .ok (.tuple #[v, .bool true]) w := ta_hit Tryz.underlying21 (fun _ h => by cases h) v
theorem tam_int32 (t : TypeId) (v : Value) (w : World) (h : t ≠ 21) : (Instr.typeAssert (.iface t v) 20 21 true).run Tryz.prog w = .ok (.tuple #[.int .i32 0, .bool false]) w := ta_miss Tryz.underlying21 (fun _ h => by cases h) (by kernel_rfl) t v h
theorem tan_int32 (w : World) : (Instr.typeAssert .nilIface 20 21 true).run Tryz.prog w = .ok (.tuple #[.int .i32 0, .bool false]) w := ta_nil Tryz.underlying21 (fun _ h => by cases h) (by kernel_rfl)
theorem tay_int64 (v : Value) (w : World) : (Instr.typeAssert (.iface 2 v) 20 2 true).run Tryz.prog w = .ok (.tuple #[v, .bool true]) w := ta_hit Tryz.underlying2 (fun _ h => by cases h) v
theorem tam_int64 (t : TypeId) (v : Value) (w : World) (h : t ≠ 2) : (Instr.typeAssert (.iface t v) 20 2 true).run Tryz.prog w = .ok (.tuple #[.int .i64 0, .bool false]) w := ta_miss Tryz.underlying2 (fun _ h => by cases h) (by kernel_rfl) t v h
theorem tan_int64 (w : World) : (Instr.typeAssert .nilIface 20 2 true).run Tryz.prog w = .ok (.tuple #[.int .i64 0, .bool false]) w := ta_nil Tryz.underlying2 (fun _ h => by cases h) (by kernel_rfl)
theorem tay_uint (v : Value) (w : World) : (Instr.typeAssert (.iface 90 v) 20 90 true).run Tryz.prog w = .ok (.tuple #[v, .bool true]) w := ta_hit Tryz.underlying90 (fun _ h => by cases h) v
theorem tam_uint (t : TypeId) (v : Value) (w : World) (h : t ≠ 90) : (Instr.typeAssert (.iface t v) 20 90 true).run Tryz.prog w = .ok (.tuple #[.int .u64 0, .bool false]) w := ta_miss Tryz.underlying90 (fun _ h => by cases h) (by kernel_rfl) t v h
theorem tan_uint (w : World) : (Instr.typeAssert .nilIface 20 90 true).run Tryz.prog w = .ok (.tuple #[.int .u64 0, .bool false]) w := ta_nil Tryz.underlying90 (fun _ h => by cases h) (by kernel_rfl)
theorem tay_uint8 (v : Value) (w : World) : (Instr.typeAssert (.iface 5 v) 20 5 true).run Tryz.prog w = .ok (.tuple #[v, .bool true]) w := ta_hit Tryz.underlying5 (fun _ h => by cases h) v
theorem tam_uint8 (t : TypeId) (v : Value) (w : World) (h : t ≠ 5) : (Instr.typeAssert (.iface t v) 20 5 true).run Tryz.prog w = .ok (.tuple #[.int .u8 0, .bool false]) w := ta_miss Tryz.underlying5 (fun _ h => by cases h) (by kernel_rfl) t v h
theorem tan_uint8 (w : World) : (Instr.typeAssert .nilIface 20 5 true).run Tryz.prog w = .ok (.tuple #[.int .u8 0, .bool false]) w := ta_nil Tryz.underlying5 (fun _ h => by cases h) (by kernel_rfl)
theorem tay_uint16 (v : Value) (w : World) : (Instr.typeAssert (.iface 91 v) 20 91 true).run Tryz.prog w = .ok (.tuple #[v, .bool true]) w := ta_hit Tryz.underlying91 (fun _ h => by cases h) v
theorem tam_uint16 (t : TypeId) (v : Value) (w : World) (h : t ≠ 91) : (Instr.typeAssert (.iface t v) 20 91 true).run Tryz.prog w = .ok (.tuple #[.int .u16 0, .bool false]) w := ta_miss Tryz.underlying91 (fun _ h => by cases h) (by kernel_rfl) t v h
theorem tan_uint16 (w : World) : (Instr.typeAssert .nilIface 20 91 true).run Tryz.prog w = .ok (.tuple #[.int .u16 0, .bool false]) w := ta_nil Tryz.underlying91 (fun _ h => by cases h) (by kernel_rfl)
theorem tay_uint32 (v : Value) (w : World) : (Instr.typeAssert (.iface 92 v) 20 92 true).run Tryz.prog w = .ok (.tuple #[v, .bool true]) w := ta_hit Tryz.underlying92 (fun _ h => by cases h) v
theorem tam_uint32 (t : TypeId) (v : Value) (w : World) (h : t ≠ 92) : (Instr.typeAssert (.iface t v) 20 92 true).run Tryz.prog w = .ok (.tuple #[.int .u32 0, .bool false]) w := ta_miss Tryz.underlying92 (fun _ h => by cases h) (by kernel_rfl) t v h
theorem tan_uint32 (w : World) : (Instr.typeAssert .nilIface 20 92 true).run Tryz.prog w = .ok (.tuple #[.int .u32 0, .bool false]) w := ta_nil Tryz.underlying92 (fun _ h => by cases h) (by kernel_rfl)
theorem tay_uint64 (v : Value) (w : World) : (Instr.typeAssert (.iface 78 v) 20 78 true).run Tryz.prog w = .ok (.tuple #[v, .bool true]) w := ta_hit Tryz.underlying78 (fun _ h => by cases h) v
theorem tam_uint64 (t : TypeId) (v : Value) (w : World) (h : t ≠ 78) : (Instr.typeAssert (.iface t v) 20 78 true).run Tryz.prog w = .ok (.tuple #[.int .u64 0, .bool false]) w := ta_miss Tryz.underlying78 (fun _ h => by cases h) (by kernel_rfl) t v h
theorem tan_uint64 (w : World) : (Instr.typeAssert .nilIface 20 78 true).run Tryz.prog w = .ok (.tuple #[.int .u64 0, .bool false]) w := ta_nil Tryz.underlying78 (fun _ h => by cases h) (by kernel_rfl)
theorem tay_float32 (v : Value) (w : World) : (Instr.typeAssert (.iface 93 v) 20 93 true).run Tryz.prog w = .ok (.tuple #[v, .bool true]) w := ta_hit Tryz.underlying93 (fun _ h => by cases h) v
theorem tam_float32 (t : TypeId) (v : Value) (w : World) (h : t ≠ 93) : (Instr.typeAssert (.iface t v) 20 93 true).run Tryz.prog w = .ok (.tuple #[.float .f32 0, .bool false]) w := ta_miss Tryz.underlying93 (fun _ h => by cases h) (by kernel_rfl) t v h
theorem tan_float32 (w : World) : (Instr.typeAssert .nilIface 20 93 true).run Tryz.prog w = .ok (.tuple #[.float .f32 0, .bool false]) w := ta_nil Tryz.underlying93 (fun _ h => by cases h) (by kernel_rfl)
theorem tay_float64 (v : Value) (w : World) : (Instr.typeAssert (.iface 22 v) 20 22 true).run Tryz.prog w = .ok (.tuple #[v, .bool true]) w := ta_hit Tryz.underlying22 (fun _ h => by cases h) v
theorem tam_float64 (t : TypeId) (v : Value) (w : World) (h : t ≠ 22) : (Instr.typeAssert (.iface t v) 20 22 true).run Tryz.prog w = .ok (.tuple #[.float .f64 0, .bool false]) w := ta_miss Tryz.underlying22 (fun _ h => by cases h) (by kernel_rfl) t v h
theorem tan_float64 (w : World) : (Instr.typeAssert .nilIface 20 22 true).run Tryz.prog w = .ok (.tuple #[.float .f64 0, .bool false]) w := ta_nil Tryz.underlying22 (fun _ h => by cases h) (by kernel_rfl)
theorem tay_string (v : Value) (w : World) : (Instr.typeAssert (.iface 9 v) 20 9 true).run Tryz.prog w = .ok (.tuple #[v, .bool true]) w := ta_hit Tryz.underlying9 (fun _ h => by cases h) v
theorem tam_string (t : TypeId) (v : Value) (w : World) (h : t ≠ 9) : (Instr.typeAssert (.iface t v) 20 9 true).run Tryz.prog w = .ok (.tuple #[.string ⟨#[]⟩, .bool false]) w := ta_miss Tryz.underlying9 (fun _ h => by cases h) (by kernel_rfl) t v h
theorem tan_string (w : World) : (Instr.typeAssert .nilIface 20 9 true).run Tryz.prog w = .ok (.tuple #[.string ⟨#[]⟩, .bool false]) w := ta_nil Tryz.underlying9 (fun _ h => by cases h) (by kernel_rfl)
theorem tay_sl (v : Value) (w : World) : (Instr.typeAssert (.iface 57 v) 20 57 true).run Tryz.prog w = .ok (.tuple #[v, .bool true]) w := ta_hit Tryz.underlying57 (fun _ h => by cases h) v
theorem tam_sl (t : TypeId) (v : Value) (w : World) (h : t ≠ 57) : (Instr.typeAssert (.iface t v) 20 57 true).run Tryz.prog w = .ok (.tuple #[.slice none 0 0, .bool false]) w := ta_miss Tryz.underlying57 (fun _ h => by cases h) (by kernel_rfl) t v h
theorem tan_sl (w : World) : (Instr.typeAssert .nilIface 20 57 true).run Tryz.prog w = .ok (.tuple #[.slice none 0 0, .bool false]) w := ta_nil Tryz.underlying57 (fun _ h => by cases h) (by kernel_rfl)
theorem tay_mp (v : Value) (w : World) : (Instr.typeAssert (.iface 67 v) 20 67 true).run Tryz.prog w = .ok (.tuple #[v, .bool true]) w := ta_hit Tryz.underlying67 (fun _ h => by cases h) v
theorem tam_mp (t : TypeId) (v : Value) (w : World) (h : t ≠ 67) : (Instr.typeAssert (.iface t v) 20 67 true).run Tryz.prog w = .ok (.tuple #[.map none, .bool false]) w := ta_miss Tryz.underlying67 (fun _ h => by cases h) (by kernel_rfl) t v h
theorem tan_mp (w : World) : (Instr.typeAssert .nilIface 20 67 true).run Tryz.prog w = .ok (.tuple #[.map none, .bool false]) w := ta_nil Tryz.underlying67 (fun _ h => by cases h) (by kernel_rfl)
theorem tay_gbool (v : Value) (w : World) : (Instr.typeAssert (.iface 51 v) 20 51 true).run Tryz.prog w = .ok (.tuple #[v, .bool true]) w := ta_hit Tryz.underlying51 (fun _ h => by cases h) v
theorem tam_gbool (t : TypeId) (v : Value) (w : World) (h : t ≠ 51) : (Instr.typeAssert (.iface t v) 20 51 true).run Tryz.prog w = .ok (.tuple #[.bool false, .bool false]) w := ta_miss Tryz.underlying51 (fun _ h => by cases h) (by kernel_rfl) t v h
theorem tan_gbool (w : World) : (Instr.typeAssert .nilIface 20 51 true).run Tryz.prog w = .ok (.tuple #[.bool false, .bool false]) w := ta_nil Tryz.underlying51 (fun _ h => by cases h) (by kernel_rfl)
theorem tay_gint (v : Value) (w : World) : (Instr.typeAssert (.iface 52 v) 20 52 true).run Tryz.prog w = .ok (.tuple #[v, .bool true]) w := ta_hit Tryz.underlying52 (fun _ h => by cases h) v
theorem tam_gint (t : TypeId) (v : Value) (w : World) (h : t ≠ 52) : (Instr.typeAssert (.iface t v) 20 52 true).run Tryz.prog w = .ok (.tuple #[.int .i64 0, .bool false]) w := ta_miss Tryz.underlying52 (fun _ h => by cases h) (by kernel_rfl) t v h
theorem tan_gint (w : World) : (Instr.typeAssert .nilIface 20 52 true).run Tryz.prog w = .ok (.tuple #[.int .i64 0, .bool false]) w := ta_nil Tryz.underlying52 (fun _ h => by cases h) (by kernel_rfl)
theorem tay_gfl (v : Value) (w : World) : (Instr.typeAssert (.iface 53 v) 20 53 true).run Tryz.prog w = .ok (.tuple #[v, .bool true]) w := ta_hit Tryz.underlying53 (fun _ h => by cases h) v
theorem tam_gfl (t : TypeId) (v : Value) (w : World) (h : t ≠ 53) : (Instr.typeAssert (.iface t v) 20 53 true).run Tryz.prog w = .ok (.tuple #[.float .f64 0, .bool false]) w := ta_miss Tryz.underlying53 (fun _ h => by cases h) (by kernel_rfl) t v h
theorem tan_gfl (w : World) : (Instr.typeAssert .nilIface 20 53 true).run Tryz.prog w = .ok (.tuple #[.float .f64 0, .bool false]) w := ta_nil Tryz.underlying53 (fun _ h => by cases h) (by kernel_rfl)
theorem tay_gstr (v : Value) (w : World) : (Instr.typeAssert (.iface 54 v) 20 54 true).run Tryz.prog w = .ok (.tuple #[v, .bool true]) w := ta_hit Tryz.underlying54 (fun _ h => by cases h) v
theorem tam_gstr (t : TypeId) (v : Value) (w : World) (h : t ≠ 54) : (Instr.typeAssert (.iface t v) 20 54 true).run Tryz.prog w = .ok (.tuple #[.string ⟨#[]⟩, .bool false]) w := ta_miss Tryz.underlying54 (fun _ h => by cases h) (by kernel_rfl) t v h
theorem tan_gstr (w : World) : (Instr.typeAssert .nilIface 20 54 true).run Tryz.prog w = .ok (.tuple #[.string ⟨#[]⟩, .bool false]) w := ta_nil Tryz.underlying54 (fun _ h => by cases h) (by kernel_rfl)
theorem tay_jnum (v : Value) (w : World) : (Instr.typeAssert (.iface 55 v) 20 55 true).run Tryz.prog w = .ok (.tuple #[v, .bool true]) w := ta_hit Tryz.underlying55 (fun _ h => by cases h) v
theorem tam_jnum (t : TypeId) (v : Value) (w : World) (h : t ≠ 55) : (Instr.typeAssert (.iface t v) 20 55 true).run Tryz.prog w = .ok (.tuple #[.string ⟨#[]⟩, .bool false]) w := ta_miss Tryz.underlying55 (fun _ h => by cases h) (by kernel_rfl) t v h
theorem tan_jnum (w : World) : (Instr.typeAssert .nilIface 20 55 true).run Tryz.prog w = .ok (.tuple #[.string ⟨#[]⟩, .bool false]) w := ta_nil Tryz.underlying55 (fun _ h => by cases h) (by kernel_rfl)
theorem tay_gbig (v : Value) (w : World) : (Instr.typeAssert (.iface 56 v) 20 56 true).run Tryz.prog w = .ok (.tuple #[v, .bool true]) w := ta_hit Tryz.underlying56 (fun _ h => by cases h) v
theorem tam_gbig (t : TypeId) (v : Value) (w : World) (h : t ≠ 56) : (Instr.typeAssert (.iface t v) 20 56 true).run Tryz.prog w = .ok (.tuple #[.string ⟨#[]⟩, .bool false]) w := ta_miss Tryz.underlying56 (fun _ h => by cases h) (by kernel_rfl) t v h
theorem tan_gbig (w : World) : (Instr.typeAssert .nilIface 20 56 true).run Tryz.prog w = .ok (.tuple #[.string ⟨#[]⟩, .bool false]) w := ta_nil Tryz.underlying56 (fun _ h => by cases h) (by kernel_rfl)
theorem tay_garr (v : Value) (w : World) : (Instr.typeAssert (.iface 60 v) 20 60 true).run Tryz.prog w = .ok (.tuple #[v, .bool true]) w := ta_hit Tryz.underlying60 (fun _ h => by cases h) v
theorem tam_garr (t : TypeId) (v : Value) (w : World) (h : t ≠ 60) : (Instr.typeAssert (.iface t v) 20 60 true).run Tryz.prog w = .ok (.tuple #[.slice none 0 0, .bool false]) w := ta_miss Tryz.underlying60 (fun _ h => by cases h) (by kernel_rfl) t v h
theorem tan_garr (w : World) : (Instr.typeAssert .nilIface 20 60 true).run Tryz.prog w = .ok (.tuple #[.slice none 0 0, .bool false]) w := ta_nil Tryz.underlying60 (fun _ h => by cases h) (by kernel_rfl)
theorem tay_lst (v : Value) (w : World) : (Instr.typeAssert (.iface 64 v) 20 64 true).run Tryz.prog w = .ok (.tuple #[v, .bool true]) w := ta_hit Tryz.underlying64 (fun _ h => by cases h) v
theorem tam_lst (t : TypeId) (v : Value) (w : World) (h : t ≠ 64) : (Instr.typeAssert (.iface t v) 20 64 true).run Tryz.prog w = .ok (.tuple #[.pointer none, .bool false]) w := ta_miss Tryz.underlying64 (fun _ h => by cases h) (by kernel_rfl) t v h
theorem tan_lst (w : World) : (Instr.typeAssert .nilIface 20 64 true).run Tryz.prog w = .ok (.tuple #[.pointer none, .bool false]) w := ta_nil Tryz.underlying64 (fun _ h => by cases h) (by kernel_rfl)
theorem tay_gobj (v : Value) (w : World) : (Instr.typeAssert (.iface 72 v) 20 72 true).run Tryz.prog w = .ok (.tuple #[v, .bool true]) w := ta_hit Tryz.underlying72 (fun _ h => by cases h) v
theorem tam_gobj (t : TypeId) (v : Value) (w : World) (h : t ≠ 72) : (Instr.typeAssert (.iface t v) 20 72 true).run Tryz.prog w = .ok (.tuple #[.map none, .bool false]) w := ta_miss Tryz.underlying72 (fun _ h => by cases h) (by kernel_rfl) t v h
theorem tan_gobj (w : World) : (Instr.typeAssert .nilIface 20 72 true).run Tryz.prog w = .ok (.tuple #[.map none, .bool false]) w := ta_nil Tryz.underlying72 (fun _ h => by cases h) (by kernel_rfl)
theorem tay_dct (v : Value) (w : World) : (Instr.typeAssert (.iface 74 v) 20 74 true).run Tryz.prog w = .ok (.tuple #[v, .bool true]) w := ta_hit Tryz.underlying74 (fun _ h => by cases h) v
theorem tam_dct (t : TypeId) (v : Value) (w : World) (h : t ≠ 74) : (Instr.typeAssert (.iface t v) 20 74 true).run Tryz.prog w = .ok (.tuple #[.pointer none, .bool false]) w := ta_miss Tryz.underlying74 (fun _ h => by cases h) (by kernel_rfl) t v h
theorem tan_dct (w : World) : (Instr.typeAssert .nilIface 20 74 true).run Tryz.prog w = .ok (.tuple #[.pointer none, .bool false]) w := ta_nil Tryz.underlying74 (fun _ h => by cases h) (by kernel_rfl)
end Go.Proofs.YtpdcoipfpffhnaaGreat
