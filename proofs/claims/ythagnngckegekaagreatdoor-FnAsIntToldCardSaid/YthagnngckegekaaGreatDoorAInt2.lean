/-
  alt.Int of floats and texts. Conditions: none.
-/
import Derived.Test.YthagnngckegekaaGreatDoorAInt
namespace Go.Proofs.YthagnngckegekaaGreatDoor
open Go.ChangeShapes Go.WideShapes Go.ChangeAt Go.RowKit
set_option linter.unusedVariables false
set_option linter.unusedSimpArgs false
attribute [local go_sem] tay_bool tam_bool tan_bool tay_int tam_int tan_int tay_int8 tam_int8 tan_int8 tay_int16 tam_int16 tan_int16 tay_int32 tam_int32 tan_int32 tay_int64 tam_int64 tan_int64 tay_uint tam_uint tan_uint tay_uint8 tam_uint8 tan_uint8 tay_uint16 tam_uint16 tan_uint16 tay_uint32 tam_uint32 tan_uint32 tay_uint64 tam_uint64 tan_uint64 tay_float32 tam_float32 tan_float32 tay_float64 tam_float64 tan_float64 tay_string tam_string tan_string tay_sl tam_sl tan_sl tay_mp tam_mp tan_mp tay_gint tam_gint tan_gint tay_gfl tam_gfl tan_gfl tay_gstr tam_gstr tan_gstr tay_gbig tam_gbig tan_gbig

theorem run_cvt {f : Nat} {z : Int} (h : floatToIntVal .f64 f .i64 = some z) (w : World) : (convert 22 2 (.float .f64 f)).run Tryz.prog w = .ok (.int .i64 z) w := run_convert_float_int w _ _ _ _ _ _ (by kernel_rfl) Tryz.underlying2 h
theorem run_cvt' {f : Nat} {z : Int} (h : floatToIntVal .f64 f .i64 = some z) (w : World) : (convert 22 3 (.float .f64 f)).run Tryz.prog w = .ok (.int .i64 z) w := run_convert_float_int w _ _ _ _ _ _ (by kernel_rfl) Tryz.underlying3 h

set_option maxRecDepth 100000 in
set_option maxHeartbeats 4000000 in
theorem int_float (f : Nat) (z : Int) (ds : List Int) (d : Value) (w : World) (h : DS w ds d) (hz : floatToIntVal .f64 f .i64 = some z) :
    Calls Tryz.prog 17 #[.iface 22 (.float .f64 f), d] w (IntOf (if neqF z f && decide (ds.length = 2) then ds.getD 1 0 else z) w) := by
  have hcv := run_cvt hz
  clear hz
  cases hn : (FloatKind.f64.format.order (floatOfInt .f64 z) f != some Ordering.eq) with
  | true =>
    have e : neqF z f = true := hn
    rw [e]
    clear e
    cases h
    all_goals
      go_enter Tryz.func17, Tryz.ntmps17
      go_wp2_with fail
      go_ret
      exact ⟨rfl, Below.refl _ _⟩
  | false =>
    have e : neqF z f = false := hn
    rw [e]
    clear e
    cases h
    all_goals
      go_enter Tryz.func17, Tryz.ntmps17
      go_wp2_with fail
      go_ret
      exact ⟨rfl, Below.refl _ _⟩

theorem below_parse {w w' : World} (h : w' = w ∨ ∃ t, w' = Lib.bytesWorld w 5 t) : Below w.heap.size w w' := by
  rcases h with rfl | ⟨t, rfl⟩
  · exact Below.refl _ _
  · exact Lib.bytesWorld_below _ _ _

set_option maxRecDepth 100000 in
set_option maxHeartbeats 4000000 in
theorem int_str2 (s : ByteArray) (ds : List Int) (d : Value) (w : World) (h : DS w ds d) (h2 : ds.length = 2) :
    Calls Tryz.prog 17 #[.iface 9 (.string s), d] w (IntOf (ds.getD 1 0) w) := by
  cases h with
  | none => simp at h2
  | one => simp at h2
  | two =>
    clear h2
    go_enter Tryz.func17, Tryz.ntmps17
    go_wp2_with fail
    go_ret
    exact ⟨rfl, Below.refl _ _⟩

set_option maxRecDepth 100000 in
set_option maxHeartbeats 4000000 in
theorem int_numeral (s : ByteArray) (ds : List Int) (d : Value) (w : World) (h : DS w ds d) (h2 : ds.length ≠ 2) (hs : s.size ≤ 1000000) (hnum : Numeral (L s)) :
    Calls Tryz.prog 17 #[.iface 9 (.string s), d] w (IntOf (numV (L s)) w) := by
  have hp := Lib.hid (fun w => Tryz.strconv_ParseInt_10_at64_ok s (by omega) (numV (L s)) (numeral_parse hnum) w)
  clear hnum
  cases h with
  | two => exact absurd rfl h2
  | none =>
    clear h2
    go_enter Tryz.func17, Tryz.ntmps17
    go_wp2_with fail
    refine (hp.out w).mono ?_
    rintro e w1 ⟨rfl, hb⟩
    have hb1 := below_parse hb
    clear hb
    go_wp2_with fail
    go_ret
    exact ⟨rfl, hb1⟩
  | one =>
    clear h2
    go_enter Tryz.func17, Tryz.ntmps17
    go_wp2_with fail
    refine (hp.out w).mono ?_
    rintro e w1 ⟨rfl, hb⟩
    have hb1 := below_parse hb
    clear hb
    go_wp2_with fail
    go_ret
    exact ⟨rfl, hb1⟩

set_option maxRecDepth 100000 in
set_option maxHeartbeats 4000000 in
theorem int_numberless (s : ByteArray) (ds : List Int) (d : Value) (w : World) (h : DS w ds d) (h2 : ds.length ≠ 2) (hs : s.size ≤ 1000000) (hno : Numberless (L s)) (herr : ErrAt w) :
    Calls Tryz.prog 17 #[.iface 9 (.string s), d] w (IntOf (ds.getD 0 0) w) := by
  have hf := Lib.hid (fun w1 (hb : Below w.heap.size w w1) => parseFloat_any s w1 hs hno (herr.bel hb))
  obtain ⟨ev, hv, hev⟩ := herr
  have hp := Lib.hid (Tryz.strconv_ParseInt_10_at64_syntax s (by omega) (numberless_parse hno) ev w hv hev)
  clear hno hv hev
  cases h with
  | two => exact absurd rfl h2
  | none =>
    clear h2
    go_enter Tryz.func17, Tryz.ntmps17
    go_wp2_with fail
    refine hp.out.mono ?_
    rintro e w1 ⟨N, rfl, _, _, hb1⟩
    go_wp2_with fail
    refine (hf.out w1 hb1).mono ?_
    rintro e w2 ⟨⟨N2, rfl⟩, hb2⟩
    have hb3 := hb1.trans (hb2.mono hb1.size)
    go_wp2_with fail
    go_ret
    exact ⟨rfl, hb3⟩
  | one g c a h =>
    clear h2
    have hlt := Lib.lt_of_cell h
    go_enter Tryz.func17, Tryz.ntmps17
    go_wp2_with fail
    refine hp.out.mono ?_
    rintro e w1 ⟨N, rfl, _, _, hb1⟩
    go_wp2_with fail
    refine (hf.out w1 hb1).mono ?_
    rintro e w2 ⟨⟨N2, rfl⟩, hb2⟩
    have hb3 := hb1.trans (hb2.mono hb1.size)
    have h3 := (hb3.cell (p := ⟨g, 0, none⟩) hlt).trans h
    clear h
    go_wp2_with fail
    go_ret
    exact ⟨rfl, hb3⟩
end Go.Proofs.YthagnngckegekaaGreatDoor
