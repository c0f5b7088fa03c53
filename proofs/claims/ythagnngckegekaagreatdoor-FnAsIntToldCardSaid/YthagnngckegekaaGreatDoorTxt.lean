/-
  alt.Int at any text, and AsInt there: they return. Conditions: none.
-/
import Derived.Test.YthagnngckegekaaGreatDoorA64
import Derived.Test.YthagnngckegekaaGreatDoorAInt2
import Derived.Test.YthagnngckegekaaGreatDoorAsi
import Derived.Laws.FloatArith
namespace Go.Proofs.YthagnngckegekaaGreatDoor
open Go.ChangeShapes Go.WideShapes Go.ChangeAt Go.RowKit Go.Joins
set_option linter.unusedVariables false
set_option linter.unusedSimpArgs false

theorem run_cvt_ex (f : Nat) (w : World) : ∃ z n, (convert 22 2 (.float .f64 f)).run Tryz.prog w = .ok (.int .i64 z) (w.drewN n) := by
  cases h : floatToIntVal .f64 f .i64 with
  | some z => exact ⟨z, 0, run_convert_float_int w _ _ .f64 .i64 f z (by rw [Tryz.underlying22]; rfl) Tryz.underlying2 h⟩
  | none =>
    refine ⟨IntKind.i64.wrap ((Question.floatToInt .f64 f .i64).cut (w.tape w.drawn (.floatToInt .f64 f .i64))), 1, ?_⟩
    unfold floatToIntVal at h
    split at h
    · rename_i m he
      split at h
      · cases h
      · rename_i hb
        simp [convert, run_underlying Tryz.underlying22, run_underlying Tryz.underlying2, Conv.floatToInt, he, hb, Question.forced]
        rw [if_neg (show ¬ (IntKind.i64.min ≤ m ∧ m ≤ 9223372036854775807) from hb)]
        rfl
    · rename_i he
      simp [convert, run_underlying Tryz.underlying22, run_underlying Tryz.underlying2, Conv.floatToInt, he, Question.forced]
      rfl
noncomputable def cvtR (f : Nat) (w : World) : Int := (run_cvt_ex f w).choose
noncomputable def cvtN (f : Nat) (w : World) : Nat := (run_cvt_ex f w).choose_spec.choose
theorem run_cvtX (f : Nat) (w : World) : (convert 22 2 (.float .f64 f)).run Tryz.prog w = .ok (.int .i64 (cvtR f w)) (w.drewN (cvtN f w)) := (run_cvt_ex f w).choose_spec.choose_spec
section
attribute [local go_sem] run_cvtX
attribute [local go_sem] tay_bool tam_bool tan_bool tay_int tam_int tan_int tay_int8 tam_int8 tan_int8 tay_int16 tam_int16 tan_int16 tay_int32 tam_int32 tan_int32 tay_int64 tam_int64 tan_int64 tay_uint tam_uint tan_uint tay_uint8 tam_uint8 tan_uint8 tay_uint16 tam_uint16 tan_uint16 tay_uint32 tam_uint32 tan_uint32 tay_uint64 tam_uint64 tan_uint64 tay_float32 tam_float32 tan_float32 tay_float64 tam_float64 tan_float64 tay_string tam_string tan_string tay_sl tam_sl tan_sl tay_mp tam_mp tan_mp tay_gint tam_gint tan_gint tay_gfl tam_gfl tan_gfl tay_gstr tam_gstr tan_gstr tay_gbig tam_gbig tan_gbig
def SomeInt64 (w : World) (e : Ending) (w' : World) : Prop := ∃ z : Int, e = .returned (.int .i64 z) ∧ True ∧ Below w.heap.size w w'
set_option maxRecDepth 100000 in
set_option maxHeartbeats 4000000 in
theorem int_syntax (s : ByteArray) (ds : List Int) (d : Value) (w : World) (h : DS w ds d) (h2 : ds.length ≠ 2) (hs0 : 0 < s.size) (hs : s.size ≤ 1000) (hT : Tabs w) (hE : ErrsAt w) (hpr : Lib.parseIntB 64 (L s) = Lib.parseIntB 64 []) :
    Calls Tryz.prog 17 #[.iface 9 (.string s), d] w (SomeInt64 w) := by
  have hf := Lib.hid (fun w1 (hb : Below w.heap.size w w1) => parseFloat_at (hT.bel hb) (hE.bel hb) hs0 hs)
  have hsl : s.size ≤ 281474976710656 := by omega
  obtain ⟨ev, hv, hev⟩ := hE.1
  have hp := Lib.hid (Tryz.strconv_ParseInt_10_at64_syntax s hsl hpr ev w hv hev)
  clear hpr hv hev
  clear hT hE
  cases h with
  | two => exact absurd rfl h2
  | none =>
    clear h2
    go_enter Tryz.func17, Tryz.ntmps17
    go_wp2_with fail
    refine hp.out.mono ?_
    rintro e w1 ⟨N, rfl, _, _, hb1⟩
    clear hp
    go_wp2_with fail
    refine (hf.out w1 hb1).mono ?_
    rintro e w2 ⟨hb2, f, v, hv, rfl⟩
    clear hf
    have hb3 := hb1.trans (hb2.mono hb1.size)
    have hb3H := Lib.hid hb3
    clear hb1 hb2 hb3
    rcases hv with rfl | ⟨N2, rfl⟩
    · go_wp2_with fail
      all_goals
        go_ret
        first
        | exact ⟨_, rfl, trivial, below_drewN hb3H.out _⟩
    · go_wp2_with fail
      all_goals
        go_ret
        exact ⟨_, rfl, trivial, hb3H.out⟩
  | one g c a h =>
    clear h2
    have hlt := Lib.lt_of_cell h
    go_enter Tryz.func17, Tryz.ntmps17
    go_wp2_with fail
    refine hp.out.mono ?_
    rintro e w1 ⟨N, rfl, _, _, hb1⟩
    clear hp
    go_wp2_with fail
    refine (hf.out w1 hb1).mono ?_
    rintro e w2 ⟨hb2, f, v, hv, rfl⟩
    clear hf
    have hb3 := hb1.trans (hb2.mono hb1.size)
    have hb3H := Lib.hid hb3
    have h3 := (hb3.cell (p := ⟨g, 0, none⟩) hlt).trans h
    clear h
    clear hb1 hb2 hb3
    rcases hv with rfl | ⟨N2, rfl⟩
    · go_wp2_with fail
      all_goals
        go_ret
        first
        | exact ⟨_, rfl, trivial, below_drewN hb3H.out _⟩
    · go_wp2_with fail
      all_goals
        go_ret
        exact ⟨_, rfl, trivial, hb3H.out⟩
set_option maxRecDepth 100000 in
set_option maxHeartbeats 4000000 in
theorem int_range (s : ByteArray) (ds : List Int) (d : Value) (w : World) (h : DS w ds d) (h2 : ds.length ≠ 2) (hs0 : 0 < s.size) (hs : s.size ≤ 1000) (hT : Tabs w) (hE : ErrsAt w) (hpr : Lib.parseIntB 64 (L s) = .range) :
    Calls Tryz.prog 17 #[.iface 9 (.string s), d] w (SomeInt64 w) := by
  have hf := Lib.hid (fun w1 (hb : Below w.heap.size w w1) => parseFloat_at (hT.bel hb) (hE.bel hb) hs0 hs)
  have hsl : s.size ≤ 281474976710656 := by omega
  obtain ⟨ev, hv, hev⟩ := hE.2
  have hp := Lib.hid (Tryz.strconv_ParseInt_10_at64_range s hsl hpr ev w hv hev)
  clear hpr hv hev
  clear hT hE
  cases h with
  | two => exact absurd rfl h2
  | none =>
    clear h2
    go_enter Tryz.func17, Tryz.ntmps17
    go_wp2_with fail
    refine hp.out.mono ?_
    rintro e w1 ⟨N, rfl, _, _, hb1⟩
    clear hp
    go_wp2_with fail
    refine (hf.out w1 hb1).mono ?_
    rintro e w2 ⟨hb2, f, v, hv, rfl⟩
    clear hf
    have hb3 := hb1.trans (hb2.mono hb1.size)
    have hb3H := Lib.hid hb3
    clear hb1 hb2 hb3
    rcases hv with rfl | ⟨N2, rfl⟩
    · go_wp2_with fail
      all_goals
        go_ret
        first
        | exact ⟨_, rfl, trivial, below_drewN hb3H.out _⟩
    · go_wp2_with fail
      all_goals
        go_ret
        exact ⟨_, rfl, trivial, hb3H.out⟩
  | one g c a h =>
    clear h2
    have hlt := Lib.lt_of_cell h
    go_enter Tryz.func17, Tryz.ntmps17
    go_wp2_with fail
    refine hp.out.mono ?_
    rintro e w1 ⟨N, rfl, _, _, hb1⟩
    clear hp
    go_wp2_with fail
    refine (hf.out w1 hb1).mono ?_
    rintro e w2 ⟨hb2, f, v, hv, rfl⟩
    clear hf
    have hb3 := hb1.trans (hb2.mono hb1.size)
    have hb3H := Lib.hid hb3
    have h3 := (hb3.cell (p := ⟨g, 0, none⟩) hlt).trans h
    clear h
    clear hb1 hb2 hb3
    rcases hv with rfl | ⟨N2, rfl⟩
    · go_wp2_with fail
      all_goals
        go_ret
        first
        | exact ⟨_, rfl, trivial, below_drewN hb3H.out _⟩
    · go_wp2_with fail
      all_goals
        go_ret
        exact ⟨_, rfl, trivial, hb3H.out⟩
set_option maxRecDepth 100000 in
set_option maxHeartbeats 4000000 in
theorem intx_ok (s : ByteArray) (ds : List Int) (d : Value) (w : World) (h : DS w ds d) (h2 : ds.length ≠ 2) (hs : s.size ≤ 1000) (v : Int) (hpr : Lib.parseIntB 64 (L s) = .ok v) :
    Calls Tryz.prog 17 #[.iface 9 (.string s), d] w (SomeInt64 w) := by
  have hp := Lib.hid (fun w => Tryz.strconv_ParseInt_10_at64_ok s (by omega) v hpr w)
  clear hpr
  cases h with
  | two => exact absurd rfl h2
  | none =>
    clear h2
    go_enter Tryz.func17, Tryz.ntmps17
    go_wp2_with fail
    refine (hp.out w).mono ?_
    rintro e w1 ⟨rfl, hb⟩
    have hb1 := below_parse hb
    clear hb
    go_wp2_with fail
    go_ret
    exact ⟨_, rfl, trivial, hb1⟩
  | one =>
    clear h2
    go_enter Tryz.func17, Tryz.ntmps17
    go_wp2_with fail
    refine (hp.out w).mono ?_
    rintro e w1 ⟨rfl, hb⟩
    have hb1 := below_parse hb
    clear hb
    go_wp2_with fail
    go_ret
    exact ⟨_, rfl, trivial, hb1⟩
theorem int_text (s : ByteArray) (ds : List Int) (d : Value) (w : World) (h : DS w ds d) (h2 : ds.length ≠ 2) (hs0 : 0 < s.size) (hs : s.size ≤ 1000) (hT : Tabs w) (hE : ErrsAt w) :
    Calls Tryz.prog 17 #[.iface 9 (.string s), d] w (SomeInt64 w) := by
  cases hp : Lib.parseIntB 64 (L s)
  · exact intx_ok s ds d w h h2 hs _ hp
  · exact int_syntax s ds d w h h2 hs0 hs hT hE hp
  · exact int_range s ds d w h h2 hs0 hs hT hE hp
end
def AsSome (w : World) (e : Ending) (w' : World) : Prop := ∃ r : Int, e = .returned (.tuple #[.int .i64 r, .bool false]) ∧ Below w.heap.size w w'
set_option maxHeartbeats 1000000 in
theorem asInt_some (v : V) (hok : v.Ok) (hwt : v.wt ≤ 1000000) (ds : List Int) (hds : ds.length ≤ 2) {ok : Nat → Prop} (A B D : Option Addr) (ca cb cd : Nat) (w : World) (hb : Bds v ca cb) (hB : Strs ok w B v.keys) (hA : Vals ok w A v.l) (hD : Ints w D ds)
    (hcall : ∀ (x d : Value) (w1 : World) (lo hi : Nat), PT w1 lo hi v x → DS w1 ds d → Below w.heap.size w w1 → Calls Tryz.prog 17 #[x, d] w1 (SomeInt64 w1)) :
    Calls Tryz.prog 7 #[.agg #[.int .i64 v.kind, .int .i64 v.n, .float .f64 v.f, .string v.s, .slice A v.l.length ca, .slice B v.keys.length cb], .slice D ds.length cd] w (AsSome w) := by
  have H := Lib.hid hcall
  have hokH := Lib.hid hok
  clear hcall hok
  obtain ⟨i0, hi, hz0, hz1, hz2⟩ := info_parts info_i64
  go_enter Tryz.func7, Tryz.ntmps7
  go_wp2_with fail
  have hbel : Below (w.heap.size + 1) (w.alloc (valObj v A ca B cb)) (w.alloc (valObj v A ca B cb)) := Below.refl _ _
  have hA0 := hA.bel (boxed hbel).2
  have hB0 := hB.bel (boxed hbel).2
  refine (simple_any v ds.length A B ca cb _ hb hB0 hA0 hokH.out hwt (by omega)).mono ?_
  rintro e w2 ⟨rr, rfl, rfl, hb2⟩
  replace hbel : Below (w.heap.size + 1) (w.alloc (valObj v A ca B cb)) w2 := hbel.trans (hb2.mono (by simp))
  obtain ⟨⟨b0, b1, b2, b3, b4, b5⟩, hbw⟩ := boxed hbel
  clear hb2 hA0 hB0
  go_wp2_with fail
  go_loopw [6, 8, 16] (fun o _ i wr => ∃ j : Nat, j ≤ ds.length ∧ i = .int .i64 j ∧ (∃ Ao co, o = .slice Ao j co) ∧ Hid (wr.ownsRow (w.heap.size + 1) 2 1 o j (intVs (ds.take j))) ∧ Below (w.heap.size + 1) (w.alloc (valObj v A ca B cb)) wr) (fun _ _ i _ => ds.length - (intOf i).toNat)
  case atStart => exact ⟨0, Nat.zero_le _, rfl, ⟨_, _, rfl⟩, World.ownsRow_nil _ _ _ _, hbel⟩
  case round =>
    clear b0 b1 b2 b3 b4 b5 hbw hbel
    obtain ⟨j, hj, rfl, ⟨Ao, co, rfl⟩, ho, hbel⟩ := hrel
    obtain ⟨⟨b0, b1, b2, b3, b4, b5⟩, hbw⟩ := boxed hbel
    by_cases hlt : j < ds.length
    · obtain ⟨z, hz⟩ := get_lt hlt
      obtain ⟨ad, hDe, hc⟩ := (hD.bel hbw).at_ hz
      subst hDe
      have hz' := Lib.hid hz
      have hle := below_boxed_size hbel
      clear hz
      go_wp2_with (at_builtin; refine wpList_append_own_at _ rfl _ _ 39 rfl (w.heap.size + 1) 2 i0 (.int .i64 0) 1 8 Tryz.underlying39 hi hz0 hz1 hz2 rfl (by decide) (.slice Ao j co) j (intVs (ds.take j)) rfl (ho.out.alloc _) ⟨wr.heap.size, 0, none⟩ 1 1 [.int .i64 z] rfl rfl ?c1 ?c2 ?c3 ?c4 ?c5 ?_)
      case c1 => exact cell_one_new _ _ _
      case c2 => intro u hu; rw [List.mem_singleton.1 hu]; rfl
      case c3 => unfold maxLen; omega
      case c4 => omega
      case c5 => simp; omega
      intro v' w' hown' hgr hne hat
      obtain ⟨gx, cx, hvx, -⟩ := hown'.form (by omega)
      subst hvx
      rw [intVs_snoc hz'.out] at hown'
      have hbel3 := (hbel.trans ((below_alloc wr _).mono hle)).grown hgr (by rw [alloc_size]; omega) (own_base ho.out)
      have ho3 := Lib.hid hown'
      clear hgr hown' hne hat ho hbel hbw b0 b1 b2 b3 b4 b5 hz'
      go_wp2_with fail
      go_roundw
      case rel => exact ⟨j + 1, by omega, by go_num, ⟨_, _, rfl⟩, ho3, hbel3⟩
      case measure => simp [intOf]; omega
    · obtain rfl : j = ds.length := by omega
      have hDS : Hid (∀ W, Below wr.heap.size wr W → DS W ds (.slice Ao ds.length co)) := fun W hW => (ds_of hds (by
        have := ho.out
        rwa [List.take_length] at this)) |> fun h => ds_bel h hW
      have hle := below_boxed_size hbel
      clear ho hlt hj
      go_wp2_with fail
      refine (plain_any v hokH.out hwt A B ca cb wr hb (hB.bel hbw) (hA.bel hbw)).mono ?_
      rintro e w3 ⟨x, rfl, hp, hb3⟩
      have hbw3 := hbw.trans (hb3.mono hbw.size)
      have hc := Lib.hid (H.out x (.slice Ao ds.length co) w3 _ _ hp (hDS.out w3 hb3) hbw3)
      clear hp hb3 hDS b0 b1 b2 b3 b4 b5 hbel
      go_wp2_with fail
      refine hc.out.mono ?_
      rintro e w4 ⟨r, rfl, -, hb4⟩
      have hbw4 := hbw3.trans (hb4.mono hbw3.size)
      go_wp2_with fail
      go_ret2
      exact ⟨_, rfl, hbw4⟩
end Go.Proofs.YthagnngckegekaaGreatDoor
