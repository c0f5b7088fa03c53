/-
  What FnAsIntTold answers. Conditions: none.
-/
import Derived.Test.YthagnngckegekaaGreatDoorTxt
import Derived.Test.YthagnngckegekaaGreatDoorAs2
import Derived.Test.YthagnngckegekaaGreatDoorNum2
namespace Go.Proofs.YthagnngckegekaaGreatDoor
open Go.ChangeShapes Go.WideShapes Go.ChangeAt Go.RowKit Go.Joins
set_option linter.unusedVariables false
set_option linter.unusedSimpArgs false

theorem no_both {l : List UInt8} (h1 : Numeral l) (h2 : Numberless l) : False := by
  obtain ⟨hne, -, hd⟩ := h1
  obtain ⟨b, hb⟩ := List.exists_mem_of_ne_nil _ hne
  have hbl : b ∈ l := by
    unfold body at hb
    split at hb
    · exact List.mem_of_mem_drop hb
    · exact hb
  exact (h2 b hbl).1 (hd b hb)
theorem not_less {s : ByteArray} (h : ¬ Numberless (L s)) : 0 < s.size := by
  apply Decidable.byContradiction
  intro h0
  apply h
  intro b hb
  have : (L s).length = s.size := L_len s
  have e : L s = [] := List.length_eq_zero_iff.1 (by omega)
  rw [e] at hb
  cases hb
set_option maxRecDepth 4000 in
set_option maxHeartbeats 16000000 in
theorem fnAs_0 (v : V) {ok : Nat → Prop} (A B D : Option Addr) (ca cb cd : Nat) (w : World) (hb : Bds v ca cb) (hB : Strs ok w B v.keys) (hA : Vals ok w A v.l) (hD : Ints w D []) (hT : Tabs w) (hE : ErrsAt w) :
    Calls Tryz.prog 3 #[.agg #[.int .i64 v.kind, .int .i64 v.n, .float .f64 v.f, .string v.s, .slice A v.l.length ca, .slice B v.keys.length cb], .slice D 0 cd] w (SomeBool (fun r => r = true) w) := by
  have hTH := Lib.hid hT
  have hEH := Lib.hid hE
  have hDH := Lib.hid hD
  clear hT hE hD
  go_enter Tryz.func3, Tryz.ntmps3
  go_wp2_with fail
  have hbel : Below (w.heap.size + 1) (w.alloc (valObj v A ca B cb)) (w.alloc (valObj v A ca B cb)) := Below.refl _ _
  have hB0 := hB.bel (boxed hbel).2
  refine (zzFits1_any v A B ca cb _ hb hB0).mono ?_
  rintro e w2 ⟨r, rfl, -, hb2⟩
  replace hbel : Below (w.heap.size + 1) (w.alloc (valObj v A ca B cb)) w2 := hbel.trans (hb2.mono (by simp))
  obtain ⟨⟨b0, b1, b2, b3, b4, b5⟩, hbw⟩ := boxed hbel
  clear hb2 hB0
  cases r with
  | false =>
    go_wp2_with fail
    go_ret
    exact ⟨true, rfl, rfl, hbw⟩
  | true =>
  go_wp2_with fail
  refine (given_any v A B ca cb _ hb (hB.bel hbw) (hA.bel hbw)).mono ?_
  rintro e w3 ⟨r, rfl, hgv, hb3⟩
  replace hbel := hbel.trans (hb3.mono (below_boxed_size hbel))
  clear b0 b1 b2 b3 b4 b5 hbw hb3
  obtain ⟨⟨b0, b1, b2, b3, b4, b5⟩, hbw⟩ := boxed hbel
  cases r with
  | false =>
    clear hgv
    go_wp2_with fail
    go_ret
    exact ⟨true, rfl, rfl, hbw⟩
  | true =>
  obtain ⟨hwt, hok⟩ := hgv rfl
  have hokH := Lib.hid hok
  clear hgv
  cases hok with
  | null _ h hl hkk =>
    have hk := Lib.hid h
    clear h hl hkk
    have e1 : (v.kind == 1) = true := beq_iff_eq.2 hk.out
    have e3 : (v.kind == 3) = false := by rw [beq_eq_false_iff_ne]; have := hk.out; omega
    have e4 : (v.kind == 4) = false := by rw [beq_eq_false_iff_ne]; have := hk.out; omega
    have e5 : (v.kind == 5) = false := by rw [beq_eq_false_iff_ne]; have := hk.out; omega
    go_wp2_with fail
    refine (asInt_any v hokH.out (by omega) ([] : List Int) (by simp) (0) A B D ca cb cd _ hb (hB.bel hbw) (hA.bel hbw) (hDH.out.bel hbw) (fun x d w1 lo hi hp hds hb1 => by
      cases hp <;> first | (exfalso; have := hk.out; omega) | exact int_nil _ d w1 hds)).mono ?_
    rintro e w4 ⟨rfl, hb4⟩
    have hle := below_boxed_size hbel
    replace hbel := hbel.trans (hb4.mono hle)
    clear b0 b1 b2 b3 b4 b5 hbw hb4
    obtain ⟨⟨b0, b1, b2, b3, b4, b5⟩, hbw⟩ := boxed hbel
    go_wp2_with fail
    refine (becomes_any _).mono ?_
    rintro e w5 ⟨r, rfl, rfl, hb5⟩
    have hbw5 := hbw.trans (hb5.mono hbw.size)
    go_wp2_with fail
    go_ret
    exact ⟨true, rfl, rfl, hbw5⟩
  | bool _ h hn hl hkk =>
    have hk := Lib.hid h
    clear h hn hl hkk
    have e1 : (v.kind == 1) = false := by rw [beq_eq_false_iff_ne]; have := hk.out; omega
    have e3 : (v.kind == 3) = false := by rw [beq_eq_false_iff_ne]; have := hk.out; omega
    have e4 : (v.kind == 4) = false := by rw [beq_eq_false_iff_ne]; have := hk.out; omega
    have e5 : (v.kind == 5) = false := by rw [beq_eq_false_iff_ne]; have := hk.out; omega
    go_wp2_with fail
    refine (asInt_any v hokH.out (by omega) ([] : List Int) (by simp) (0) A B D ca cb cd _ hb (hB.bel hbw) (hA.bel hbw) (hDH.out.bel hbw) (fun x d w1 lo hi hp hds hb1 => by
      cases hp <;> first | (exfalso; have := hk.out; omega) | exact int_none _ _ d w1 hds (.bool _))).mono ?_
    rintro e w4 ⟨rfl, hb4⟩
    have hle := below_boxed_size hbel
    replace hbel := hbel.trans (hb4.mono hle)
    clear b0 b1 b2 b3 b4 b5 hbw hb4
    obtain ⟨⟨b0, b1, b2, b3, b4, b5⟩, hbw⟩ := boxed hbel
    go_wp2_with fail
    refine (becomes_any _).mono ?_
    rintro e w5 ⟨r, rfl, rfl, hb5⟩
    have hbw5 := hbw.trans (hb5.mono hbw.size)
    go_wp2_with fail
    go_ret
    exact ⟨true, rfl, rfl, hbw5⟩
  | int _ h hl hkk =>
    have hk := Lib.hid h
    clear h hl hkk
    have e1 : (v.kind == 1) = false := by rw [beq_eq_false_iff_ne]; have := hk.out; omega
    have e3 : (v.kind == 3) = true := beq_iff_eq.2 hk.out
    have e4 : (v.kind == 4) = false := by rw [beq_eq_false_iff_ne]; have := hk.out; omega
    have e5 : (v.kind == 5) = false := by rw [beq_eq_false_iff_ne]; have := hk.out; omega
    go_wp2_with fail
    refine (asInt_any v hokH.out (by omega) ([] : List Int) (by simp) (v.n) A B D ca cb cd _ hb (hB.bel hbw) (hA.bel hbw) (hDH.out.bel hbw) (fun x d w1 lo hi hp hds hb1 => by
      cases hp <;> first | (exfalso; have := hk.out; omega) | exact int_int v.n _ d w1 hds)).mono ?_
    rintro e w4 ⟨rfl, hb4⟩
    have hle := below_boxed_size hbel
    replace hbel := hbel.trans (hb4.mono hle)
    clear b0 b1 b2 b3 b4 b5 hbw hb4
    obtain ⟨⟨b0, b1, b2, b3, b4, b5⟩, hbw⟩ := boxed hbel
    go_wp2_with fail
    refine (becomes_any _).mono ?_
    rintro e w5 ⟨r, rfl, rfl, hb5⟩
    have hbw5 := hbw.trans (hb5.mono hbw.size)
    go_wp2_with fail
    go_ret
    exact ⟨true, rfl, rfl, hbw5⟩
  | float _ h hfin hl hkk =>
    have hk := Lib.hid h
    clear h hl hkk
    have e1 : (v.kind == 1) = false := by rw [beq_eq_false_iff_ne]; have := hk.out; omega
    have e3 : (v.kind == 3) = false := by rw [beq_eq_false_iff_ne]; have := hk.out; omega
    have e4 : (v.kind == 4) = true := beq_iff_eq.2 hk.out
    have e5 : (v.kind == 5) = false := by rw [beq_eq_false_iff_ne]; have := hk.out; omega
    have hfH := Lib.hid hfin
    clear hfin
    go_wp2_with fail
    refine (sized_any v.f w3).mono ?_
    rintro e w' ⟨rfl, rfl⟩
    cases hbg : bigF v.f with
    | true =>
      have hbg2 : (FloatKind.f64.format.order (sizedF v.f) 4845873199050653696 == some Ordering.gt || FloatKind.f64.format.order (sizedF v.f) 4845873199050653696 == some Ordering.eq) = true := hbg
      clear hbg
      go_wp2_with fail
      go_ret
      exact ⟨true, rfl, rfl, hbw⟩
    | false =>
      obtain ⟨z, hz⟩ := small_int hfH.out hbg
      have hcv := run_cvt' hz
      have hzH := Lib.hid hz
      have hbg2 : (FloatKind.f64.format.order (sizedF v.f) 4845873199050653696 == some Ordering.gt || FloatKind.f64.format.order (sizedF v.f) 4845873199050653696 == some Ordering.eq) = false := hbg
      clear hbg hz
      cases hq : neqF z v.f with
      | true =>
        have hq2 : (FloatKind.f64.format.order (floatOfInt .f64 z) v.f != some Ordering.eq) = true := hq
        have hqH := Lib.hid hq
        have hq := hqH.out
        go_wp2_with fail
        refine (asInt_any v hokH.out (by omega) ([] : List Int) (by simp) (z) A B D ca cb cd _ hb (hB.bel hbw) (hA.bel hbw) (hDH.out.bel hbw) (fun x d w1 lo hi hp hds hb1 => by
          cases hp <;> first | (exfalso; have := hk.out; omega) | exact (by have h := int_float v.f z ([] : List Int) d w1 hds hzH.out; rw [hqH.out] at h; exact h))).mono ?_
        rintro e w4 ⟨rfl, hb4⟩
        have hle := below_boxed_size hbel
        replace hbel := hbel.trans (hb4.mono hle)
        clear b0 b1 b2 b3 b4 b5 hbw hb4
        obtain ⟨⟨b0, b1, b2, b3, b4, b5⟩, hbw⟩ := boxed hbel
        clear hq
        go_wp2_with fail
        refine (becomes_any _).mono ?_
        rintro e w5 ⟨r, rfl, rfl, hb5⟩
        have hbw5 := hbw.trans (hb5.mono hbw.size)
        go_wp2_with fail
        go_ret
        exact ⟨true, rfl, rfl, hbw5⟩
      | false =>
        have hq2 : (FloatKind.f64.format.order (floatOfInt .f64 z) v.f != some Ordering.eq) = false := hq
        have hqH := Lib.hid hq
        have hq := hqH.out
        go_wp2_with fail
        refine (asInt_any v hokH.out (by omega) ([] : List Int) (by simp) (z) A B D ca cb cd _ hb (hB.bel hbw) (hA.bel hbw) (hDH.out.bel hbw) (fun x d w1 lo hi hp hds hb1 => by
          cases hp <;> first | (exfalso; have := hk.out; omega) | exact (by have h := int_float v.f z ([] : List Int) d w1 hds hzH.out; rw [hqH.out] at h; exact h))).mono ?_
        rintro e w4 ⟨rfl, hb4⟩
        have hle := below_boxed_size hbel
        replace hbel := hbel.trans (hb4.mono hle)
        clear b0 b1 b2 b3 b4 b5 hbw hb4
        obtain ⟨⟨b0, b1, b2, b3, b4, b5⟩, hbw⟩ := boxed hbel
        clear hq
        go_wp2_with fail
        refine (becomes_any _).mono ?_
        rintro e w5 ⟨r, rfl, rfl, hb5⟩
        have hbw5 := hbw.trans (hb5.mono hbw.size)
        go_wp2_with fail
        go_ret
        exact ⟨true, rfl, rfl, hbw5⟩
  | str _ h hl hkk =>
    have hk := Lib.hid h
    clear h hl hkk
    have e1 : (v.kind == 1) = false := by rw [beq_eq_false_iff_ne]; have := hk.out; omega
    have e3 : (v.kind == 3) = false := by rw [beq_eq_false_iff_ne]; have := hk.out; omega
    have e4 : (v.kind == 4) = false := by rw [beq_eq_false_iff_ne]; have := hk.out; omega
    have e5 : (v.kind == 5) = true := beq_iff_eq.2 hk.out
    have hsz : v.s.size ≤ 1000 := by have := V.wt_eq v; omega
    by_cases hN : Numeral (L v.s)
    · have hNH := Lib.hid hN
      clear hN
      go_wp2_with fail
      refine (asInt_any v hokH.out (by omega) ([] : List Int) (by simp) (numV (L v.s)) A B D ca cb cd _ hb (hB.bel hbw) (hA.bel hbw) (hDH.out.bel hbw) (fun x d w1 lo hi hp hds hb1 => by
        cases hp <;> first | (exfalso; have := hk.out; omega) | exact int_numeral v.s _ d w1 hds (by simp) (by omega) hNH.out)).mono ?_
      rintro e w4 ⟨rfl, hb4⟩
      have hle := below_boxed_size hbel
      replace hbel := hbel.trans (hb4.mono hle)
      clear b0 b1 b2 b3 b4 b5 hbw hb4
      obtain ⟨⟨b0, b1, b2, b3, b4, b5⟩, hbw⟩ := boxed hbel
      go_wp2_with fail
      refine (numeral_any v.s w4 (by omega)).mono ?_
      rintro e w5 ⟨r, rfl, hn, hb5⟩
      replace hbel := hbel.trans (hb5.mono (below_boxed_size hbel))
      clear b0 b1 b2 b3 b4 b5 hbw hb5 
      obtain ⟨⟨b0, b1, b2, b3, b4, b5⟩, hbw⟩ := boxed hbel
      cases r with
      | true =>
        have hnum := Lib.hid (hn rfl)
        clear hn
        go_wp2_with fail
        refine (numeralOf_any v.s w5 (by omega) hnum.out).mono ?_
        rintro e w6 ⟨rfl, rfl⟩
        go_wp2_with fail
        refine (becomes_any _).mono ?_
        rintro e w5 ⟨r, rfl, rfl, hb5⟩
        have hbw5 := hbw.trans (hb5.mono hbw.size)
        go_wp2_with fail
        go_ret
        exact ⟨true, rfl, rfl, hbw5⟩
      | false =>
        clear hn
        go_wp2_with fail
        refine (numberless_any v.s w5 (by omega)).mono ?_
        rintro e w6 ⟨r, rfl, hl, hb6⟩
        replace hbel := hbel.trans (hb6.mono (below_boxed_size hbel))
        clear b0 b1 b2 b3 b4 b5 hbw hb6 
        obtain ⟨⟨b0, b1, b2, b3, b4, b5⟩, hbw⟩ := boxed hbel
        cases r with
        | true =>
          exact (no_both hNH.out (hl rfl)).elim
        | false =>
          clear hl
          go_wp2_with fail
          go_ret
          exact ⟨true, rfl, rfl, hbw⟩
    by_cases hL : Numberless (L v.s)
    · have hLH := Lib.hid hL
      have hNH := Lib.hid hN
      clear hL hN
      go_wp2_with fail
      refine (asInt_any v hokH.out (by omega) ([] : List Int) (by simp) (0) A B D ca cb cd _ hb (hB.bel hbw) (hA.bel hbw) (hDH.out.bel hbw) (fun x d w1 lo hi hp hds hb1 => by
        cases hp <;> first | (exfalso; have := hk.out; omega) | exact int_numberless v.s _ d w1 hds (by simp) (by omega) hLH.out ((hEH.out.bel (hbw.trans (hb1.mono hbw.size))).1))).mono ?_
      rintro e w4 ⟨rfl, hb4⟩
      have hle := below_boxed_size hbel
      replace hbel := hbel.trans (hb4.mono hle)
      clear b0 b1 b2 b3 b4 b5 hbw hb4
      obtain ⟨⟨b0, b1, b2, b3, b4, b5⟩, hbw⟩ := boxed hbel
      go_wp2_with fail
      refine (numeral_any v.s w4 (by omega)).mono ?_
      rintro e w5 ⟨r, rfl, hn, hb5⟩
      replace hbel := hbel.trans (hb5.mono (below_boxed_size hbel))
      clear b0 b1 b2 b3 b4 b5 hbw hb5 
      obtain ⟨⟨b0, b1, b2, b3, b4, b5⟩, hbw⟩ := boxed hbel
      cases r with
      | true =>
        exact (hNH.out (hn rfl)).elim
      | false =>
        clear hn
        go_wp2_with fail
        refine (numberless_any v.s w5 (by omega)).mono ?_
        rintro e w6 ⟨r, rfl, hl, hb6⟩
        replace hbel := hbel.trans (hb6.mono (below_boxed_size hbel))
        clear b0 b1 b2 b3 b4 b5 hbw hb6 
        obtain ⟨⟨b0, b1, b2, b3, b4, b5⟩, hbw⟩ := boxed hbel
        cases r with
        | true =>
          clear hl
          go_wp2_with fail
          refine (becomes_any _).mono ?_
          rintro e w5 ⟨r, rfl, rfl, hb5⟩
          have hbw5 := hbw.trans (hb5.mono hbw.size)
          go_wp2_with fail
          go_ret
          exact ⟨true, rfl, rfl, hbw5⟩
        | false =>
          clear hl
          go_wp2_with fail
          go_ret
          exact ⟨true, rfl, rfl, hbw⟩
    · have hLH := Lib.hid hL
      have hNH := Lib.hid hN
      have hs0 := not_less hL
      clear hL hN
      go_wp2_with fail
      refine (asInt_some v hokH.out (by omega) ([] : List Int) (by simp) A B D ca cb cd _ hb (hB.bel hbw) (hA.bel hbw) (hDH.out.bel hbw) (fun x d w1 lo hi hp hds hb1 => by
        cases hp <;> first | (exfalso; have := hk.out; omega) | exact int_text v.s _ d w1 hds (by simp) hs0 hsz (hTH.out.bel (hbw.trans (hb1.mono hbw.size))) (hEH.out.bel (hbw.trans (hb1.mono hbw.size))))).mono ?_
      rintro e w4 ⟨rr, rfl, hb4⟩
      have hle := below_boxed_size hbel
      replace hbel := hbel.trans (hb4.mono hle)
      clear b0 b1 b2 b3 b4 b5 hbw hb4
      obtain ⟨⟨b0, b1, b2, b3, b4, b5⟩, hbw⟩ := boxed hbel
      go_wp2_with fail
      refine (numeral_any v.s w4 (by omega)).mono ?_
      rintro e w5 ⟨r, rfl, hn, hb5⟩
      replace hbel := hbel.trans (hb5.mono (below_boxed_size hbel))
      clear b0 b1 b2 b3 b4 b5 hbw hb5 
      obtain ⟨⟨b0, b1, b2, b3, b4, b5⟩, hbw⟩ := boxed hbel
      cases r with
      | true =>
        exact (hNH.out (hn rfl)).elim
      | false =>
        clear hn
        go_wp2_with fail
        refine (numberless_any v.s w5 (by omega)).mono ?_
        rintro e w6 ⟨r, rfl, hl, hb6⟩
        replace hbel := hbel.trans (hb6.mono (below_boxed_size hbel))
        clear b0 b1 b2 b3 b4 b5 hbw hb6 
        obtain ⟨⟨b0, b1, b2, b3, b4, b5⟩, hbw⟩ := boxed hbel
        cases r with
        | true =>
          exact (hLH.out (hl rfl)).elim
        | false =>
          clear hl
          go_wp2_with fail
          go_ret
          exact ⟨true, rfl, rfl, hbw⟩
  | arr _ h hkk hl =>
    have hk := Lib.hid h
    clear h hkk hl
    have e1 : (v.kind == 1) = false := by rw [beq_eq_false_iff_ne]; have := hk.out; omega
    have e3 : (v.kind == 3) = false := by rw [beq_eq_false_iff_ne]; have := hk.out; omega
    have e4 : (v.kind == 4) = false := by rw [beq_eq_false_iff_ne]; have := hk.out; omega
    have e5 : (v.kind == 5) = false := by rw [beq_eq_false_iff_ne]; have := hk.out; omega
    go_wp2_with fail
    refine (asInt_any v hokH.out (by omega) ([] : List Int) (by simp) (0) A B D ca cb cd _ hb (hB.bel hbw) (hA.bel hbw) (hDH.out.bel hbw) (fun x d w1 lo hi hp hds hb1 => by
      cases hp <;> first | (exfalso; have := hk.out; omega) | exact int_none _ _ d w1 hds (.arr _ _ _))).mono ?_
    rintro e w4 ⟨rfl, hb4⟩
    have hle := below_boxed_size hbel
    replace hbel := hbel.trans (hb4.mono hle)
    clear b0 b1 b2 b3 b4 b5 hbw hb4
    obtain ⟨⟨b0, b1, b2, b3, b4, b5⟩, hbw⟩ := boxed hbel
    go_wp2_with fail
    refine (becomes_any _).mono ?_
    rintro e w5 ⟨r, rfl, rfl, hb5⟩
    have hbw5 := hbw.trans (hb5.mono hbw.size)
    go_wp2_with fail
    go_ret
    exact ⟨true, rfl, rfl, hbw5⟩
  | obj _ h hkk hd hl =>
    have hk := Lib.hid h
    clear h hkk hd hl
    have e1 : (v.kind == 1) = false := by rw [beq_eq_false_iff_ne]; have := hk.out; omega
    have e3 : (v.kind == 3) = false := by rw [beq_eq_false_iff_ne]; have := hk.out; omega
    have e4 : (v.kind == 4) = false := by rw [beq_eq_false_iff_ne]; have := hk.out; omega
    have e5 : (v.kind == 5) = false := by rw [beq_eq_false_iff_ne]; have := hk.out; omega
    go_wp2_with fail
    refine (asInt_any v hokH.out (by omega) ([] : List Int) (by simp) (0) A B D ca cb cd _ hb (hB.bel hbw) (hA.bel hbw) (hDH.out.bel hbw) (fun x d w1 lo hi hp hds hb1 => by
      cases hp <;> first | (exfalso; have := hk.out; omega) | exact int_none _ _ d w1 hds (.map _))).mono ?_
    rintro e w4 ⟨rfl, hb4⟩
    have hle := below_boxed_size hbel
    replace hbel := hbel.trans (hb4.mono hle)
    clear b0 b1 b2 b3 b4 b5 hbw hb4
    obtain ⟨⟨b0, b1, b2, b3, b4, b5⟩, hbw⟩ := boxed hbel
    go_wp2_with fail
    refine (becomes_any _).mono ?_
    rintro e w5 ⟨r, rfl, rfl, hb5⟩
    have hbw5 := hbw.trans (hb5.mono hbw.size)
    go_wp2_with fail
    go_ret
    exact ⟨true, rfl, rfl, hbw5⟩
set_option maxRecDepth 4000 in
set_option maxHeartbeats 16000000 in
theorem fnAs_1 (v : V) {ok : Nat → Prop} (a : Int) (A B D : Option Addr) (ca cb cd : Nat) (w : World) (hb : Bds v ca cb) (hB : Strs ok w B v.keys) (hA : Vals ok w A v.l) (hD : Ints w D [a]) (hT : Tabs w) (hE : ErrsAt w) :
    Calls Tryz.prog 3 #[.agg #[.int .i64 v.kind, .int .i64 v.n, .float .f64 v.f, .string v.s, .slice A v.l.length ca, .slice B v.keys.length cb], .slice D 1 cd] w (SomeBool (fun r => r = true) w) := by
  have hTH := Lib.hid hT
  have hEH := Lib.hid hE
  obtain ⟨ad, hDe, hc0'⟩ := hD.at_ (i := 0) (z := a) rfl
  subst hDe
  have hc0 := Lib.hid (show w.cell? ad = some (.int .i64 a) from hc0')
  clear hc0'
  have hDH := Lib.hid hD
  clear hT hE hD
  go_enter Tryz.func3, Tryz.ntmps3
  go_wp2_with fail
  have hbel : Below (w.heap.size + 1) (w.alloc (valObj v A ca B cb)) (w.alloc (valObj v A ca B cb)) := Below.refl _ _
  have hB0 := hB.bel (boxed hbel).2
  refine (zzFits1_any v A B ca cb _ hb hB0).mono ?_
  rintro e w2 ⟨r, rfl, -, hb2⟩
  replace hbel : Below (w.heap.size + 1) (w.alloc (valObj v A ca B cb)) w2 := hbel.trans (hb2.mono (by simp))
  obtain ⟨⟨b0, b1, b2, b3, b4, b5⟩, hbw⟩ := boxed hbel
  clear hb2 hB0
  cases r with
  | false =>
    go_wp2_with fail
    go_ret
    exact ⟨true, rfl, rfl, hbw⟩
  | true =>
  go_wp2_with fail
  refine (given_any v A B ca cb _ hb (hB.bel hbw) (hA.bel hbw)).mono ?_
  rintro e w3 ⟨r, rfl, hgv, hb3⟩
  replace hbel := hbel.trans (hb3.mono (below_boxed_size hbel))
  clear b0 b1 b2 b3 b4 b5 hbw hb3
  obtain ⟨⟨b0, b1, b2, b3, b4, b5⟩, hbw⟩ := boxed hbel
  cases r with
  | false =>
    clear hgv
    go_wp2_with fail
    go_ret
    exact ⟨true, rfl, rfl, hbw⟩
  | true =>
  obtain ⟨hwt, hok⟩ := hgv rfl
  have hokH := Lib.hid hok
  clear hgv
  cases hok with
  | null _ h hl hkk =>
    have hk := Lib.hid h
    clear h hl hkk
    have e1 : (v.kind == 1) = true := beq_iff_eq.2 hk.out
    have e3 : (v.kind == 3) = false := by rw [beq_eq_false_iff_ne]; have := hk.out; omega
    have e4 : (v.kind == 4) = false := by rw [beq_eq_false_iff_ne]; have := hk.out; omega
    have e5 : (v.kind == 5) = false := by rw [beq_eq_false_iff_ne]; have := hk.out; omega
    go_wp2_with fail
    refine (asInt_any v hokH.out (by omega) ([a] : List Int) (by simp) (0) A B (some ad) ca cb cd _ hb (hB.bel hbw) (hA.bel hbw) (hDH.out.bel hbw) (fun x d w1 lo hi hp hds hb1 => by
      cases hp <;> first | (exfalso; have := hk.out; omega) | exact int_nil _ d w1 hds)).mono ?_
    rintro e w4 ⟨rfl, hb4⟩
    have hle := below_boxed_size hbel
    replace hbel := hbel.trans (hb4.mono hle)
    clear b0 b1 b2 b3 b4 b5 hbw hb4
    obtain ⟨⟨b0, b1, b2, b3, b4, b5⟩, hbw⟩ := boxed hbel
    have k0 : w4.cell? ad = some (.int .i64 a) := cell_later hbw hc0.out
    go_wp2_with fail
    refine (becomes_any _).mono ?_
    rintro e w5 ⟨r, rfl, rfl, hb5⟩
    have hbw5 := hbw.trans (hb5.mono hbw.size)
    go_wp2_with fail
    go_ret
    exact ⟨true, rfl, rfl, hbw5⟩
  | bool _ h hn hl hkk =>
    have hk := Lib.hid h
    clear h hn hl hkk
    have e1 : (v.kind == 1) = false := by rw [beq_eq_false_iff_ne]; have := hk.out; omega
    have e3 : (v.kind == 3) = false := by rw [beq_eq_false_iff_ne]; have := hk.out; omega
    have e4 : (v.kind == 4) = false := by rw [beq_eq_false_iff_ne]; have := hk.out; omega
    have e5 : (v.kind == 5) = false := by rw [beq_eq_false_iff_ne]; have := hk.out; omega
    go_wp2_with fail
    refine (asInt_any v hokH.out (by omega) ([a] : List Int) (by simp) (a) A B (some ad) ca cb cd _ hb (hB.bel hbw) (hA.bel hbw) (hDH.out.bel hbw) (fun x d w1 lo hi hp hds hb1 => by
      cases hp <;> first | (exfalso; have := hk.out; omega) | exact int_none _ _ d w1 hds (.bool _))).mono ?_
    rintro e w4 ⟨rfl, hb4⟩
    have hle := below_boxed_size hbel
    replace hbel := hbel.trans (hb4.mono hle)
    clear b0 b1 b2 b3 b4 b5 hbw hb4
    obtain ⟨⟨b0, b1, b2, b3, b4, b5⟩, hbw⟩ := boxed hbel
    have k0 : w4.cell? ad = some (.int .i64 a) := cell_later hbw hc0.out
    go_wp2_with fail
    refine (becomes_any _).mono ?_
    rintro e w5 ⟨r, rfl, rfl, hb5⟩
    have hbw5 := hbw.trans (hb5.mono hbw.size)
    go_wp2_with fail
    go_ret
    exact ⟨true, rfl, rfl, hbw5⟩
  | int _ h hl hkk =>
    have hk := Lib.hid h
    clear h hl hkk
    have e1 : (v.kind == 1) = false := by rw [beq_eq_false_iff_ne]; have := hk.out; omega
    have e3 : (v.kind == 3) = true := beq_iff_eq.2 hk.out
    have e4 : (v.kind == 4) = false := by rw [beq_eq_false_iff_ne]; have := hk.out; omega
    have e5 : (v.kind == 5) = false := by rw [beq_eq_false_iff_ne]; have := hk.out; omega
    go_wp2_with fail
    refine (asInt_any v hokH.out (by omega) ([a] : List Int) (by simp) (v.n) A B (some ad) ca cb cd _ hb (hB.bel hbw) (hA.bel hbw) (hDH.out.bel hbw) (fun x d w1 lo hi hp hds hb1 => by
      cases hp <;> first | (exfalso; have := hk.out; omega) | exact int_int v.n _ d w1 hds)).mono ?_
    rintro e w4 ⟨rfl, hb4⟩
    have hle := below_boxed_size hbel
    replace hbel := hbel.trans (hb4.mono hle)
    clear b0 b1 b2 b3 b4 b5 hbw hb4
    obtain ⟨⟨b0, b1, b2, b3, b4, b5⟩, hbw⟩ := boxed hbel
    have k0 : w4.cell? ad = some (.int .i64 a) := cell_later hbw hc0.out
    go_wp2_with fail
    refine (becomes_any _).mono ?_
    rintro e w5 ⟨r, rfl, rfl, hb5⟩
    have hbw5 := hbw.trans (hb5.mono hbw.size)
    go_wp2_with fail
    go_ret
    exact ⟨true, rfl, rfl, hbw5⟩
  | float _ h hfin hl hkk =>
    have hk := Lib.hid h
    clear h hl hkk
    have e1 : (v.kind == 1) = false := by rw [beq_eq_false_iff_ne]; have := hk.out; omega
    have e3 : (v.kind == 3) = false := by rw [beq_eq_false_iff_ne]; have := hk.out; omega
    have e4 : (v.kind == 4) = true := beq_iff_eq.2 hk.out
    have e5 : (v.kind == 5) = false := by rw [beq_eq_false_iff_ne]; have := hk.out; omega
    have hfH := Lib.hid hfin
    clear hfin
    go_wp2_with fail
    refine (sized_any v.f w3).mono ?_
    rintro e w' ⟨rfl, rfl⟩
    cases hbg : bigF v.f with
    | true =>
      have hbg2 : (FloatKind.f64.format.order (sizedF v.f) 4845873199050653696 == some Ordering.gt || FloatKind.f64.format.order (sizedF v.f) 4845873199050653696 == some Ordering.eq) = true := hbg
      clear hbg
      go_wp2_with fail
      go_ret
      exact ⟨true, rfl, rfl, hbw⟩
    | false =>
      obtain ⟨z, hz⟩ := small_int hfH.out hbg
      have hcv := run_cvt' hz
      have hzH := Lib.hid hz
      have hbg2 : (FloatKind.f64.format.order (sizedF v.f) 4845873199050653696 == some Ordering.gt || FloatKind.f64.format.order (sizedF v.f) 4845873199050653696 == some Ordering.eq) = false := hbg
      clear hbg hz
      cases hq : neqF z v.f with
      | true =>
        have hq2 : (FloatKind.f64.format.order (floatOfInt .f64 z) v.f != some Ordering.eq) = true := hq
        have hqH := Lib.hid hq
        have hq := hqH.out
        go_wp2_with fail
        refine (asInt_any v hokH.out (by omega) ([a] : List Int) (by simp) (z) A B (some ad) ca cb cd _ hb (hB.bel hbw) (hA.bel hbw) (hDH.out.bel hbw) (fun x d w1 lo hi hp hds hb1 => by
          cases hp <;> first | (exfalso; have := hk.out; omega) | exact (by have h := int_float v.f z ([a] : List Int) d w1 hds hzH.out; rw [hqH.out] at h; exact h))).mono ?_
        rintro e w4 ⟨rfl, hb4⟩
        have hle := below_boxed_size hbel
        replace hbel := hbel.trans (hb4.mono hle)
        clear b0 b1 b2 b3 b4 b5 hbw hb4
        obtain ⟨⟨b0, b1, b2, b3, b4, b5⟩, hbw⟩ := boxed hbel
        have k0 : w4.cell? ad = some (.int .i64 a) := cell_later hbw hc0.out
        clear hq
        go_wp2_with fail
        refine (becomes_any _).mono ?_
        rintro e w5 ⟨r, rfl, rfl, hb5⟩
        have hbw5 := hbw.trans (hb5.mono hbw.size)
        go_wp2_with fail
        go_ret
        exact ⟨true, rfl, rfl, hbw5⟩
      | false =>
        have hq2 : (FloatKind.f64.format.order (floatOfInt .f64 z) v.f != some Ordering.eq) = false := hq
        have hqH := Lib.hid hq
        have hq := hqH.out
        go_wp2_with fail
        refine (asInt_any v hokH.out (by omega) ([a] : List Int) (by simp) (z) A B (some ad) ca cb cd _ hb (hB.bel hbw) (hA.bel hbw) (hDH.out.bel hbw) (fun x d w1 lo hi hp hds hb1 => by
          cases hp <;> first | (exfalso; have := hk.out; omega) | exact (by have h := int_float v.f z ([a] : List Int) d w1 hds hzH.out; rw [hqH.out] at h; exact h))).mono ?_
        rintro e w4 ⟨rfl, hb4⟩
        have hle := below_boxed_size hbel
        replace hbel := hbel.trans (hb4.mono hle)
        clear b0 b1 b2 b3 b4 b5 hbw hb4
        obtain ⟨⟨b0, b1, b2, b3, b4, b5⟩, hbw⟩ := boxed hbel
        have k0 : w4.cell? ad = some (.int .i64 a) := cell_later hbw hc0.out
        clear hq
        go_wp2_with fail
        refine (becomes_any _).mono ?_
        rintro e w5 ⟨r, rfl, rfl, hb5⟩
        have hbw5 := hbw.trans (hb5.mono hbw.size)
        go_wp2_with fail
        go_ret
        exact ⟨true, rfl, rfl, hbw5⟩
  | str _ h hl hkk =>
    have hk := Lib.hid h
    clear h hl hkk
    have e1 : (v.kind == 1) = false := by rw [beq_eq_false_iff_ne]; have := hk.out; omega
    have e3 : (v.kind == 3) = false := by rw [beq_eq_false_iff_ne]; have := hk.out; omega
    have e4 : (v.kind == 4) = false := by rw [beq_eq_false_iff_ne]; have := hk.out; omega
    have e5 : (v.kind == 5) = true := beq_iff_eq.2 hk.out
    have hsz : v.s.size ≤ 1000 := by have := V.wt_eq v; omega
    by_cases hN : Numeral (L v.s)
    · have hNH := Lib.hid hN
      clear hN
      go_wp2_with fail
      refine (asInt_any v hokH.out (by omega) ([a] : List Int) (by simp) (numV (L v.s)) A B (some ad) ca cb cd _ hb (hB.bel hbw) (hA.bel hbw) (hDH.out.bel hbw) (fun x d w1 lo hi hp hds hb1 => by
        cases hp <;> first | (exfalso; have := hk.out; omega) | exact int_numeral v.s _ d w1 hds (by simp) (by omega) hNH.out)).mono ?_
      rintro e w4 ⟨rfl, hb4⟩
      have hle := below_boxed_size hbel
      replace hbel := hbel.trans (hb4.mono hle)
      clear b0 b1 b2 b3 b4 b5 hbw hb4
      obtain ⟨⟨b0, b1, b2, b3, b4, b5⟩, hbw⟩ := boxed hbel
      have k0 : w4.cell? ad = some (.int .i64 a) := cell_later hbw hc0.out
      go_wp2_with fail
      refine (numeral_any v.s w4 (by omega)).mono ?_
      rintro e w5 ⟨r, rfl, hn, hb5⟩
      replace hbel := hbel.trans (hb5.mono (below_boxed_size hbel))
      clear b0 b1 b2 b3 b4 b5 hbw hb5 k0
      obtain ⟨⟨b0, b1, b2, b3, b4, b5⟩, hbw⟩ := boxed hbel
      have k0 : w5.cell? ad = some (.int .i64 a) := cell_later hbw hc0.out
      cases r with
      | true =>
        have hnum := Lib.hid (hn rfl)
        clear hn
        go_wp2_with fail
        refine (numeralOf_any v.s w5 (by omega) hnum.out).mono ?_
        rintro e w6 ⟨rfl, rfl⟩
        go_wp2_with fail
        refine (becomes_any _).mono ?_
        rintro e w5 ⟨r, rfl, rfl, hb5⟩
        have hbw5 := hbw.trans (hb5.mono hbw.size)
        go_wp2_with fail
        go_ret
        exact ⟨true, rfl, rfl, hbw5⟩
      | false =>
        clear hn
        go_wp2_with fail
        refine (numberless_any v.s w5 (by omega)).mono ?_
        rintro e w6 ⟨r, rfl, hl, hb6⟩
        replace hbel := hbel.trans (hb6.mono (below_boxed_size hbel))
        clear b0 b1 b2 b3 b4 b5 hbw hb6 k0
        obtain ⟨⟨b0, b1, b2, b3, b4, b5⟩, hbw⟩ := boxed hbel
        have k0 : w6.cell? ad = some (.int .i64 a) := cell_later hbw hc0.out
        cases r with
        | true =>
          exact (no_both hNH.out (hl rfl)).elim
        | false =>
          clear hl
          go_wp2_with fail
          go_ret
          exact ⟨true, rfl, rfl, hbw⟩
    by_cases hL : Numberless (L v.s)
    · have hLH := Lib.hid hL
      have hNH := Lib.hid hN
      clear hL hN
      go_wp2_with fail
      refine (asInt_any v hokH.out (by omega) ([a] : List Int) (by simp) (a) A B (some ad) ca cb cd _ hb (hB.bel hbw) (hA.bel hbw) (hDH.out.bel hbw) (fun x d w1 lo hi hp hds hb1 => by
        cases hp <;> first | (exfalso; have := hk.out; omega) | exact int_numberless v.s _ d w1 hds (by simp) (by omega) hLH.out ((hEH.out.bel (hbw.trans (hb1.mono hbw.size))).1))).mono ?_
      rintro e w4 ⟨rfl, hb4⟩
      have hle := below_boxed_size hbel
      replace hbel := hbel.trans (hb4.mono hle)
      clear b0 b1 b2 b3 b4 b5 hbw hb4
      obtain ⟨⟨b0, b1, b2, b3, b4, b5⟩, hbw⟩ := boxed hbel
      have k0 : w4.cell? ad = some (.int .i64 a) := cell_later hbw hc0.out
      go_wp2_with fail
      refine (numeral_any v.s w4 (by omega)).mono ?_
      rintro e w5 ⟨r, rfl, hn, hb5⟩
      replace hbel := hbel.trans (hb5.mono (below_boxed_size hbel))
      clear b0 b1 b2 b3 b4 b5 hbw hb5 k0
      obtain ⟨⟨b0, b1, b2, b3, b4, b5⟩, hbw⟩ := boxed hbel
      have k0 : w5.cell? ad = some (.int .i64 a) := cell_later hbw hc0.out
      cases r with
      | true =>
        exact (hNH.out (hn rfl)).elim
      | false =>
        clear hn
        go_wp2_with fail
        refine (numberless_any v.s w5 (by omega)).mono ?_
        rintro e w6 ⟨r, rfl, hl, hb6⟩
        replace hbel := hbel.trans (hb6.mono (below_boxed_size hbel))
        clear b0 b1 b2 b3 b4 b5 hbw hb6 k0
        obtain ⟨⟨b0, b1, b2, b3, b4, b5⟩, hbw⟩ := boxed hbel
        have k0 : w6.cell? ad = some (.int .i64 a) := cell_later hbw hc0.out
        cases r with
        | true =>
          clear hl
          go_wp2_with fail
          refine (becomes_any _).mono ?_
          rintro e w5 ⟨r, rfl, rfl, hb5⟩
          have hbw5 := hbw.trans (hb5.mono hbw.size)
          go_wp2_with fail
          go_ret
          exact ⟨true, rfl, rfl, hbw5⟩
        | false =>
          clear hl
          go_wp2_with fail
          go_ret
          exact ⟨true, rfl, rfl, hbw⟩
    · have hLH := Lib.hid hL
      have hNH := Lib.hid hN
      have hs0 := not_less hL
      clear hL hN
      go_wp2_with fail
      refine (asInt_some v hokH.out (by omega) ([a] : List Int) (by simp) A B (some ad) ca cb cd _ hb (hB.bel hbw) (hA.bel hbw) (hDH.out.bel hbw) (fun x d w1 lo hi hp hds hb1 => by
        cases hp <;> first | (exfalso; have := hk.out; omega) | exact int_text v.s _ d w1 hds (by simp) hs0 hsz (hTH.out.bel (hbw.trans (hb1.mono hbw.size))) (hEH.out.bel (hbw.trans (hb1.mono hbw.size))))).mono ?_
      rintro e w4 ⟨rr, rfl, hb4⟩
      have hle := below_boxed_size hbel
      replace hbel := hbel.trans (hb4.mono hle)
      clear b0 b1 b2 b3 b4 b5 hbw hb4
      obtain ⟨⟨b0, b1, b2, b3, b4, b5⟩, hbw⟩ := boxed hbel
      have k0 : w4.cell? ad = some (.int .i64 a) := cell_later hbw hc0.out
      go_wp2_with fail
      refine (numeral_any v.s w4 (by omega)).mono ?_
      rintro e w5 ⟨r, rfl, hn, hb5⟩
      replace hbel := hbel.trans (hb5.mono (below_boxed_size hbel))
      clear b0 b1 b2 b3 b4 b5 hbw hb5 k0
      obtain ⟨⟨b0, b1, b2, b3, b4, b5⟩, hbw⟩ := boxed hbel
      have k0 : w5.cell? ad = some (.int .i64 a) := cell_later hbw hc0.out
      cases r with
      | true =>
        exact (hNH.out (hn rfl)).elim
      | false =>
        clear hn
        go_wp2_with fail
        refine (numberless_any v.s w5 (by omega)).mono ?_
        rintro e w6 ⟨r, rfl, hl, hb6⟩
        replace hbel := hbel.trans (hb6.mono (below_boxed_size hbel))
        clear b0 b1 b2 b3 b4 b5 hbw hb6 k0
        obtain ⟨⟨b0, b1, b2, b3, b4, b5⟩, hbw⟩ := boxed hbel
        have k0 : w6.cell? ad = some (.int .i64 a) := cell_later hbw hc0.out
        cases r with
        | true =>
          exact (hLH.out (hl rfl)).elim
        | false =>
          clear hl
          go_wp2_with fail
          go_ret
          exact ⟨true, rfl, rfl, hbw⟩
  | arr _ h hkk hl =>
    have hk := Lib.hid h
    clear h hkk hl
    have e1 : (v.kind == 1) = false := by rw [beq_eq_false_iff_ne]; have := hk.out; omega
    have e3 : (v.kind == 3) = false := by rw [beq_eq_false_iff_ne]; have := hk.out; omega
    have e4 : (v.kind == 4) = false := by rw [beq_eq_false_iff_ne]; have := hk.out; omega
    have e5 : (v.kind == 5) = false := by rw [beq_eq_false_iff_ne]; have := hk.out; omega
    go_wp2_with fail
    refine (asInt_any v hokH.out (by omega) ([a] : List Int) (by simp) (a) A B (some ad) ca cb cd _ hb (hB.bel hbw) (hA.bel hbw) (hDH.out.bel hbw) (fun x d w1 lo hi hp hds hb1 => by
      cases hp <;> first | (exfalso; have := hk.out; omega) | exact int_none _ _ d w1 hds (.arr _ _ _))).mono ?_
    rintro e w4 ⟨rfl, hb4⟩
    have hle := below_boxed_size hbel
    replace hbel := hbel.trans (hb4.mono hle)
    clear b0 b1 b2 b3 b4 b5 hbw hb4
    obtain ⟨⟨b0, b1, b2, b3, b4, b5⟩, hbw⟩ := boxed hbel
    have k0 : w4.cell? ad = some (.int .i64 a) := cell_later hbw hc0.out
    go_wp2_with fail
    refine (becomes_any _).mono ?_
    rintro e w5 ⟨r, rfl, rfl, hb5⟩
    have hbw5 := hbw.trans (hb5.mono hbw.size)
    go_wp2_with fail
    go_ret
    exact ⟨true, rfl, rfl, hbw5⟩
  | obj _ h hkk hd hl =>
    have hk := Lib.hid h
    clear h hkk hd hl
    have e1 : (v.kind == 1) = false := by rw [beq_eq_false_iff_ne]; have := hk.out; omega
    have e3 : (v.kind == 3) = false := by rw [beq_eq_false_iff_ne]; have := hk.out; omega
    have e4 : (v.kind == 4) = false := by rw [beq_eq_false_iff_ne]; have := hk.out; omega
    have e5 : (v.kind == 5) = false := by rw [beq_eq_false_iff_ne]; have := hk.out; omega
    go_wp2_with fail
    refine (asInt_any v hokH.out (by omega) ([a] : List Int) (by simp) (a) A B (some ad) ca cb cd _ hb (hB.bel hbw) (hA.bel hbw) (hDH.out.bel hbw) (fun x d w1 lo hi hp hds hb1 => by
      cases hp <;> first | (exfalso; have := hk.out; omega) | exact int_none _ _ d w1 hds (.map _))).mono ?_
    rintro e w4 ⟨rfl, hb4⟩
    have hle := below_boxed_size hbel
    replace hbel := hbel.trans (hb4.mono hle)
    clear b0 b1 b2 b3 b4 b5 hbw hb4
    obtain ⟨⟨b0, b1, b2, b3, b4, b5⟩, hbw⟩ := boxed hbel
    have k0 : w4.cell? ad = some (.int .i64 a) := cell_later hbw hc0.out
    go_wp2_with fail
    refine (becomes_any _).mono ?_
    rintro e w5 ⟨r, rfl, rfl, hb5⟩
    have hbw5 := hbw.trans (hb5.mono hbw.size)
    go_wp2_with fail
    go_ret
    exact ⟨true, rfl, rfl, hbw5⟩
set_option maxRecDepth 4000 in
set_option maxHeartbeats 16000000 in
theorem fnAs_2 (v : V) {ok : Nat → Prop} (a b : Int) (A B D : Option Addr) (ca cb cd : Nat) (w : World) (hb : Bds v ca cb) (hB : Strs ok w B v.keys) (hA : Vals ok w A v.l) (hD : Ints w D [a, b]) (hT : Tabs w) (hE : ErrsAt w) :
    Calls Tryz.prog 3 #[.agg #[.int .i64 v.kind, .int .i64 v.n, .float .f64 v.f, .string v.s, .slice A v.l.length ca, .slice B v.keys.length cb], .slice D 2 cd] w (SomeBool (fun r => r = true) w) := by
  have hTH := Lib.hid hT
  have hEH := Lib.hid hE
  obtain ⟨ad, hDe, hc0'⟩ := hD.at_ (i := 0) (z := a) rfl
  subst hDe
  have hc0 := Lib.hid (show w.cell? ad = some (.int .i64 a) from hc0')
  clear hc0'
  obtain ⟨ad2, hDe, hc1'⟩ := hD.at_ (i := 1) (z := b) rfl
  cases hDe
  have hc1 := Lib.hid (show w.cell? ⟨ad.block, ad.off + 1, none⟩ = some (.int .i64 b) from hc1')
  clear hc1'
  have hDH := Lib.hid hD
  clear hT hE hD
  go_enter Tryz.func3, Tryz.ntmps3
  go_wp2_with fail
  have hbel : Below (w.heap.size + 1) (w.alloc (valObj v A ca B cb)) (w.alloc (valObj v A ca B cb)) := Below.refl _ _
  have hB0 := hB.bel (boxed hbel).2
  refine (zzFits1_any v A B ca cb _ hb hB0).mono ?_
  rintro e w2 ⟨r, rfl, -, hb2⟩
  replace hbel : Below (w.heap.size + 1) (w.alloc (valObj v A ca B cb)) w2 := hbel.trans (hb2.mono (by simp))
  obtain ⟨⟨b0, b1, b2, b3, b4, b5⟩, hbw⟩ := boxed hbel
  clear hb2 hB0
  cases r with
  | false =>
    go_wp2_with fail
    go_ret
    exact ⟨true, rfl, rfl, hbw⟩
  | true =>
  go_wp2_with fail
  refine (given_any v A B ca cb _ hb (hB.bel hbw) (hA.bel hbw)).mono ?_
  rintro e w3 ⟨r, rfl, hgv, hb3⟩
  replace hbel := hbel.trans (hb3.mono (below_boxed_size hbel))
  clear b0 b1 b2 b3 b4 b5 hbw hb3
  obtain ⟨⟨b0, b1, b2, b3, b4, b5⟩, hbw⟩ := boxed hbel
  cases r with
  | false =>
    clear hgv
    go_wp2_with fail
    go_ret
    exact ⟨true, rfl, rfl, hbw⟩
  | true =>
  obtain ⟨hwt, hok⟩ := hgv rfl
  have hokH := Lib.hid hok
  clear hgv
  cases hok with
  | null _ h hl hkk =>
    have hk := Lib.hid h
    clear h hl hkk
    have e1 : (v.kind == 1) = true := beq_iff_eq.2 hk.out
    have e3 : (v.kind == 3) = false := by rw [beq_eq_false_iff_ne]; have := hk.out; omega
    have e4 : (v.kind == 4) = false := by rw [beq_eq_false_iff_ne]; have := hk.out; omega
    have e5 : (v.kind == 5) = false := by rw [beq_eq_false_iff_ne]; have := hk.out; omega
    go_wp2_with fail
    refine (asInt_any v hokH.out (by omega) ([a, b] : List Int) (by simp) (b) A B (some ad) ca cb cd _ hb (hB.bel hbw) (hA.bel hbw) (hDH.out.bel hbw) (fun x d w1 lo hi hp hds hb1 => by
      cases hp <;> first | (exfalso; have := hk.out; omega) | exact int_nil _ d w1 hds)).mono ?_
    rintro e w4 ⟨rfl, hb4⟩
    have hle := below_boxed_size hbel
    replace hbel := hbel.trans (hb4.mono hle)
    clear b0 b1 b2 b3 b4 b5 hbw hb4
    obtain ⟨⟨b0, b1, b2, b3, b4, b5⟩, hbw⟩ := boxed hbel
    have k0 : w4.cell? ad = some (.int .i64 a) := cell_later hbw hc0.out
    have k1 : w4.cell? ⟨ad.block, ad.off + 1, none⟩ = some (.int .i64 b) := cell_later hbw hc1.out
    go_wp2_with fail
    refine (becomes_any _).mono ?_
    rintro e w5 ⟨r, rfl, rfl, hb5⟩
    have hbw5 := hbw.trans (hb5.mono hbw.size)
    go_wp2_with fail
    go_ret
    exact ⟨true, rfl, rfl, hbw5⟩
  | bool _ h hn hl hkk =>
    have hk := Lib.hid h
    clear h hn hl hkk
    have e1 : (v.kind == 1) = false := by rw [beq_eq_false_iff_ne]; have := hk.out; omega
    have e3 : (v.kind == 3) = false := by rw [beq_eq_false_iff_ne]; have := hk.out; omega
    have e4 : (v.kind == 4) = false := by rw [beq_eq_false_iff_ne]; have := hk.out; omega
    have e5 : (v.kind == 5) = false := by rw [beq_eq_false_iff_ne]; have := hk.out; omega
    go_wp2_with fail
    refine (asInt_any v hokH.out (by omega) ([a, b] : List Int) (by simp) (a) A B (some ad) ca cb cd _ hb (hB.bel hbw) (hA.bel hbw) (hDH.out.bel hbw) (fun x d w1 lo hi hp hds hb1 => by
      cases hp <;> first | (exfalso; have := hk.out; omega) | exact int_none _ _ d w1 hds (.bool _))).mono ?_
    rintro e w4 ⟨rfl, hb4⟩
    have hle := below_boxed_size hbel
    replace hbel := hbel.trans (hb4.mono hle)
    clear b0 b1 b2 b3 b4 b5 hbw hb4
    obtain ⟨⟨b0, b1, b2, b3, b4, b5⟩, hbw⟩ := boxed hbel
    have k0 : w4.cell? ad = some (.int .i64 a) := cell_later hbw hc0.out
    have k1 : w4.cell? ⟨ad.block, ad.off + 1, none⟩ = some (.int .i64 b) := cell_later hbw hc1.out
    go_wp2_with fail
    refine (becomes_any _).mono ?_
    rintro e w5 ⟨r, rfl, rfl, hb5⟩
    have hbw5 := hbw.trans (hb5.mono hbw.size)
    go_wp2_with fail
    go_ret
    exact ⟨true, rfl, rfl, hbw5⟩
  | int _ h hl hkk =>
    have hk := Lib.hid h
    clear h hl hkk
    have e1 : (v.kind == 1) = false := by rw [beq_eq_false_iff_ne]; have := hk.out; omega
    have e3 : (v.kind == 3) = true := beq_iff_eq.2 hk.out
    have e4 : (v.kind == 4) = false := by rw [beq_eq_false_iff_ne]; have := hk.out; omega
    have e5 : (v.kind == 5) = false := by rw [beq_eq_false_iff_ne]; have := hk.out; omega
    go_wp2_with fail
    refine (asInt_any v hokH.out (by omega) ([a, b] : List Int) (by simp) (v.n) A B (some ad) ca cb cd _ hb (hB.bel hbw) (hA.bel hbw) (hDH.out.bel hbw) (fun x d w1 lo hi hp hds hb1 => by
      cases hp <;> first | (exfalso; have := hk.out; omega) | exact int_int v.n _ d w1 hds)).mono ?_
    rintro e w4 ⟨rfl, hb4⟩
    have hle := below_boxed_size hbel
    replace hbel := hbel.trans (hb4.mono hle)
    clear b0 b1 b2 b3 b4 b5 hbw hb4
    obtain ⟨⟨b0, b1, b2, b3, b4, b5⟩, hbw⟩ := boxed hbel
    have k0 : w4.cell? ad = some (.int .i64 a) := cell_later hbw hc0.out
    have k1 : w4.cell? ⟨ad.block, ad.off + 1, none⟩ = some (.int .i64 b) := cell_later hbw hc1.out
    go_wp2_with fail
    refine (becomes_any _).mono ?_
    rintro e w5 ⟨r, rfl, rfl, hb5⟩
    have hbw5 := hbw.trans (hb5.mono hbw.size)
    go_wp2_with fail
    go_ret
    exact ⟨true, rfl, rfl, hbw5⟩
  | float _ h hfin hl hkk =>
    have hk := Lib.hid h
    clear h hl hkk
    have e1 : (v.kind == 1) = false := by rw [beq_eq_false_iff_ne]; have := hk.out; omega
    have e3 : (v.kind == 3) = false := by rw [beq_eq_false_iff_ne]; have := hk.out; omega
    have e4 : (v.kind == 4) = true := beq_iff_eq.2 hk.out
    have e5 : (v.kind == 5) = false := by rw [beq_eq_false_iff_ne]; have := hk.out; omega
    have hfH := Lib.hid hfin
    clear hfin
    go_wp2_with fail
    refine (sized_any v.f w3).mono ?_
    rintro e w' ⟨rfl, rfl⟩
    cases hbg : bigF v.f with
    | true =>
      have hbg2 : (FloatKind.f64.format.order (sizedF v.f) 4845873199050653696 == some Ordering.gt || FloatKind.f64.format.order (sizedF v.f) 4845873199050653696 == some Ordering.eq) = true := hbg
      clear hbg
      go_wp2_with fail
      go_ret
      exact ⟨true, rfl, rfl, hbw⟩
    | false =>
      obtain ⟨z, hz⟩ := small_int hfH.out hbg
      have hcv := run_cvt' hz
      have hzH := Lib.hid hz
      have hbg2 : (FloatKind.f64.format.order (sizedF v.f) 4845873199050653696 == some Ordering.gt || FloatKind.f64.format.order (sizedF v.f) 4845873199050653696 == some Ordering.eq) = false := hbg
      clear hbg hz
      cases hq : neqF z v.f with
      | true =>
        have hq2 : (FloatKind.f64.format.order (floatOfInt .f64 z) v.f != some Ordering.eq) = true := hq
        have hqH := Lib.hid hq
        have hq := hqH.out
        go_wp2_with fail
        refine (asInt_any v hokH.out (by omega) ([a, b] : List Int) (by simp) (b) A B (some ad) ca cb cd _ hb (hB.bel hbw) (hA.bel hbw) (hDH.out.bel hbw) (fun x d w1 lo hi hp hds hb1 => by
          cases hp <;> first | (exfalso; have := hk.out; omega) | exact (by have h := int_float v.f z ([a, b] : List Int) d w1 hds hzH.out; rw [hqH.out] at h; exact h))).mono ?_
        rintro e w4 ⟨rfl, hb4⟩
        have hle := below_boxed_size hbel
        replace hbel := hbel.trans (hb4.mono hle)
        clear b0 b1 b2 b3 b4 b5 hbw hb4
        obtain ⟨⟨b0, b1, b2, b3, b4, b5⟩, hbw⟩ := boxed hbel
        have k0 : w4.cell? ad = some (.int .i64 a) := cell_later hbw hc0.out
        have k1 : w4.cell? ⟨ad.block, ad.off + 1, none⟩ = some (.int .i64 b) := cell_later hbw hc1.out
        clear hq
        go_wp2_with fail
        refine (becomes_any _).mono ?_
        rintro e w5 ⟨r, rfl, rfl, hb5⟩
        have hbw5 := hbw.trans (hb5.mono hbw.size)
        go_wp2_with fail
        go_ret
        exact ⟨true, rfl, rfl, hbw5⟩
      | false =>
        have hq2 : (FloatKind.f64.format.order (floatOfInt .f64 z) v.f != some Ordering.eq) = false := hq
        have hqH := Lib.hid hq
        have hq := hqH.out
        go_wp2_with fail
        refine (asInt_any v hokH.out (by omega) ([a, b] : List Int) (by simp) (z) A B (some ad) ca cb cd _ hb (hB.bel hbw) (hA.bel hbw) (hDH.out.bel hbw) (fun x d w1 lo hi hp hds hb1 => by
          cases hp <;> first | (exfalso; have := hk.out; omega) | exact (by have h := int_float v.f z ([a, b] : List Int) d w1 hds hzH.out; rw [hqH.out] at h; exact h))).mono ?_
        rintro e w4 ⟨rfl, hb4⟩
        have hle := below_boxed_size hbel
        replace hbel := hbel.trans (hb4.mono hle)
        clear b0 b1 b2 b3 b4 b5 hbw hb4
        obtain ⟨⟨b0, b1, b2, b3, b4, b5⟩, hbw⟩ := boxed hbel
        have k0 : w4.cell? ad = some (.int .i64 a) := cell_later hbw hc0.out
        have k1 : w4.cell? ⟨ad.block, ad.off + 1, none⟩ = some (.int .i64 b) := cell_later hbw hc1.out
        clear hq
        go_wp2_with fail
        refine (becomes_any _).mono ?_
        rintro e w5 ⟨r, rfl, rfl, hb5⟩
        have hbw5 := hbw.trans (hb5.mono hbw.size)
        go_wp2_with fail
        go_ret
        exact ⟨true, rfl, rfl, hbw5⟩
  | str _ h hl hkk =>
    have hk := Lib.hid h
    clear h hl hkk
    have e1 : (v.kind == 1) = false := by rw [beq_eq_false_iff_ne]; have := hk.out; omega
    have e3 : (v.kind == 3) = false := by rw [beq_eq_false_iff_ne]; have := hk.out; omega
    have e4 : (v.kind == 4) = false := by rw [beq_eq_false_iff_ne]; have := hk.out; omega
    have e5 : (v.kind == 5) = true := beq_iff_eq.2 hk.out
    have hsz : v.s.size ≤ 1000 := by have := V.wt_eq v; omega
    go_wp2_with fail
    refine (asInt_any v hokH.out (by omega) ([a, b] : List Int) (by simp) (b) A B (some ad) ca cb cd _ hb (hB.bel hbw) (hA.bel hbw) (hDH.out.bel hbw) (fun x d w1 lo hi hp hds hb1 => by
      cases hp <;> first | (exfalso; have := hk.out; omega) | exact int_str2 v.s _ d w1 hds rfl)).mono ?_
    rintro e w4 ⟨rfl, hb4⟩
    have hle := below_boxed_size hbel
    replace hbel := hbel.trans (hb4.mono hle)
    clear b0 b1 b2 b3 b4 b5 hbw hb4
    obtain ⟨⟨b0, b1, b2, b3, b4, b5⟩, hbw⟩ := boxed hbel
    have k0 : w4.cell? ad = some (.int .i64 a) := cell_later hbw hc0.out
    have k1 : w4.cell? ⟨ad.block, ad.off + 1, none⟩ = some (.int .i64 b) := cell_later hbw hc1.out
    go_wp2_with fail
    refine (numeral_any v.s w4 (by omega)).mono ?_
    rintro e w5 ⟨r, rfl, hn, hb5⟩
    replace hbel := hbel.trans (hb5.mono (below_boxed_size hbel))
    clear b0 b1 b2 b3 b4 b5 hbw hb5 k0 k1
    obtain ⟨⟨b0, b1, b2, b3, b4, b5⟩, hbw⟩ := boxed hbel
    have k0 : w5.cell? ad = some (.int .i64 a) := cell_later hbw hc0.out
    have k1 : w5.cell? ⟨ad.block, ad.off + 1, none⟩ = some (.int .i64 b) := cell_later hbw hc1.out
    cases r with
    | true =>
      have hnum := Lib.hid (hn rfl)
      clear hn
      go_wp2_with fail
      refine (numeralOf_any v.s w5 (by omega) hnum.out).mono ?_
      rintro e w6 ⟨rfl, rfl⟩
      go_wp2_with fail
      refine (becomes_any _).mono ?_
      rintro e w5 ⟨r, rfl, rfl, hb5⟩
      have hbw5 := hbw.trans (hb5.mono hbw.size)
      go_wp2_with fail
      go_ret
      exact ⟨true, rfl, rfl, hbw5⟩
    | false =>
      clear hn
      go_wp2_with fail
      refine (numberless_any v.s w5 (by omega)).mono ?_
      rintro e w6 ⟨r, rfl, hl, hb6⟩
      replace hbel := hbel.trans (hb6.mono (below_boxed_size hbel))
      clear b0 b1 b2 b3 b4 b5 hbw hb6 k0 k1
      obtain ⟨⟨b0, b1, b2, b3, b4, b5⟩, hbw⟩ := boxed hbel
      have k0 : w6.cell? ad = some (.int .i64 a) := cell_later hbw hc0.out
      have k1 : w6.cell? ⟨ad.block, ad.off + 1, none⟩ = some (.int .i64 b) := cell_later hbw hc1.out
      cases r with
      | true =>
        clear hl
        go_wp2_with fail
        refine (becomes_any _).mono ?_
        rintro e w5 ⟨r, rfl, rfl, hb5⟩
        have hbw5 := hbw.trans (hb5.mono hbw.size)
        go_wp2_with fail
        go_ret
        exact ⟨true, rfl, rfl, hbw5⟩
      | false =>
        clear hl
        go_wp2_with fail
        go_ret
        exact ⟨true, rfl, rfl, hbw⟩
  | arr _ h hkk hl =>
    have hk := Lib.hid h
    clear h hkk hl
    have e1 : (v.kind == 1) = false := by rw [beq_eq_false_iff_ne]; have := hk.out; omega
    have e3 : (v.kind == 3) = false := by rw [beq_eq_false_iff_ne]; have := hk.out; omega
    have e4 : (v.kind == 4) = false := by rw [beq_eq_false_iff_ne]; have := hk.out; omega
    have e5 : (v.kind == 5) = false := by rw [beq_eq_false_iff_ne]; have := hk.out; omega
    go_wp2_with fail
    refine (asInt_any v hokH.out (by omega) ([a, b] : List Int) (by simp) (a) A B (some ad) ca cb cd _ hb (hB.bel hbw) (hA.bel hbw) (hDH.out.bel hbw) (fun x d w1 lo hi hp hds hb1 => by
      cases hp <;> first | (exfalso; have := hk.out; omega) | exact int_none _ _ d w1 hds (.arr _ _ _))).mono ?_
    rintro e w4 ⟨rfl, hb4⟩
    have hle := below_boxed_size hbel
    replace hbel := hbel.trans (hb4.mono hle)
    clear b0 b1 b2 b3 b4 b5 hbw hb4
    obtain ⟨⟨b0, b1, b2, b3, b4, b5⟩, hbw⟩ := boxed hbel
    have k0 : w4.cell? ad = some (.int .i64 a) := cell_later hbw hc0.out
    have k1 : w4.cell? ⟨ad.block, ad.off + 1, none⟩ = some (.int .i64 b) := cell_later hbw hc1.out
    go_wp2_with fail
    refine (becomes_any _).mono ?_
    rintro e w5 ⟨r, rfl, rfl, hb5⟩
    have hbw5 := hbw.trans (hb5.mono hbw.size)
    go_wp2_with fail
    go_ret
    exact ⟨true, rfl, rfl, hbw5⟩
  | obj _ h hkk hd hl =>
    have hk := Lib.hid h
    clear h hkk hd hl
    have e1 : (v.kind == 1) = false := by rw [beq_eq_false_iff_ne]; have := hk.out; omega
    have e3 : (v.kind == 3) = false := by rw [beq_eq_false_iff_ne]; have := hk.out; omega
    have e4 : (v.kind == 4) = false := by rw [beq_eq_false_iff_ne]; have := hk.out; omega
    have e5 : (v.kind == 5) = false := by rw [beq_eq_false_iff_ne]; have := hk.out; omega
    go_wp2_with fail
    refine (asInt_any v hokH.out (by omega) ([a, b] : List Int) (by simp) (a) A B (some ad) ca cb cd _ hb (hB.bel hbw) (hA.bel hbw) (hDH.out.bel hbw) (fun x d w1 lo hi hp hds hb1 => by
      cases hp <;> first | (exfalso; have := hk.out; omega) | exact int_none _ _ d w1 hds (.map _))).mono ?_
    rintro e w4 ⟨rfl, hb4⟩
    have hle := below_boxed_size hbel
    replace hbel := hbel.trans (hb4.mono hle)
    clear b0 b1 b2 b3 b4 b5 hbw hb4
    obtain ⟨⟨b0, b1, b2, b3, b4, b5⟩, hbw⟩ := boxed hbel
    have k0 : w4.cell? ad = some (.int .i64 a) := cell_later hbw hc0.out
    have k1 : w4.cell? ⟨ad.block, ad.off + 1, none⟩ = some (.int .i64 b) := cell_later hbw hc1.out
    go_wp2_with fail
    refine (becomes_any _).mono ?_
    rintro e w5 ⟨r, rfl, rfl, hb5⟩
    have hbw5 := hbw.trans (hb5.mono hbw.size)
    go_wp2_with fail
    go_ret
    exact ⟨true, rfl, rfl, hbw5⟩
end Go.Proofs.YthagnngckegekaaGreatDoor

namespace Go.Proofs.YthagnngckegekaaGreatDoor
open Go.ChangeShapes Go.WideShapes Go.ChangeAt Go.RowKit Go.Joins
set_option linter.unusedVariables false
set_option linter.unusedSimpArgs false

set_option maxRecDepth 4000 in
set_option maxHeartbeats 16000000 in
theorem fnAs_many (v : V) {ok : Nat → Prop} (n : Nat) (hn : 2 < n) (A B D : Option Addr) (ca cb cd : Nat) (w : World) (hb : Bds v ca cb) (hB : Strs ok w B v.keys) (hA : Vals ok w A v.l) :
    Calls Tryz.prog 3 #[.agg #[.int .i64 v.kind, .int .i64 v.n, .float .f64 v.f, .string v.s, .slice A v.l.length ca, .slice B v.keys.length cb], .slice D n cd] w (SomeBool (fun r => r = true) w) := by
  have hn2 := Lib.hid hn
  clear hn
  go_enter Tryz.func3, Tryz.ntmps3
  go_wp2_with fail
  have hbel : Below (w.heap.size + 1) (w.alloc (valObj v A ca B cb)) (w.alloc (valObj v A ca B cb)) := Below.refl _ _
  have hB0 := hB.bel (boxed hbel).2
  refine (zzFits1_any v A B ca cb _ hb hB0).mono ?_
  rintro e w2 ⟨r, rfl, -, hb2⟩
  replace hbel : Below (w.heap.size + 1) (w.alloc (valObj v A ca B cb)) w2 := hbel.trans (hb2.mono (by simp))
  obtain ⟨⟨b0, b1, b2, b3, b4, b5⟩, hbw⟩ := boxed hbel
  clear hb2 hB0
  cases r with
  | false =>
    go_wp2_with fail
    go_ret
    exact ⟨true, rfl, rfl, hbw⟩
  | true =>
  go_wp2_with (refine wp_cond_split rfl (fun _ => ?_) (fun _ => ?_))
  · go_ret
    exact ⟨true, rfl, rfl, hbw⟩
  refine (given_any v A B ca cb _ hb (hB.bel hbw) (hA.bel hbw)).mono ?_
  rintro e w3 ⟨r, rfl, hgv, hb3⟩
  replace hbel := hbel.trans (hb3.mono (below_boxed_size hbel))
  clear b0 b1 b2 b3 b4 b5 hbw hb3
  obtain ⟨⟨b0, b1, b2, b3, b4, b5⟩, hbw⟩ := boxed hbel
  clear hgv
  have q2 : (2 : Int) < (n : Int) := by have := hn2.out; omega
  cases r with
  | false =>
    go_wp2_with fail
    go_ret
    exact ⟨true, rfl, rfl, hbw⟩
  | true =>
    go_wp2_with fail
    go_ret
    exact ⟨true, rfl, rfl, hbw⟩

theorem fnAs_any (v : V) {ok : Nat → Prop} (ds : List Int) (A B D : Option Addr) (ca cb cd : Nat) (w : World) (hb : Bds v ca cb) (hB : Strs ok w B v.keys) (hA : Vals ok w A v.l) (hD : Ints w D ds) (hT : Tabs w) (hE : ErrsAt w) :
    Calls Tryz.prog 3 #[.agg #[.int .i64 v.kind, .int .i64 v.n, .float .f64 v.f, .string v.s, .slice A v.l.length ca, .slice B v.keys.length cb], .slice D ds.length cd] w (SomeBool (fun r => r = true) w) := by
  match ds, hD with
  | [], hD => exact fnAs_0 v A B D ca cb cd w hb hB hA hD hT hE
  | [a], hD => exact fnAs_1 v a A B D ca cb cd w hb hB hA hD hT hE
  | [a, b], hD => exact fnAs_2 v a b A B D ca cb cd w hb hB hA hD hT hE
  | a :: b :: c :: r, _ => exact fnAs_many v (a :: b :: c :: r).length (by simp) A B D ca cb cd w hb hB hA
end Go.Proofs.YthagnngckegekaaGreatDoor
