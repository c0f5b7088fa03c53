/-
  deep, given, becomes. Conditions: none.
-/
import Derived.Test.YthagnngckegekaaGreatDoorAsi
namespace Go.Proofs.YthagnngckegekaaGreatDoor
open Go.ChangeShapes Go.WideShapes Go.ChangeAt Go.RowKit
set_option linter.unusedVariables false
set_option linter.unusedSimpArgs false
attribute [local go_sem] store_float

set_option maxHeartbeats 400000 in
theorem deep_any (v : V) : ∀ {ok : Nat → Prop} (A B : Option Addr) (ca cb : Nat) (w : World) (hb : Bds v ca cb) (hB : Strs ok w B v.keys) (hA : Vals ok w A v.l) (hm : v.wt ≤ 1000000),
    Calls Tryz.prog 14 #[.agg #[.int .i64 v.kind, .int .i64 v.n, .float .f64 v.f, .string v.s, .slice A v.l.length ca, .slice B v.keys.length cb]] w fun e w' =>
      ∃ r : Int, e = .returned (.int .i64 r) ∧ 0 ≤ r ∧ r ≤ v.wt ∧ Below w.heap.size w w' := by
  induction v using V.ind with
  | h v ih =>
  intro ok A B ca cb w hb hB hA hm
  obtain ⟨_, _, _, hs, _, _, _, _, hla, hlb⟩ := hb
  have hv1 : 1 ≤ v.wt := by have := V.wt_eq v; omega
  go_enter Tryz.func14, Tryz.ntmps14
  have IH := Lib.hid ih
  clear ih
  go_wp2_with fail
  go_loopw [3, 4] (fun n i wr => ∃ (k : Nat) (q : Int), k ≤ v.l.length ∧ i = .int .i64 k ∧ n = .int .i64 q ∧ 0 ≤ q ∧ q + 1 ≤ v.wt ∧ Below (w.heap.size + 1) (w.alloc (valObj v A ca B cb)) wr) (fun _ i _ => v.l.length - (intOf i).toNat)
  case atStart => exact ⟨0, 0, Nat.zero_le _, rfl, rfl, by omega, by omega, Below.refl _ _⟩
  case round =>
    obtain ⟨k, q, hk, rfl, rfl, hq0, hq1, hbel⟩ := hrel
    obtain ⟨⟨b0, b1, b2, b3, b4, b5⟩, hbw⟩ := boxed hbel
    by_cases hlt : k < v.l.length
    · obtain ⟨x, hx⟩ := get_lt hlt
      have hxm := Lib.hid (get_mem hx)
      have hss := Lib.hid (wt_kid (get_mem hx))
      obtain ⟨ad, Ai, ci, Bi, di, rfl, _, ⟨e0, e1, e2, e3, e4, e5⟩, hbx, hBx, hAx⟩ := (hA.bel hbw).at_ hx
      clear hx hA
      go_wp2_with fail
      have hle := below_boxed_size hbel
      refine (IH.out x hxm.out Ai Bi ci di wr hbx hBx hAx (by have := hss.out; omega)).mono ?_
      rintro e w2 ⟨r, rfl, hr0, hr1, hb2⟩
      have hbel2 := hbel.trans (hb2.mono hle)
      have hss' := hss.out
      clear b0 b1 b2 b3 b4 b5 e0 e1 e2 e3 e4 e5
      go_wp2_with fail
      go_roundw
      case rel => exact ⟨k + 1, _, by omega, by go_num, rfl, by omega, by omega, hbel2⟩
      case measure => simp [intOf]; omega
    · clear hB hA
      go_wp2_with fail
      all_goals
        go_ret
        exact ⟨_, rfl, by omega, by omega, hbw⟩

/-- A value is handed back that reads as m. -/
def RetV (m : V) (ok : Nat → Prop) (w : World) (e : Ending) (w' : World) : Prop :=
  ∃ A ca B cb, e = .returned (.agg #[.int .i64 m.kind, .int .i64 m.n, .float .f64 m.f, .string m.s, .slice A m.l.length ca, .slice B m.keys.length cb]) ∧ Bds m ca cb ∧ Strs ok w' B m.keys ∧ Vals ok w' A m.l ∧ Below w.heap.size w w'
theorem bds_small (k n : Int) (hk : 0 ≤ k ∧ k ≤ 100) (hn : I64 n) : Bds ⟨k, n, 0, ⟨#[]⟩, [], []⟩ 0 0 :=
  ⟨by unfold I64; constructor <;> (show _ ≤ _; dsimp; omega), hn, by show (0 : Nat) < _; omega, by show (0 : Nat) ≤ _; omega, by simp, by simp, by simp, by simp, by simp, by simp⟩
def V.int (n : Int) : V := ⟨3, n, 0, ⟨#[]⟩, [], []⟩
theorem integer_any (ok : Nat → Prop) (n : Int) (hn : I64 n) (w : World) : Calls Tryz.prog 21 #[.int .i64 n] w (RetV (V.int n) ok w) := by
  go_enter Tryz.func21, Tryz.ntmps21
  go_wp2_with fail
  exact bodyPost_ret (v := .agg #[.int .i64 3, .int .i64 n, .float .f64 0, .string ⟨#[]⟩, .slice none 0 0, .slice none 0 0]) (by simp [results, Tryz.results21, go_sem]) rfl
    ⟨none, 0, none, 0, rfl, bds_small 3 n (by decide) hn, fun h => absurd rfl h, fun h => absurd rfl h, (Below.refl _ _).alloc (Nat.le_refl _) _⟩
theorem int_ok (n : Int) : (V.int n).Ok := .int _ rfl rfl rfl

set_option maxHeartbeats 1000000 in
theorem zzFits1_any (v : V) {ok : Nat → Prop} (A B : Option Addr) (ca cb : Nat) (w : World) (hb : Bds v ca cb) (hB : Strs ok w B v.keys) :
    Calls Tryz.prog 4 #[.agg #[.int .i64 v.kind, .int .i64 v.n, .float .f64 v.f, .string v.s, .slice A v.l.length ca, .slice B v.keys.length cb]] w (SomeBool (fun _ => True) w) := by
  have hlb := hb.lb
  have hla := hb.la
  have hs := hb.s
  go_enter Tryz.func4, Tryz.ntmps4
  have hbel := below_alloc w (valObj v A ca B cb)
  by_cases h1 : v.s.size ≤ 2147483647
  rotate_left
  · go_wp2_with fail
    go_ret
    exact ⟨false, rfl, trivial, hbel⟩
  by_cases h2 : v.l.length ≤ 2147483647
  rotate_left
  · go_wp2_with fail
    go_ret
    exact ⟨false, rfl, trivial, hbel⟩
  go_wp2_with fail
  refine (zzFits2_any B v.keys cb _ (hB.bel hbel) hlb).mono ?_
  rintro e w2 ⟨rfl, rfl⟩
  cases hf : fits2 v.keys
  all_goals
    go_wp2_with fail
    go_ret
    exact ⟨_, rfl, trivial, hbel⟩

set_option maxHeartbeats 1000000 in
theorem given_any (v : V) {ok : Nat → Prop} (A B : Option Addr) (ca cb : Nat) (w : World) (hb : Bds v ca cb) (hB : Strs ok w B v.keys) (hA : Vals ok w A v.l) :
    Calls Tryz.prog 5 #[.agg #[.int .i64 v.kind, .int .i64 v.n, .float .f64 v.f, .string v.s, .slice A v.l.length ca, .slice B v.keys.length cb]] w
      (SomeBool (fun r => r = true → v.wt ≤ 1000 ∧ v.Ok) w) := by
  go_enter Tryz.func5, Tryz.ntmps5
  go_wp2_with fail
  have hbel : Below (w.heap.size + 1) (w.alloc (valObj v A ca B cb)) (w.alloc (valObj v A ca B cb)) := Below.refl _ _
  have hA0 := hA.bel (boxed hbel).2
  have hB0 := hB.bel (boxed hbel).2
  refine (light_any v A B ca cb 300 _ hb hB0 hA0 (by omega) (by omega)).mono ?_
  rintro e w2 ⟨r, rfl, hr, hb2⟩
  replace hbel : Below (w.heap.size + 1) (w.alloc (valObj v A ca B cb)) w2 := hbel.trans (hb2.mono (by simp))
  obtain ⟨⟨b0, b1, b2, b3, b4, b5⟩, hbw⟩ := boxed hbel
  cases r with
  | false =>
    clear hr hb2 hA0 hB0
    go_wp2_with fail
    go_ret
    exact ⟨false, rfl, fun h => (by cases h), hbw⟩
  | true =>
  have hr' : Hid (v.wt ≤ 1000 ∧ v.Ok) := by
    have h1 := hr rfl
    exact ⟨by omega, h1.2⟩
  clear hr hb2 hA0 hB0
  go_wp2_with fail
  have hle := below_boxed_size hbel
  refine (deep_any v A B ca cb w2 hb (hB.bel hbw) (hA.bel hbw) (by have := hr'.out.1; omega)).mono ?_
  rintro e w3 ⟨q, rfl, hq0, hq1, hb3⟩
  replace hbel : Below (w.heap.size + 1) (w.alloc (valObj v A ca B cb)) w3 := hbel.trans (hb3.mono hle)
  clear b0 b1 b2 b3 b4 b5 hbw hb3 hq1
  obtain ⟨⟨b0, b1, b2, b3, b4, b5⟩, hbw⟩ := boxed hbel
  by_cases hq : q ≤ 60
  rotate_left
  · go_wp2_with fail
    go_ret
    exact ⟨false, rfl, fun h => (by cases h), hbw⟩
  go_wp2_with fail
  refine (cleanValue_any v A B ca cb w3 hb (hA.bel hbw)).mono ?_
  rintro e w4 ⟨r2, rfl, hcl, hb4⟩
  have hbw4 : Below w.heap.size w w4 := hbw.trans (hb4.mono hbw.size)
  clear b0 b1 b2 b3 b4 b5 hcl hb4
  go_wp2_with fail
  go_ret
  exact ⟨r2, rfl, fun _ => hr'.out, hbw4⟩

theorem becomes_any (w : World) : Calls Tryz.prog 11 #[] w (SomeBool (fun r => r = true) w) := by
  have g1 : Hid (I64 7) := by unfold Hid I64; omega
  have hwt : Hid ((V.int 7).wt ≤ 1000000) := by
    show _ ≤ _
    rw [V.wt_eq]
    show 1 + 0 + 0 + 0 + V.wts [] ≤ _
    simp [V.wts]
  go_enter Tryz.func11, Tryz.ntmps11
  go_wp2_with fail
  refine (integer_any any 7 g1.out w).mono ?_
  rintro e w1 ⟨A1, c1, B1, d1, rfl, hbd1, hB1, hA1, hb1⟩
  have hc := Lib.hid (asInt_any (V.int 7) (int_ok 7) hwt.out [] (by simp) 7 A1 B1 none c1 d1 0 w1 hbd1 hB1 hA1 (fun h => absurd rfl h) (fun x d w2 lo hi hp hd hb => by
    cases hp with
    | int _ _ _ h => exact int_int 7 [] d w2 hd
    | _ _ _ _ h => exact absurd h (by simp [V.int])))
  clear hbd1 hB1 hA1
  go_wp2_with fail
  refine hc.out.mono ?_
  rintro e w3 ⟨rfl, hb3⟩
  have hbw := hb1.trans (hb3.mono hb1.size)
  go_wp2_with fail
  go_ret
  exact ⟨true, rfl, rfl, hbw⟩
end Go.Proofs.YthagnngckegekaaGreatDoor
