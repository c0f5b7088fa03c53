/-
  noFloat, cleanValue: nothing that the kind does not use. Conditions: none.
-/
import Derived.Test.YthagnngckegekaaGreatDoorGood
import Derived.Test.YthagnngckegekaaGreatDoorBits
namespace Go.Proofs.YthagnngckegekaaGreatDoor
open Go.ChangeShapes Go.WideShapes Go.ChangeAt Go.RowKit
set_option linter.unusedVariables false

theorem noFloat_any (f : Nat) (w : World) (hf : f < 18446744073709551616) :
    Calls Tryz.prog 25 #[.float .f64 f] w fun e w' => ∃ b : Bool, e = .returned (.bool b) ∧ w = w' := by
  have hbits := run_bits f
  go_enter Tryz.func25, Tryz.ntmps25
  go_wp2_with fail
  all_goals
    go_ret
    exact ⟨_, rfl, rfl⟩

set_option maxHeartbeats 1000000 in
theorem clean_leaf (k n : Int) (f : Nat) (s : ByteArray) (l : List V) (ks : List ByteArray) (A B : Option Addr) (ca cb : Nat) (w : World) (hb : Bds ⟨k, n, f, s, l, ks⟩ ca cb) (hsc : k = 1 ∨ k = 2 ∨ k = 3 ∨ k = 4 ∨ k = 5 ∨ k = 6) :
    Calls Tryz.prog 15 #[.agg #[.int .i64 k, .int .i64 n, .float .f64 f, .string s, .slice A l.length ca, .slice B ks.length cb]] w
      (SomeBool (fun r => r = true → (V.mk k n f s l ks).Clean) w) := by
  obtain ⟨_, _, hf, hs, _, _, _, _, hla, hlb⟩ := hb
  dsimp only at *
  by_cases hks : 0 < ks.length
  · have hks1 : ¬ ks = [] := by rintro rfl; simp at hks
    have hks2 : ((ks.length : Int) == 0) = false := beq_eq_false_iff_ne.2 (by omega)
    rcases hsc with rfl | rfl | rfl | rfl | rfl | rfl
    all_goals
      go_enter Tryz.func15, Tryz.ntmps15
      go_wp2_with (go_at_call 25; refine (noFloat_any _ _ hf).mono ?_; rintro e w2 ⟨b, rfl, rfl⟩; cases b)
      all_goals
        go_ret
        exact ⟨false, rfl, fun h => (by cases h), (Below.refl _ _).alloc (Nat.le_refl _) _⟩
  · obtain rfl : ks = [] := by cases ks with | nil => rfl | cons x r => simp at hks
    by_cases hl : 0 < l.length
    · have hl1 : ¬ l = [] := by rintro rfl; simp at hl
      have hl2 : ((l.length : Int) == 0) = false := beq_eq_false_iff_ne.2 (by omega)
      rcases hsc with rfl | rfl | rfl | rfl | rfl | rfl
      all_goals
        go_enter Tryz.func15, Tryz.ntmps15
        go_wp2_with (go_at_call 25; refine (noFloat_any _ _ hf).mono ?_; rintro e w2 ⟨b, rfl, rfl⟩; cases b)
        all_goals
          go_ret
          exact ⟨false, rfl, fun h => (by cases h), (Below.refl _ _).alloc (Nat.le_refl _) _⟩
    · obtain rfl : l = [] := by cases l with | nil => rfl | cons x r => simp at hl
      have hc : Hid ((V.mk k n f s [] []).Clean) := .leaf _ (by show 1 ≤ k; omega) (by show k ≤ 6; omega) rfl rfl
      rcases hsc with rfl | rfl | rfl | rfl | rfl | rfl
      all_goals
        go_enter Tryz.func15, Tryz.ntmps15
        go_wp2_with (go_at_call 25; refine (noFloat_any _ _ hf).mono ?_; rintro e w2 ⟨b, rfl, rfl⟩; cases b)
        all_goals
          go_ret
          exact ⟨_, rfl, fun _ => hc.out, (Below.refl _ _).alloc (Nat.le_refl _) _⟩

theorem clean_none (k n : Int) (f : Nat) (s : ByteArray) (l : List V) (ks : List ByteArray) (A B : Option Addr) (ca cb : Nat) (w : World) (hsc : k < 1 ∨ 8 < k) :
    Calls Tryz.prog 15 #[.agg #[.int .i64 k, .int .i64 n, .float .f64 f, .string s, .slice A l.length ca, .slice B ks.length cb]] w
      (SomeBool (fun r => r = true → (V.mk k n f s l ks).Clean) w) := by
  have k1 : (k == 1) = false := beq_eq_false_iff_ne.2 (by omega)
  have k2 : (k == 2) = false := beq_eq_false_iff_ne.2 (by omega)
  have k3 : (k == 3) = false := beq_eq_false_iff_ne.2 (by omega)
  have k4 : (k == 4) = false := beq_eq_false_iff_ne.2 (by omega)
  have k5 : (k == 5) = false := beq_eq_false_iff_ne.2 (by omega)
  have k6 : (k == 6) = false := beq_eq_false_iff_ne.2 (by omega)
  have k7 : (k == 7) = false := beq_eq_false_iff_ne.2 (by omega)
  have k8 : (k == 8) = false := beq_eq_false_iff_ne.2 (by omega)
  clear hsc
  go_enter Tryz.func15, Tryz.ntmps15
  go_wp2_with fail
  go_ret
  exact ⟨false, rfl, fun h => (by cases h), (Below.refl _ _).alloc (Nat.le_refl _) _⟩

theorem all_take {P : V → Prop} {l : List V} {i : Nat} {x : V} (h : ∀ y ∈ l.take i, P y) (hx : l[i]? = some x) (hp : P x) : ∀ y ∈ l.take (i + 1), P y := by
  rw [take_get hx]
  intro y hy
  rcases List.mem_append.1 hy with hy | hy
  · exact h y hy
  · rw [List.mem_singleton.1 hy]; exact hp

set_option maxHeartbeats 1000000 in
theorem clean_deep (k n : Int) (f : Nat) (s : ByteArray) (l : List V) (ks : List ByteArray)
    (ih : ∀ x ∈ l, ∀ {ok : Nat → Prop} (A B : Option Addr) (ca cb : Nat) (w : World) (hb : Bds x ca cb) (hA : Vals ok w A x.l),
      Calls Tryz.prog 15 #[.agg #[.int .i64 x.kind, .int .i64 x.n, .float .f64 x.f, .string x.s, .slice A x.l.length ca, .slice B x.keys.length cb]] w (SomeBool (fun r => r = true → x.Clean) w))
    {ok : Nat → Prop} (A B : Option Addr) (ca cb : Nat) (w : World) (hb : Bds ⟨k, n, f, s, l, ks⟩ ca cb) (hA : Vals ok w A l) (hk : k = 7 ∨ k = 8) :
    Calls Tryz.prog 15 #[.agg #[.int .i64 k, .int .i64 n, .float .f64 f, .string s, .slice A l.length ca, .slice B ks.length cb]] w
      (SomeBool (fun r => r = true → (V.mk k n f s l ks).Clean) w) := by
  obtain ⟨_, _, hf, hs, _, _, _, _, hla, hlb⟩ := hb
  dsimp only at *
  have IH := Lib.hid ih
  clear ih
  have hF : Hid ((∀ x ∈ l, x.Clean) → (k = 8 ∨ ks = []) → (V.mk k n f s l ks).Clean) := fun hl h => by
    rcases hk with hk | hk
    · rcases h with h | h
      · omega
      · exact .arr _ hk h hl
    · exact .obj _ hk hl
  rcases hk with rfl | rfl
  all_goals
    go_enter Tryz.func15, Tryz.ntmps15
    go_wp2_with fail
    go_loopw [3] (fun i wr => ∃ (j : Nat), j ≤ l.length ∧ i = .int .i64 j ∧ Hid (∀ y ∈ l.take j, y.Clean) ∧ Below (w.heap.size + 1) (w.alloc (valObj ⟨_, n, f, s, l, ks⟩ A ca B cb)) wr) (fun i _ => l.length - (intOf i).toNat)
    case atStart => exact ⟨0, by simp, rfl, by intro y hy; simp at hy, Below.refl _ _⟩
    case round =>
      obtain ⟨i, hi, rfl, hg, hbel⟩ := hrel
      obtain ⟨⟨b0, b1, b2, b3, b4, b5⟩, hbw⟩ := boxed hbel
      dsimp only at b0 b1 b2 b3 b4 b5
      by_cases hlt : i < l.length
      · obtain ⟨x, hx⟩ := get_lt hlt
        have hxm := Lib.hid (get_mem hx)
        obtain ⟨ad, Ai, ci, Bi, di, hAe, _, ⟨e0, e1, e2, e3, e4, e5⟩, hbx, hBx, hAx⟩ := (hA.bel hbw).at_ hx
        subst hAe
        have hx' := Lib.hid hx
        clear hx hA
        go_wp2_with fail
        have hle := below_boxed_size hbel
        refine (IH.out x hxm.out Ai Bi ci di wr hbx hAx).mono ?_
        rintro e w2 ⟨r, rfl, hr, hb2⟩
        have hbel2 := hbel.trans (hb2.mono hle)
        clear b0 b1 b2 b3 b4 b5 e0 e1 e2 e3 e4 e5
        cases r with
        | false =>
          go_wp2_with fail
          go_ret
          exact ⟨false, rfl, fun h => (by cases h), below_call hbw (by omega) hb2⟩
        | true =>
          have hg' : Hid (∀ y ∈ l.take (i + 1), y.Clean) := all_take hg.out hx'.out (hr rfl)
          clear hr
          go_wp2_with fail
          go_roundw
          case rel => exact ⟨i + 1, by omega, by go_num, hg', hbel2⟩
          case measure => simp [intOf]; omega
      · have hfin := hg.out
        rw [take_all hlt] at hfin
        have hfin' := Lib.hid hfin
        clear hfin hg
        by_cases hks : 0 < ks.length
        · have hks1 : ¬ ks = [] := by rintro rfl; simp at hks
          have hks2 : ((ks.length : Int) == 0) = false := beq_eq_false_iff_ne.2 (by omega)
          go_wp2_with (go_at_call 25; refine (noFloat_any _ _ hf).mono ?_; rintro e w2 ⟨b, rfl, rfl⟩; cases b)
          all_goals
            go_ret
            first
            | exact ⟨false, rfl, fun h => (by cases h), hbw⟩
            | exact ⟨_, rfl, fun _ => hF.out hfin'.out (by simp), hbw⟩
        · obtain rfl : ks = [] := by cases ks with | nil => rfl | cons x r => simp at hks
          go_wp2_with (go_at_call 25; refine (noFloat_any _ _ hf).mono ?_; rintro e w2 ⟨b, rfl, rfl⟩; cases b)
          all_goals
            go_ret
            exact ⟨_, rfl, fun _ => hF.out hfin'.out (by simp), hbw⟩

theorem cleanValue_any (v : V) : ∀ {ok : Nat → Prop} (A B : Option Addr) (ca cb : Nat) (w : World) (hb : Bds v ca cb) (hA : Vals ok w A v.l),
    Calls Tryz.prog 15 #[.agg #[.int .i64 v.kind, .int .i64 v.n, .float .f64 v.f, .string v.s, .slice A v.l.length ca, .slice B v.keys.length cb]] w (SomeBool (fun r => r = true → v.Clean) w) := by
  induction v using V.ind with
  | h v ih =>
  intro ok A B ca cb w hb hA
  obtain ⟨k, n, f, s, l, ks⟩ := v
  by_cases h1 : k < 1 ∨ 8 < k
  · exact clean_none k n f s l ks A B ca cb w h1
  · by_cases h2 : k ≤ 6
    · exact clean_leaf k n f s l ks A B ca cb w hb (by omega)
    · exact clean_deep k n f s l ks ih A B ca cb w hb hA (by omega)
end Go.Proofs.YthagnngckegekaaGreatDoor
