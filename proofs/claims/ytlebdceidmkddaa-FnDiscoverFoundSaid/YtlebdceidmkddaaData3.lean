/-
  data: of which kinds a tree is. Conditions: none.
-/
import Derived.Test.YtlebdceidmkddaaData2
import Derived.Deep.RegionHeld3
import Derived.Deep.DrawnRows
import Derived.Deep.QuietTactic
import Derived.BigQuiet
namespace Go.Proofs.Ytlebdceidmkddaa
open Go.ChangeShapes Go.WideShapes Go.ChangeAt Go.RowKit
set_option linter.unusedVariables false

/- An array or an object. -/
set_option maxHeartbeats 1000000 in
theorem data_deep (k n : Int) (f : Nat) (s : ByteArray) (l : List V) (ks : List ByteArray)
    (ih : ∀ x ∈ l, ∀ {ok : Nat → Prop} (A B : Option Addr) (ca cb : Nat) (w : World) (hb : Bds x ca cb) (hB : Strs ok w B x.keys) (hA : Vals ok w A x.l),
      Calls Try.prog 14 #[.agg #[.int .i64 x.kind, .int .i64 x.n, .float .f64 x.f, .string x.s, .slice A x.l.length ca, .slice B x.keys.length cb]] w (SomeBool (fun r => r = true → x.Good) w))
    {ok : Nat → Prop} (A B : Option Addr) (ca cb : Nat) (w : World) (hb : Bds ⟨k, n, f, s, l, ks⟩ ca cb) (hB : Strs ok w B ks) (hA : Vals ok w A l) (hk : k = 7 ∨ k = 8) :
    Calls Try.prog 14 #[.agg #[.int .i64 k, .int .i64 n, .float .f64 f, .string s, .slice A l.length ca, .slice B ks.length cb]] w
      (SomeBool (fun r => r = true → (V.mk k n f s l ks).Good) w) := by
  obtain ⟨_, _, hf, hs, _, _, _, _, hla, hlb⟩ := hb
  dsimp only at *
  have hbits := run_bits f
  have IH := Lib.hid ih
  clear ih
  by_cases hks : 0 < ks.length ∧ k = 7
  · obtain ⟨hks, rfl⟩ := hks
    have hks1 : ¬ ks = [] := by rintro rfl; simp at hks
    clear hA hB IH
    go_enter Try.func14, Try.ntmps14
    go_wp2_with fail
    all_goals
      go_ret
      exact ⟨false, rfl, fun h => (by cases h), (Below.refl _ _).alloc (Nat.le_refl _) _⟩
  by_cases hlen : ¬ ks.length = l.length ∧ k = 8
  · obtain ⟨hlen, rfl⟩ := hlen
    have hne : ((ks.length : Int) != (l.length : Int)) = true := by rw [bne_iff_ne]; omega
    clear hA hB IH hlen hks
    go_enter Try.func14, Try.ntmps14
    go_wp2_with fail
    all_goals
      go_ret
      exact ⟨false, rfl, fun h => (by cases h), (Below.refl _ _).alloc (Nat.le_refl _) _⟩
  have hgood : Hid (V.Goods l → (V.mk k n f s l ks).Good) := fun h => by
    simp only [V.Good]
    exact ⟨by omega, h⟩
  have hks7 : k = 7 → ks = [] := fun h => by
    by_cases h0 : 0 < ks.length
    · exact absurd ⟨h0, h⟩ hks
    · cases ks with | nil => rfl | cons x r => simp at h0
  have hlen8 : k = 8 → ks.length = l.length := fun h => by
    by_cases h0 : ks.length = l.length
    · exact h0
    · exact absurd ⟨h0, h⟩ hlen
  clear hks hlen
  rcases hk with rfl | rfl
  · obtain rfl := hks7 rfl
    clear hks7 hlen8
    go_enter Try.func14, Try.ntmps14
    go_wp2_with fail
    rotate_left
    · go_ret; exact ⟨false, rfl, fun h => (by cases h), (Below.refl _ _).alloc (Nat.le_refl _) _⟩
    · go_ret; exact ⟨false, rfl, fun h => (by cases h), (Below.refl _ _).alloc (Nat.le_refl _) _⟩
    · go_ret; exact ⟨false, rfl, fun h => (by cases h), (Below.refl _ _).alloc (Nat.le_refl _) _⟩
    obtain rfl : f = 0 := by with_reducible assumption
    obtain rfl : n = 0 := by with_reducible assumption
    clear hbits
    go_loopw [3] (fun i wr => ∃ (j : Nat), j ≤ ([] : List ByteArray).length ∧ i = .int .i64 j ∧ Below (w.heap.size + 1) (w.alloc (valObj ⟨7, 0, 0, s, l, ([] : List ByteArray)⟩ A ca B cb)) wr) (fun i _ => ([] : List ByteArray).length - (intOf i).toNat)
    case atStart => exact ⟨0, by simp, rfl, Below.refl _ _⟩
    case round =>
      obtain ⟨j, hj, rfl, hbel⟩ := hrel
      obtain ⟨⟨b0, b1, b2, b3, b4, b5⟩, hbw⟩ := boxed hbel
      dsimp only at b0 b1 b2 b3 b4 b5
      by_cases hlt : j < ([] : List ByteArray).length
      · exact absurd hlt (by simp)
      · clear hB
        go_wp2_with fail
        have hbel0 := hbel
        clear hbel b0 b1 b2 b3 b4 b5 hbw
        go_loopw [4] (fun i wr => ∃ (j : Nat), j ≤ l.length ∧ i = .int .i64 j ∧ Hid (V.Goods (l.take j)) ∧ Below (w.heap.size + 1) (w.alloc (valObj ⟨7, 0, 0, s, l, ([] : List ByteArray)⟩ A ca B cb)) wr) (fun i _ => l.length - (intOf i).toNat)
        case atStart => exact ⟨0, by simp, rfl, by simp [Hid, V.Goods], hbel0⟩
        case round =>
          clear hlt hj hbel0
          obtain ⟨i, hi, rfl, hg, hbel⟩ := hrel
          obtain ⟨⟨b0, b1, b2, b3, b4, b5⟩, hbw⟩ := boxed hbel
          dsimp only at b0 b1 b2 b3 b4 b5
          by_cases hlt : i < l.length
          · obtain ⟨x, hx⟩ := get_lt hlt
            have hxm := Lib.hid (get_mem hx)
            obtain ⟨ad, Ai, ci, Bi, di, hAe, _, ⟨e0, e1, e2, e3, e4, e5⟩, hbx, hBx, hAx⟩ := (hA.bel hbw).at_ hx
            subst hAe
            have hx' := Lib.hid hx
            clear hx hA
            go_wp2_with fail
            have hle := below_boxed_size hbel
            refine (IH.out x hxm.out Ai Bi ci di wr hbx hBx hAx).mono ?_
            rintro e w2 ⟨r, rfl, hr, hb2⟩
            have hbel2 := hbel.trans (hb2.mono hle)
            clear b0 b1 b2 b3 b4 b5 e0 e1 e2 e3 e4 e5
            cases r with
            | false =>
              go_wp2_with fail
              go_ret
              exact ⟨false, rfl, fun h => (by cases h), below_call hbw (by omega) hb2⟩
            | true =>
              have hg' : Hid (V.Goods (l.take (i + 1))) := goods_snoc hx'.out hg.out (hr rfl)
              clear hr
              go_wp2_with fail
              go_roundw
              case rel => exact ⟨i + 1, by omega, by go_num, hg', hbel2⟩
              case measure => simp [intOf]; omega
          · have hfin := hg.out
            rw [take_all hlt] at hfin
            have hfin' := Lib.hid (hgood.out hfin)
            clear hfin
            go_wp2_with fail
            go_ret
            exact ⟨true, rfl, fun _ => hfin'.out, hbw⟩
  · have hlen := hlen8 rfl
    have hne : ((ks.length : Int) != (l.length : Int)) = false := by rw [hlen]; simp
    clear hlen
    clear hks7 hlen8
    go_enter Try.func14, Try.ntmps14
    go_wp2_with fail
    rotate_left
    · go_ret; exact ⟨false, rfl, fun h => (by cases h), (Below.refl _ _).alloc (Nat.le_refl _) _⟩
    · go_ret; exact ⟨false, rfl, fun h => (by cases h), (Below.refl _ _).alloc (Nat.le_refl _) _⟩
    · go_ret; exact ⟨false, rfl, fun h => (by cases h), (Below.refl _ _).alloc (Nat.le_refl _) _⟩
    obtain rfl : f = 0 := by with_reducible assumption
    obtain rfl : n = 0 := by with_reducible assumption
    clear hbits
    go_loopw [3] (fun i wr => ∃ (j : Nat), j ≤ ks.length ∧ i = .int .i64 j ∧ Below (w.heap.size + 1) (w.alloc (valObj ⟨8, 0, 0, s, l, ks⟩ A ca B cb)) wr) (fun i _ => ks.length - (intOf i).toNat)
    case atStart => exact ⟨0, by simp, rfl, Below.refl _ _⟩
    case round =>
      obtain ⟨j, hj, rfl, hbel⟩ := hrel
      obtain ⟨⟨b0, b1, b2, b3, b4, b5⟩, hbw⟩ := boxed hbel
      dsimp only at b0 b1 b2 b3 b4 b5
      by_cases hlt : j < ks.length
      · obtain ⟨x, hx⟩ := get_lt hlt
        obtain ⟨ad, hBe, _, hc, hsz⟩ := (hB.bel hbw).at_ hx
        have hBk : Strs ok wr B (ks.take j) := (hB.bel hbw).take j
        subst hBe
        clear hx hA IH hB
        have hjl : j = (ks.take j).length := by rw [List.length_take]; omega
        have hjl' := Lib.hid hjl
        clear hjl
        have hle := below_boxed_size hbel
        have hbl := World.block_lt_of_cell? wr _ hc
        have hj1 : (0 : Int) ≤ (j : Int) := by omega
        have hj2 : (j : Int) ≤ (ks.length : Int) := by omega
        have hj3 : (j : Int) < (ks.length : Int) := by omega
        have hj4 : (j : Int) ≤ (cb : Int) := by omega
        cases hh : hasS (ks.take j) x with
        | true =>
          have hh' := Lib.hid hh
          clear hh
          go_wp2_with fail
          go_quiet ((go_at_call 23; exact Calls.quiet_of_same ((has_any _ (ks.take j) _ _ _ _ (by exact hBk.move (fun _ _ => rfl)) (by rw [← hjl'.out]; omega) hjl'.out).mono fun _ _ h => ⟨by rw [h.1, hh'.out], h.2.symm⟩)))
          go_wp2_with fail
          go_ret
          exact ⟨false, rfl, fun h => (by cases h), below_drewN hbw _⟩
        | false =>
          have hh' := Lib.hid hh
          clear hh
          go_wp2_with fail
          go_region_held3 (fun w' => w'.cell? ⟨w.heap.size, 5, none⟩ = some (.slice (some ad) ks.length cb) ∧ w'.cell? (ad.add j) = some (.string x)) (go_keep)
            (first | (go_at_call 23; refine (has_any _ (ks.take j) _ _ _ _ (by exact hBk.move (fun _ _ => rfl)) (by rw [← hjl'.out]; omega) hjl'.out).mono ?_; rintro e w2 ⟨he, rfl⟩; rw [hh'.out] at he; subst he) | (go_at_call 22; refine (utf8_any _ _).mono ?_; rintro e w2 ⟨b, rfl, hb2⟩; have q1 := (hb2.cell (p := ⟨w.heap.size, 5, none⟩) (by simp; omega)).trans b5; have q2 := (hb2.cell (p := ad.add j) (by simpa using hbl)).trans hc))
          have hbel2 : Below (w.heap.size + 1) (w.alloc (valObj ⟨8, 0, 0, s, l, ks⟩ A ca (some ad) cb)) w2 := below_call (below_drew hbel) (by simpa using hle) hb2
          clear hBk hc b0 b1 b2 b3 b4 b5 q1 q2
          cases b with
          | false =>
            go_wp2_with fail
            go_ret
            exact ⟨false, rfl, fun h => (by cases h), (boxed hbel2).2⟩
          | true =>
            go_wp2_with fail
            go_roundw
            case rel => exact ⟨j + 1, by omega, by go_num, hbel2⟩
            case measure => simp [intOf]; omega
      · clear hB
        go_wp2_with fail
        have hbel0 := hbel
        clear hbel b0 b1 b2 b3 b4 b5 hbw
        go_loopw [4] (fun i wr => ∃ (j : Nat), j ≤ l.length ∧ i = .int .i64 j ∧ Hid (V.Goods (l.take j)) ∧ Below (w.heap.size + 1) (w.alloc (valObj ⟨8, 0, 0, s, l, ks⟩ A ca B cb)) wr) (fun i _ => l.length - (intOf i).toNat)
        case atStart => exact ⟨0, by simp, rfl, by simp [Hid, V.Goods], hbel0⟩
        case round =>
          clear hlt hj hbel0
          obtain ⟨i, hi, rfl, hg, hbel⟩ := hrel
          obtain ⟨⟨b0, b1, b2, b3, b4, b5⟩, hbw⟩ := boxed hbel
          dsimp only at b0 b1 b2 b3 b4 b5
          by_cases hlt : i < l.length
          · obtain ⟨x, hx⟩ := get_lt hlt
            have hxm := Lib.hid (get_mem hx)
            obtain ⟨ad, Ai, ci, Bi, di, hAe, _, ⟨e0, e1, e2, e3, e4, e5⟩, hbx, hBx, hAx⟩ := (hA.bel hbw).at_ hx
            subst hAe
            have hx' := Lib.hid hx
            clear hx hA
            go_wp2_with fail
            have hle := below_boxed_size hbel
            refine (IH.out x hxm.out Ai Bi ci di wr hbx hBx hAx).mono ?_
            rintro e w2 ⟨r, rfl, hr, hb2⟩
            have hbel2 := hbel.trans (hb2.mono hle)
            clear b0 b1 b2 b3 b4 b5 e0 e1 e2 e3 e4 e5
            cases r with
            | false =>
              go_wp2_with fail
              go_ret
              exact ⟨false, rfl, fun h => (by cases h), below_call hbw (by omega) hb2⟩
            | true =>
              have hg' : Hid (V.Goods (l.take (i + 1))) := goods_snoc hx'.out hg.out (hr rfl)
              clear hr
              go_wp2_with fail
              go_roundw
              case rel => exact ⟨i + 1, by omega, by go_num, hg', hbel2⟩
              case measure => simp [intOf]; omega
          · have hfin := hg.out
            rw [take_all hlt] at hfin
            have hfin' := Lib.hid (hgood.out hfin)
            clear hfin
            go_wp2_with fail
            go_ret
            exact ⟨true, rfl, fun _ => hfin'.out, hbw⟩

set_option maxHeartbeats 1000000 in
theorem data_other (k n : Int) (f : Nat) (s : ByteArray) (l : List V) (ks : List ByteArray) (A B : Option Addr) (ca cb : Nat) (w : World) (hb : Bds ⟨k, n, f, s, l, ks⟩ ca cb)
    (hk : ¬ (k = 1 ∨ k = 2 ∨ k = 3 ∨ k = 5 ∨ k = 7 ∨ k = 8)) :
    Calls Try.prog 14 #[.agg #[.int .i64 k, .int .i64 n, .float .f64 f, .string s, .slice A l.length ca, .slice B ks.length cb]] w
      (SomeBool (fun r => r = true → (V.mk k n f s l ks).Good) w) := by
  obtain ⟨_, _, hf, hs, _, _, _, _, hla, hlb⟩ := hb
  dsimp only at *
  have hbits := run_bits f
  have k1 : (k == 1) = false := by rw [beq_eq_false_iff_ne]; omega
  have k2 : (k == 2) = false := by rw [beq_eq_false_iff_ne]; omega
  have k3 : (k == 3) = false := by rw [beq_eq_false_iff_ne]; omega
  have k5 : (k == 5) = false := by rw [beq_eq_false_iff_ne]; omega
  have k7 : (k == 7) = false := by rw [beq_eq_false_iff_ne]; omega
  have k8 : (k == 8) = false := by rw [beq_eq_false_iff_ne]; omega
  have n2 : (k != 2) = true := by rw [bne_iff_ne]; omega
  have n3 : (k != 3) = true := by rw [bne_iff_ne]; omega
  have n5 : (k != 5) = true := by rw [bne_iff_ne]; omega
  have n7 : (k != 7) = true := by rw [bne_iff_ne]; omega
  have n8 : (k != 8) = true := by rw [bne_iff_ne]; omega
  clear hk
  by_cases hks : 0 < ks.length
  · have hks1 : ¬ ks = [] := by rintro rfl; simp at hks
    go_enter Try.func14, Try.ntmps14
    go_wp2_with fail
    all_goals
      go_ret
      exact ⟨false, rfl, fun h => (by cases h), (Below.refl _ _).alloc (Nat.le_refl _) _⟩
  · obtain rfl : ks = [] := by cases ks with | nil => rfl | cons x r => simp at hks
    by_cases hl : 0 < l.length
    · have hl1 : ¬ l = [] := by rintro rfl; simp at hl
      go_enter Try.func14, Try.ntmps14
      go_wp2_with fail
      all_goals
        go_ret
        exact ⟨false, rfl, fun h => (by cases h), (Below.refl _ _).alloc (Nat.le_refl _) _⟩
    · obtain rfl : l = [] := by cases l with | nil => rfl | cons x r => simp at hl
      go_enter Try.func14, Try.ntmps14
      go_wp2_with fail
      all_goals
        go_ret
        exact ⟨false, rfl, fun h => (by cases h), (Below.refl _ _).alloc (Nat.le_refl _) _⟩

theorem data_any (v : V) : ∀ {ok : Nat → Prop} (A B : Option Addr) (ca cb : Nat) (w : World) (hb : Bds v ca cb) (hB : Strs ok w B v.keys) (hA : Vals ok w A v.l),
    Calls Try.prog 14 #[.agg #[.int .i64 v.kind, .int .i64 v.n, .float .f64 v.f, .string v.s, .slice A v.l.length ca, .slice B v.keys.length cb]] w
      (SomeBool (fun r => r = true → v.Good) w) := by
  induction v using V.ind with
  | h v ih =>
  intro ok A B ca cb w hb hB hA
  obtain ⟨k, n, f, s, l, ks⟩ := v
  by_cases h1 : k = 7 ∨ k = 8
  · exact data_deep k n f s l ks ih A B ca cb w hb hB hA h1
  by_cases h2 : k = 1 ∨ k = 2 ∨ k = 3 ∨ k = 5
  · exact data_scalar k n f s l ks A B ca cb w hb h2
  · exact data_other k n f s l ks A B ca cb w hb (by omega)
end Go.Proofs.Ytlebdceidmkddaa
