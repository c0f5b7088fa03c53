/-
  holds: whether a kind is in a tree. Conditions: none.
-/
import Derived.Test.YthagnngckegekaaGreatDoorClean
namespace Go.Proofs.YthagnngckegekaaGreatDoor
open Go.ChangeShapes Go.WideShapes Go.ChangeAt Go.RowKit
set_option linter.unusedVariables false

set_option maxHeartbeats 1000000 in
theorem holds_deep (k n : Int) (f : Nat) (s : ByteArray) (l : List V) (ks : List ByteArray) (m : Int)
    (ih : ∀ x ∈ l, ∀ {ok : Nat → Prop} (A B : Option Addr) (ca cb : Nat) (w : World) (hb : Bds x ca cb) (hA : Vals ok w A x.l),
      Calls Tryz.prog 24 #[.agg #[.int .i64 x.kind, .int .i64 x.n, .float .f64 x.f, .string x.s, .slice A x.l.length ca, .slice B x.keys.length cb], .int .i64 m] w (SomeBool (fun r => r = false → x.No m) w))
    {ok : Nat → Prop} (A B : Option Addr) (ca cb : Nat) (w : World) (hb : Bds ⟨k, n, f, s, l, ks⟩ ca cb) (hA : Vals ok w A l) (hk : k = 7 ∨ k = 8) :
    Calls Tryz.prog 24 #[.agg #[.int .i64 k, .int .i64 n, .float .f64 f, .string s, .slice A l.length ca, .slice B ks.length cb], .int .i64 m] w
      (SomeBool (fun r => r = false → (V.mk k n f s l ks).No m) w) := by
  obtain ⟨_, _, hf, hs, _, _, _, _, hla, hlb⟩ := hb
  dsimp only at *
  have IH := Lib.hid ih
  clear ih
  by_cases hkm : k = m
  · have hkm' : (k == m) = true := beq_iff_eq.2 hkm
    clear hkm hk
    go_enter Tryz.func24, Tryz.ntmps24
    go_wp2_with fail
    go_ret
    exact ⟨true, rfl, fun h => (by cases h), (Below.refl _ _).alloc (Nat.le_refl _) _⟩
  have hkm' : (k == m) = false := beq_eq_false_iff_ne.2 hkm
  have hF : Hid ((∀ x ∈ l, x.No m) → (V.mk k n f s l ks).No m) := fun hl => .mk _ hkm (fun _ => hl)
  clear hkm
  rcases hk with rfl | rfl
  all_goals
    go_enter Tryz.func24, Tryz.ntmps24
    go_wp2_with fail
    go_loopw [5] (fun i wr => ∃ (j : Nat), j ≤ l.length ∧ i = .int .i64 j ∧ Hid (∀ y ∈ l.take j, y.No m) ∧ Below (w.heap.size + 1) (w.alloc (valObj ⟨_, n, f, s, l, ks⟩ A ca B cb)) wr) (fun i _ => l.length - (intOf i).toNat)
    case atStart => exact ⟨0, by simp, rfl, by intro y hy; simp at hy, Below.refl _ _⟩
    case round =>
      obtain ⟨i, hi, rfl, hg, hbel⟩ := hrel
      obtain ⟨⟨b0, b1, b2, b3, b4, b5⟩, hbw⟩ := boxed hbel
      dsimp only at b0 b1 b2 b3 b4 b5
      by_cases hlt : i < l.length
      · obtain ⟨x, hx⟩ := get_lt hlt
        have hxm := Lib.hid (get_mem hx)
        obtain ⟨ad, Ai, ci, Bi, di, hAe, _, ⟨e0, e1, e2, e3, e4, e5⟩, hbx, hBx, hAx⟩ := (hA.bel hbw).at_ hx
        subst hAe
        have hx' := Lib.hid hx
        clear hx hA
        go_wp2_with fail
        have hle := below_boxed_size hbel
        refine (IH.out x hxm.out Ai Bi ci di wr hbx hAx).mono ?_
        rintro e w2 ⟨r, rfl, hr, hb2⟩
        have hbel2 := hbel.trans (hb2.mono hle)
        clear b0 b1 b2 b3 b4 b5 e0 e1 e2 e3 e4 e5
        cases r with
        | true =>
          go_wp2_with fail
          go_ret
          exact ⟨true, rfl, fun h => (by cases h), below_call hbw (by omega) hb2⟩
        | false =>
          have hg' : Hid (∀ y ∈ l.take (i + 1), y.No m) := all_take hg.out hx'.out (hr rfl)
          clear hr
          go_wp2_with fail
          go_roundw
          case rel => exact ⟨i + 1, by omega, by go_num, hg', hbel2⟩
          case measure => simp [intOf]; omega
      · have hfin := hg.out
        rw [take_all hlt] at hfin
        have hfin' := Lib.hid hfin
        clear hfin hg
        go_wp2_with fail
        go_ret
        exact ⟨_, rfl, fun _ => hF.out hfin'.out, hbw⟩

set_option maxHeartbeats 1000000 in
theorem holds_leaf (k n : Int) (f : Nat) (s : ByteArray) (l : List V) (ks : List ByteArray) (m : Int)
    (A B : Option Addr) (ca cb : Nat) (w : World) (hb : Bds ⟨k, n, f, s, l, ks⟩ ca cb) (h7 : k ≠ 7) (h8 : k ≠ 8) :
    Calls Tryz.prog 24 #[.agg #[.int .i64 k, .int .i64 n, .float .f64 f, .string s, .slice A l.length ca, .slice B ks.length cb], .int .i64 m] w
      (SomeBool (fun r => r = false → (V.mk k n f s l ks).No m) w) := by
  obtain ⟨_, _, hf, hs, _, _, _, _, hla, hlb⟩ := hb
  dsimp only at *
  have k7 : (k == 7) = false := beq_eq_false_iff_ne.2 h7
  have k8 : (k == 8) = false := beq_eq_false_iff_ne.2 h8
  by_cases hkm : k = m
  · have hkm' : (k == m) = true := beq_iff_eq.2 hkm
    clear hkm h7 h8
    go_enter Tryz.func24, Tryz.ntmps24
    go_wp2_with fail
    go_ret
    exact ⟨true, rfl, fun h => (by cases h), (Below.refl _ _).alloc (Nat.le_refl _) _⟩
  have hkm' : (k == m) = false := beq_eq_false_iff_ne.2 hkm
  have hF : Hid ((V.mk k n f s l ks).No m) := .mk _ hkm (fun h => by rcases h with h | h; exact absurd h h7; exact absurd h h8)
  clear hkm h7 h8
  go_enter Tryz.func24, Tryz.ntmps24
  by_cases hl : 0 < l.length
  all_goals
    go_wp2_with fail
    refine wp_loop_rounds 1 ?_
    rw [rounds_succ]
    go_wp2_with fail
    go_ret
    exact ⟨_, rfl, fun _ => hF.out, (Below.refl _ _).alloc (Nat.le_refl _) _⟩

theorem holds_any (v : V) : ∀ {ok : Nat → Prop} (A B : Option Addr) (ca cb : Nat) (w : World) (hb : Bds v ca cb) (hA : Vals ok w A v.l) (m : Int),
    Calls Tryz.prog 24 #[.agg #[.int .i64 v.kind, .int .i64 v.n, .float .f64 v.f, .string v.s, .slice A v.l.length ca, .slice B v.keys.length cb], .int .i64 m] w (SomeBool (fun r => r = false → v.No m) w) := by
  induction v using V.ind with
  | h v ih =>
  intro ok A B ca cb w hb hA m
  obtain ⟨k, n, f, s, l, ks⟩ := v
  by_cases h2 : k = 7 ∨ k = 8
  · exact holds_deep k n f s l ks m (fun x hx => fun A B ca cb w hb hA => ih x hx A B ca cb w hb hA m) A B ca cb w hb hA h2
  · exact holds_leaf k n f s l ks m A B ca cb w hb (by omega) (by omega)
end Go.Proofs.YthagnngckegekaaGreatDoor
