/-
  hex: at most four bytes, at most four choices. Conditions: none.
-/
import Derived.Test.YtlebdceidmkddaaWays
namespace Go.Proofs.Ytlebdceidmkddaa
open Go.ChangeShapes Go.WideShapes Go.ChangeAt Go.RowKit
set_option linter.unusedVariables false

theorem L_cat (x y : ByteArray) : L (x ++ y) = L x ++ L y := by simp [L]
theorem cat_size (x y : ByteArray) : (x ++ y).size = x.size + y.size := by rw [← L_len, L_cat]; simp [L_len]
theorem cat2 (c : UInt8) (x : ByteArray) : (x ++ ({ data := #[c] } : ByteArray)).size = x.size + 1 := by rw [cat_size]; rfl

set_option maxHeartbeats 1000000 in
theorem hex_any (w : World) (g : Nat) (A : Option Addr) (n c : Nat) (p m : Int) (h : Ways w g A n c p) (hp : p ≤ 4611686018427387000) (hm0 : 0 ≤ m) (hm1 : m ≤ 2147483647) :
    Calls Try.prog 27 #[.pointer (some ⟨g, 0, none⟩), .int .i64 m] w (Moved (IsStr (fun l => l.length ≤ 4)) g A n c p 4 w) := by
  go_enter Try.func27, Try.ntmps27
  go_wp2_with fail
  go_loopw [5, 6] (fun s i wr => ∃ (x : ByteArray) (j : Nat) (q : Int), j ≤ 4 ∧ s = .string x ∧ i = .int .i64 (12 - 4 * j) ∧ x.size ≤ j ∧ p ≤ q ∧ q ≤ p + j ∧ Ways wr g A n c q ∧ Step g w wr) (fun _ i _ => (intOf i + 4).toNat)
  case atStart => exact ⟨_, 0, p, by omega, rfl, rfl, by decide, by omega, by omega, h, Step.refl _ _⟩
  case round =>
    clear h
    obtain ⟨x, j, q, hj, rfl, rfl, hx, hq0, hq1, hw, hst⟩ := hrel
    have hcv := fun c => run_byte_string c 5
    have hj5 : j = 0 ∨ j = 1 ∨ j = 2 ∨ j = 3 ∨ j = 4 := by omega
    clear hj
    rcases hj5 with rfl | rfl | rfl | rfl | rfl
    rotate_right
    · go_wp2_with fail
      go_ret
      exact ⟨_, q, rfl, ⟨x, rfl, by show (L x).length ≤ 4; rw [L_len]; exact hx⟩, hq0, by omega, hw, hst⟩
    all_goals
      go_wp2_with (go_at_call 24; refine (next_any _ g A n c q 3 hw (by omega) (by omega) (by omega)).mono ?_; rintro e w2 ⟨v, q2, rfl, ⟨r, rfl, h0, h1⟩, hq2, hq3, hw2, hst2⟩)
      all_goals
        go_roundw
        case rel => first
          | exact ⟨_, 1, q2, by omega, rfl, rfl, by rw [cat2]; omega, by omega, by omega, hw2.bel ((Below.refl _ _).alloc (Nat.le_refl _) _), (hst.trans hst2).trans (Step.of ((Below.refl _ _).alloc (Nat.le_refl _) _))⟩
          | exact ⟨_, 2, q2, by omega, rfl, rfl, by rw [cat2]; omega, by omega, by omega, hw2.bel ((Below.refl _ _).alloc (Nat.le_refl _) _), (hst.trans hst2).trans (Step.of ((Below.refl _ _).alloc (Nat.le_refl _) _))⟩
          | exact ⟨_, 3, q2, by omega, rfl, rfl, by rw [cat2]; omega, by omega, by omega, hw2.bel ((Below.refl _ _).alloc (Nat.le_refl _) _), (hst.trans hst2).trans (Step.of ((Below.refl _ _).alloc (Nat.le_refl _) _))⟩
          | exact ⟨_, 4, q2, by omega, rfl, rfl, by rw [cat2]; omega, by omega, by omega, hw2.bel ((Below.refl _ _).alloc (Nat.le_refl _) _), (hst.trans hst2).trans (Step.of ((Below.refl _ _).alloc (Nat.le_refl _) _))⟩
          | exact ⟨_, 1, q, by omega, rfl, rfl, by rw [cat2]; omega, by omega, by omega, hw.bel ((Below.refl _ _).alloc (Nat.le_refl _) _), hst.trans (Step.of ((Below.refl _ _).alloc (Nat.le_refl _) _))⟩
          | exact ⟨_, 2, q, by omega, rfl, rfl, by rw [cat2]; omega, by omega, by omega, hw.bel ((Below.refl _ _).alloc (Nat.le_refl _) _), hst.trans (Step.of ((Below.refl _ _).alloc (Nat.le_refl _) _))⟩
          | exact ⟨_, 3, q, by omega, rfl, rfl, by rw [cat2]; omega, by omega, by omega, hw.bel ((Below.refl _ _).alloc (Nat.le_refl _) _), hst.trans (Step.of ((Below.refl _ _).alloc (Nat.le_refl _) _))⟩
          | exact ⟨_, 4, q, by omega, rfl, rfl, by rw [cat2]; omega, by omega, by omega, hw.bel ((Below.refl _ _).alloc (Nat.le_refl _) _), hst.trans (Step.of ((Below.refl _ _).alloc (Nat.le_refl _) _))⟩
        case measure => simp [intOf]
end Go.Proofs.Ytlebdceidmkddaa
