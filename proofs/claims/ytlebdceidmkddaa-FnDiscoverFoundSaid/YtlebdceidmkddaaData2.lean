/-
  data: of which kinds a tree is. Conditions: none.
-/
import Derived.Test.YtlebdceidmkddaaData
namespace Go.Proofs.Ytlebdceidmkddaa
open Go.ChangeShapes Go.WideShapes Go.ChangeAt Go.RowKit
set_option linter.unusedVariables false

set_option maxHeartbeats 1000000 in
theorem data_scalar (k n : Int) (f : Nat) (s : ByteArray) (l : List V) (ks : List ByteArray) (A B : Option Addr) (ca cb : Nat) (w : World) (hb : Bds ⟨k, n, f, s, l, ks⟩ ca cb) (hsc : k = 1 ∨ k = 2 ∨ k = 3 ∨ k = 5) :
    Calls Try.prog 14 #[.agg #[.int .i64 k, .int .i64 n, .float .f64 f, .string s, .slice A l.length ca, .slice B ks.length cb]] w
      (SomeBool (fun r => r = true → (V.mk k n f s l ks).Good) w) := by
  obtain ⟨_, _, hf, hs, _, _, _, _, hla, hlb⟩ := hb
  dsimp only at *
  have hbits := run_bits f
  by_cases hks : 0 < ks.length
  · have hks1 : ¬ ks = [] := by rintro rfl; simp at hks
    rcases hsc with rfl | rfl | rfl | rfl
    all_goals
      go_enter Try.func14, Try.ntmps14
      go_wp2_with fail
      all_goals
        go_ret
        exact ⟨false, rfl, fun h => (by cases h), (Below.refl _ _).alloc (Nat.le_refl _) _⟩
  · obtain rfl : ks = [] := by cases ks with | nil => rfl | cons x r => simp at hks
    by_cases hl : 0 < l.length
    · have hl1 : ¬ l = [] := by rintro rfl; simp at hl
      rcases hsc with rfl | rfl | rfl | rfl
      all_goals
        go_enter Try.func14, Try.ntmps14
        go_wp2_with fail
        all_goals
          go_ret
          exact ⟨false, rfl, fun h => (by cases h), (Below.refl _ _).alloc (Nat.le_refl _) _⟩
    · obtain rfl : l = [] := by cases l with | nil => rfl | cons x r => simp at hl
      rcases hsc with rfl | rfl | rfl | rfl
      all_goals
        go_enter Try.func14, Try.ntmps14
        go_wp2_with (go_at_call 22; refine (utf8_any _ _).mono ?_; rintro e w2 ⟨b, rfl, hb2⟩)
        all_goals
          go_ret
          refine ⟨_, rfl, fun h => ?_, ?_⟩
          · first | (simp [V.Good, V.Goods]; done) | (cases h; done)
          · first | exact (Below.refl _ _).alloc (Nat.le_refl _) _ | exact below_call ((Below.refl _ _).alloc (Nat.le_refl _) _) (by simp) hb2
end Go.Proofs.Ytlebdceidmkddaa
