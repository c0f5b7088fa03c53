/-
  alike at leaves. Conditions: none.
-/
import Derived.Test.YtpdcoipfpffhnaaMatch
import Derived.Test.YtpdcoipfpffhnaaMember
namespace Go.Proofs.Ytpdcoipfpffhnaa
open Go.ChangeShapes Go.WideShapes Go.ChangeAt Go.RowKit
set_option linter.unusedVariables false

theorem below2 (w : World) (o o' : Obj) : Below w.heap.size w ((w.alloc o).alloc o') := ((Below.refl _ _).alloc (Nat.le_refl _) _).alloc (by simp) _

set_option maxRecDepth 100000 in
set_option maxHeartbeats 2000000 in
theorem alike_ne (ka na kb nb : Int) (fa fb : Nat) (sa sb : ByteArray) (A B A' B' : Option Addr) (n1 n2 n3 n4 ca cb ca' cb' : Nat) (w : World) (P : Prop) (hP : ¬ P) (h : ka ≠ kb) :
    Calls Try.prog 32 #[.agg #[.int .i64 ka, .int .i64 na, .float .f64 fa, .string sa, .slice A n1 ca, .slice B n2 cb], .agg #[.int .i64 kb, .int .i64 nb, .float .f64 fb, .string sb, .slice A' n3 ca', .slice B' n4 cb']] w (IffB P w) := by
  have h1 : (ka != kb) = true := bne_iff_ne.2 h
  have hp' := Lib.hid (not_iff P hP)
  clear h hP
  go_enter Try.func32, Try.ntmps32
  go_wp2_with fail
  go_ret
  exact ⟨false, rfl, hp'.out, below2 _ _ _⟩

set_option maxRecDepth 100000 in
set_option maxHeartbeats 2000000 in
theorem alike_eq (k na nb : Int) (fa fb : Nat) (sa sb : ByteArray) (A B A' B' : Option Addr) (n1 n2 n3 n4 ca cb ca' cb' : Nat) (w : World) (h : k = 1 ∨ k = 2 ∨ k = 3 ∨ k = 4 ∨ k = 5) :
    Calls Try.prog 32 #[.agg #[.int .i64 k, .int .i64 na, .float .f64 fa, .string sa, .slice A n1 ca, .slice B n2 cb], .agg #[.int .i64 k, .int .i64 nb, .float .f64 fb, .string sb, .slice A' n3 ca', .slice B' n4 cb']] w
      (IffB ((k = 2 ∨ k = 3 → na = nb) ∧ (k = 4 → (FloatKind.f64.format.order fa fb == some Ordering.eq) = true) ∧ (k = 5 ∨ k = 6 → sa = sb)) w) := by
  rcases h with rfl | rfl | rfl | rfl | rfl
  · go_enter Try.func32, Try.ntmps32
    go_wp2_with fail
    go_ret
    exact ⟨true, rfl, by simp, below2 _ _ _⟩
  · by_cases hn : na = nb
    · have h1 : (na == nb) = true := beq_iff_eq.2 hn
      have hn' := Lib.hid hn
      clear hn
      go_enter Try.func32, Try.ntmps32
      go_wp2_with fail
      go_ret
      exact ⟨true, rfl, by simp [hn'.out], below2 _ _ _⟩
    · have h1 : (na == nb) = false := beq_eq_false_iff_ne.2 hn
      have hn' := Lib.hid hn
      clear hn
      go_enter Try.func32, Try.ntmps32
      go_wp2_with fail
      go_ret
      exact ⟨false, rfl, by simp [hn'.out], below2 _ _ _⟩
  · by_cases hn : na = nb
    · have h1 : (na == nb) = true := beq_iff_eq.2 hn
      have hn' := Lib.hid hn
      clear hn
      go_enter Try.func32, Try.ntmps32
      go_wp2_with fail
      go_ret
      exact ⟨true, rfl, by simp [hn'.out], below2 _ _ _⟩
    · have h1 : (na == nb) = false := beq_eq_false_iff_ne.2 hn
      have hn' := Lib.hid hn
      clear hn
      go_enter Try.func32, Try.ntmps32
      go_wp2_with fail
      go_ret
      exact ⟨false, rfl, by simp [hn'.out], below2 _ _ _⟩
  · cases hf : (FloatKind.f64.format.order fa fb == some Ordering.eq) with
    | true =>
      have hf' := Lib.hid hf
      go_enter Try.func32, Try.ntmps32
      go_wp2_with fail
      go_ret
      exact ⟨true, rfl, by simp, below2 _ _ _⟩
    | false =>
      go_enter Try.func32, Try.ntmps32
      go_wp2_with fail
      go_ret
      exact ⟨false, rfl, by simp, below2 _ _ _⟩
  · cases hbc : (sa.toList == sb.toList) with
    | true =>
      have hP : Hid (sa = sb) := (Lib.bytes_beq_iff _ _).1 hbc
      go_enter Try.func32, Try.ntmps32
      go_wp2_with fail
      go_ret
      exact ⟨true, rfl, by simp [hP.out], below2 _ _ _⟩
    | false =>
      have hP : Hid (sa ≠ sb) := (Lib.bytes_beq_false_iff _ _).1 hbc
      go_enter Try.func32, Try.ntmps32
      go_wp2_with fail
      go_ret
      exact ⟨false, rfl, by simp [hP.out], below2 _ _ _⟩

theorem alike_leaf (a b : V) (A B A' B' : Option Addr) (ca cb ca' cb' : Nat) (w : World) (ha : a.Ok) (h : a.kind = b.kind → a.kind ≠ 7 ∧ a.kind ≠ 8) :
    Calls Try.prog 32 #[.agg #[.int .i64 a.kind, .int .i64 a.n, .float .f64 a.f, .string a.s, .slice A a.l.length ca, .slice B a.keys.length cb], .agg #[.int .i64 b.kind, .int .i64 b.n, .float .f64 b.f, .string b.s, .slice A' b.l.length ca', .slice B' b.keys.length cb']] w (IffB (LAlike a b) w) := by
  by_cases hk : a.kind = b.kind
  · obtain ⟨h7, h8⟩ := h hk
    have h5 : a.kind = 1 ∨ a.kind = 2 ∨ a.kind = 3 ∨ a.kind = 4 ∨ a.kind = 5 := by cases ha <;> omega
    have := alike_eq a.kind a.n b.n a.f b.f a.s b.s A B A' B' a.l.length a.keys.length b.l.length b.keys.length ca cb ca' cb' w h5
    rw [← hk]
    refine this.mono ?_
    rintro e w' ⟨r, rfl, hr, hb⟩
    exact ⟨r, rfl, hr.trans ⟨fun h => ⟨hk, h.1, h.2.1, h.2.2⟩, fun h => h.2⟩, hb⟩
  · exact alike_ne _ _ _ _ _ _ _ _ _ _ _ _ _ _ _ _ _ _ _ _ w _ (fun h => hk h.1) hk
end Go.Proofs.Ytpdcoipfpffhnaa
