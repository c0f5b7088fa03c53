/-
  letter: a character of a string is said with a backslash, or as it stands. Conditions: none.
-/
import Derived.Test.YtlebdceidmkddaaHex
namespace Go.Proofs.Ytlebdceidmkddaa
open Go.ChangeShapes Go.WideShapes Go.ChangeAt Go.RowKit
set_option linter.unusedVariables false

/-- A backslash, or nothing below a blank and no quotation mark. -/
def Piece (l : List UInt8) : Prop := (92 ∈ l ∨ ∀ b ∈ l, 32 ≤ b.toNat ∧ b.toNat ≠ 34) ∧ l.length ≤ 6

theorem piece_encode (c : Int) (h0 : 32 ≤ c) (h1 : c ≠ 34) : Piece (L (Utf8.encode c)) := by
  have hlen : (L (Utf8.encode c)).length ≤ 6 := by
    unfold Utf8.encode
    dsimp only
    repeat' split
    all_goals (simp only [L, List.length_cons, List.length_nil]; omega)
  refine ⟨Or.inr ?_, hlen⟩
  have hc : ∀ k : Nat, k < 256 → (UInt8.ofNat k).toNat = k := fun k hk => by rw [UInt8.toNat_ofNat']; omega
  have key : ∀ e : Nat, (32 ≤ e ∧ e ≠ 34 ∧ e ≤ 1114111) → ∀ b ∈ L (if e < 0x80 then (⟨#[UInt8.ofNat e]⟩ : ByteArray)
      else if e < 0x800 then ⟨#[UInt8.ofNat (0xC0 + e / 64), UInt8.ofNat (0x80 + e % 64)]⟩
      else if e < 0x10000 then ⟨#[UInt8.ofNat (0xE0 + e / 4096), UInt8.ofNat (0x80 + e / 64 % 64), UInt8.ofNat (0x80 + e % 64)]⟩
      else ⟨#[UInt8.ofNat (0xF0 + e / 262144), UInt8.ofNat (0x80 + e / 4096 % 64), UInt8.ofNat (0x80 + e / 64 % 64), UInt8.ofNat (0x80 + e % 64)]⟩), 32 ≤ b.toNat ∧ b.toNat ≠ 34 := by
    intro e ⟨h1, h2, h3⟩ b hb
    have mod : ∀ k, 32 ≤ (UInt8.ofNat (0x80 + k % 64)).toNat ∧ (UInt8.ofNat (0x80 + k % 64)).toNat ≠ 34 := fun k => by rw [hc _ (by omega)]; omega
    split at hb
    · change b ∈ [_] at hb; rw [List.mem_singleton.1 hb, hc _ (by omega)]; omega
    split at hb
    · change b ∈ [_, _] at hb
      simp only [List.mem_cons, List.not_mem_nil, or_false] at hb
      rcases hb with rfl | rfl
      · rw [hc _ (by omega)]; omega
      · exact mod _
    split at hb
    · change b ∈ [_, _, _] at hb
      simp only [List.mem_cons, List.not_mem_nil, or_false] at hb
      rcases hb with rfl | rfl | rfl
      · rw [hc _ (by omega)]; omega
      · exact mod _
      · exact mod _
    · change b ∈ [_, _, _, _] at hb
      simp only [List.mem_cons, List.not_mem_nil, or_false] at hb
      rcases hb with rfl | rfl | rfl | rfl
      · rw [hc _ (by omega)]; omega
      · exact mod _
      · exact mod _
      · exact mod _
  intro b hb
  refine key (if Utf8.valid c then c.toNat else Utf8.runeError) ?_ b hb
  split
  · rename_i hv
    simp [Utf8.valid] at hv
    omega
  · unfold Utf8.runeError; omega

theorem piece_const (s : ByteArray) (h : 92 ∈ s.data.toList ∧ s.data.toList.length ≤ 6) : Piece (L s) := ⟨Or.inl h.1, h.2⟩
theorem piece_u (s : ByteArray) (h : s.size ≤ 4) : Piece (L (({ data := #[92, 117] } : ByteArray) ++ s)) := by
  rw [L_cat]
  exact ⟨Or.inl (by simp [L]), by rw [List.length_append, L_len s]; simp [L]; omega⟩

set_option maxHeartbeats 4000000 in
theorem letter_any (w : World) (g : Nat) (A : Option Addr) (n k : Nat) (p c : Int) (h : Ways w g A n k p) (hp : p ≤ 4611686018427380000) (hc0 : 0 ≤ c) (hc1 : c ≤ 2147483647) :
    Calls Try.prog 25 #[.pointer (some ⟨g, 0, none⟩), .int .i32 c] w (Moved (IsStr Piece) g A n k p 5 w) := by
  by_cases hs : c = 34 ∨ c = 92 ∨ c = 47 ∨ c = 8 ∨ c = 12 ∨ c = 10 ∨ c = 13 ∨ c = 9
  · rcases hs with rfl | rfl | rfl | rfl | rfl | rfl | rfl | rfl
    all_goals
      go_enter Try.func25, Try.ntmps25
      go_wp2_with fail
      refine (next_any _ g A n k p 5 h (by omega) (by omega) (by omega)).mono ?_
      rintro e w2 ⟨v, q2, rfl, ⟨r, rfl, h0, h1⟩, hq2, hq3, hw2, hst2⟩
      have hr : r = 0 ∨ r = 1 ∨ r = 2 ∨ r = 3 ∨ r = 4 := by omega
      clear h0 h1
      rcases hr with rfl | rfl | rfl | rfl | rfl
      all_goals
        go_wp2_with (go_at_call 27; refine (hex_any _ g A n k q2 _ hw2 (by omega) (by omega) (by omega)).mono ?_; rintro e w3 ⟨v, q3, rfl, ⟨s, rfl, hsl⟩, hq4, hq5, hw3, hst3⟩; have hss : s.size ≤ 4 := by rw [← L_len]; exact hsl)
        all_goals
          go_ret
          first
            | exact ⟨_, q2, rfl, ⟨_, rfl, piece_const _ (by decide)⟩, hq2, by omega, hw2, hst2⟩
            | exact ⟨_, q2, rfl, ⟨_, rfl, piece_encode _ (by omega) (by omega)⟩, hq2, by omega, hw2, hst2⟩
            | exact ⟨_, q3, rfl, ⟨_, rfl, piece_u s hss⟩, by omega, by omega, hw3, hst2.trans hst3⟩
  · have e1 : (c == 34) = false := by rw [beq_eq_false_iff_ne]; omega
    have e2 : (c == 92) = false := by rw [beq_eq_false_iff_ne]; omega
    have e3 : (c == 47) = false := by rw [beq_eq_false_iff_ne]; omega
    have e4 : (c == 8) = false := by rw [beq_eq_false_iff_ne]; omega
    have e5 : (c == 12) = false := by rw [beq_eq_false_iff_ne]; omega
    have e6 : (c == 10) = false := by rw [beq_eq_false_iff_ne]; omega
    have e7 : (c == 13) = false := by rw [beq_eq_false_iff_ne]; omega
    have e8 : (c == 9) = false := by rw [beq_eq_false_iff_ne]; omega
    have n34 : c ≠ 34 := by omega
    have n34' := Lib.hid n34
    clear hs n34
    by_cases hlo : c < 32
    all_goals by_cases hhi : c < 65536
    rotate_left
    · omega
    all_goals
      go_enter Try.func25, Try.ntmps25
      go_wp2_with fail
      refine (next_any _ g A n k p 5 h (by omega) (by omega) (by omega)).mono ?_
      rintro e w2 ⟨v, q2, rfl, ⟨r, rfl, h0, h1⟩, hq2, hq3, hw2, hst2⟩
      have hr : r = 0 ∨ r = 1 ∨ r = 2 ∨ r = 3 ∨ r = 4 := by omega
      clear h0 h1
      rcases hr with rfl | rfl | rfl | rfl | rfl
      all_goals
        go_wp2_with (go_at_call 27; refine (hex_any _ g A n k q2 _ hw2 (by omega) (by omega) (by omega)).mono ?_; rintro e w3 ⟨v, q3, rfl, ⟨s, rfl, hsl⟩, hq4, hq5, hw3, hst3⟩; have hss : s.size ≤ 4 := by rw [← L_len]; exact hsl)
        all_goals
          go_ret
          first
            | exact ⟨_, q2, rfl, ⟨_, rfl, piece_encode _ (by omega) n34'.out⟩, hq2, by omega, hw2, hst2⟩
            | exact ⟨_, q3, rfl, ⟨_, rfl, piece_u s hss⟩, by omega, by omega, hw3, hst2.trans hst3⟩
end Go.Proofs.Ytlebdceidmkddaa
