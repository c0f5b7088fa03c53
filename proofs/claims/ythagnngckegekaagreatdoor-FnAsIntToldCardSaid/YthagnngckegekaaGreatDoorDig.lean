/-
  What numerals and texts without digits are, and what ParseInt makes of them. No program in sight. Conditions: none.
-/
import Derived.Test.YthagnngckegekaaGreatDoorDl
import Derived.Lib.ParseIntB
import Derived.Lib.AtoiAll
namespace Go.Proofs.YthagnngckegekaaGreatDoor
set_option linter.unusedVariables false

def digB (b : UInt8) : Prop := 48 ≤ b.toNat ∧ b.toNat ≤ 57
instance (b : UInt8) : Decidable (digB b) := by unfold digB; infer_instance
/-- A byte that stands in no number. -/
def noB (b : UInt8) : Prop := ¬ digB b ∧ b.toNat ≠ 110 ∧ b.toNat ≠ 78

/-- The number that digits say, whatever stands between them. -/
def decN (acc : Nat) : List UInt8 → Nat
  | [] => acc
  | c :: r => decN (if digB c then acc * 10 + (c.toNat - 48) else acc) r
theorem decN_append (acc : Nat) (a b : List UInt8) : decN acc (a ++ b) = decN (decN acc a) b := by
  induction a generalizing acc with
  | nil => rfl
  | cons c r ih => exact ih _
theorem decN_lt : ∀ (l : List UInt8) (acc m : Nat), acc < 10 ^ m → decN acc l < 10 ^ (m + l.length)
  | [], acc, m, h => by simpa [decN] using h
  | c :: r, acc, m, h => by
    have h1 : (if digB c then acc * 10 + (c.toNat - 48) else acc) < 10 ^ (m + 1) := by
      rw [Nat.pow_succ]
      split
      · rename_i hd; unfold digB at hd; omega
      · omega
    have := decN_lt r _ (m + 1) h1
    rw [show m + 1 + r.length = m + (c :: r).length by simp; omega] at this
    exact this

def body (l : List UInt8) : List UInt8 := if l.head?.map (·.toNat) = some 45 then l.drop 1 else l
/-- A numeral: at most fifteen digits, a minus ahead of them or not. -/
def Numeral (l : List UInt8) : Prop := body l ≠ [] ∧ (body l).length ≤ 15 ∧ ∀ b ∈ body l, digB b
def numV (l : List UInt8) : Int := if l.head?.map (·.toNat) = some 45 then -(decN 0 l : Int) else (decN 0 l : Int)
def Numberless (l : List UInt8) : Prop := ∀ b ∈ l, noB b

theorem parse_digits (M : Nat) : ∀ (l : List UInt8) (acc m : Nat), acc < 10 ^ m → m + l.length ≤ 15 → 10 ^ 15 ≤ M → (∀ b ∈ l, digB b) → Lib.parseUintM M acc l = .ok (decN acc l)
  | [], acc, m, h, hm, hM, hd => rfl
  | c :: r, acc, m, h, hm, hM, hd => by
    have hc : digB c := hd c (by simp)
    have hc' := hc
    unfold digB at hc'
    have hm2 : m + 1 ≤ 15 := by simp at hm; omega
    have h1 : acc * 10 + (c.toNat - 48) < 10 ^ (m + 1) := by rw [Nat.pow_succ]; omega
    have h2 : 10 ^ (m + 1) ≤ 10 ^ 15 := Nat.pow_le_pow_right (by omega) hm2
    have h3 : acc < 1844674407370955162 := by
      have : (10 : Nat) ^ 15 = 1000000000000000 := rfl
      omega
    unfold Lib.parseUintM decN
    rw [if_pos hc', if_neg (by omega), if_neg (by omega), if_pos hc]
    exact parse_digits M r _ (m + 1) h1 (by simp at hm; omega) hM (fun b hb => hd b (by simp [hb]))

theorem numeral_parse {l : List UInt8} (h : Numeral l) : Lib.parseIntB 64 l = .ok (numV l) := by
  obtain ⟨h1, h2, h3⟩ := h
  cases l with
  | nil => simp [body] at h1
  | cons c r =>
    by_cases hc : c.toNat = 45
    · have e : body (c :: r) = r := by simp [body, hc]
      rw [e] at h1 h2 h3
      have hn : ¬ digB c := by unfold digB; omega
      have hp := parse_digits (2 ^ 64 - 1) r 0 0 (by decide) (by omega) (by decide) h3
      have hlt := decN_lt r 0 0 (by decide)
      have hle : 10 ^ (0 + r.length) ≤ 10 ^ 15 := Nat.pow_le_pow_right (by omega) (by omega)
      have h15 : (10 : Nat) ^ 15 = 1000000000000000 := rfl
      have h63 : (2 : Nat) ^ (64 - 1) = 9223372036854775808 := rfl
      have hd : decN 0 (c :: r) = decN 0 r := by simp [decN, hn]
      have hnv : numV (c :: r) = -(decN 0 r : Int) := by simp [numV, hc, hd]
      rw [hnv]
      unfold Lib.parseIntB
      simp only [hc, or_true, if_true]
      rw [Lib.parseUintB, if_neg h1, hp]
      dsimp only
      rw [if_neg (by simp), if_neg (by omega)]
    · have e : body (c :: r) = c :: r := by simp [body, hc]
      rw [e] at h1 h2 h3
      have hd := h3 c (by simp)
      have h43 : ¬ (c.toNat = 43 ∨ c.toNat = 45) := by unfold digB at hd; omega
      have hp := parse_digits (2 ^ 64 - 1) (c :: r) 0 0 (by decide) (by omega) (by decide) h3
      have hlt := decN_lt (c :: r) 0 0 (by decide)
      have hle : 10 ^ (0 + (c :: r).length) ≤ 10 ^ 15 := Nat.pow_le_pow_right (by omega) (by omega)
      have h15 : (10 : Nat) ^ 15 = 1000000000000000 := rfl
      have h63 : (2 : Nat) ^ (64 - 1) = 9223372036854775808 := rfl
      have hnv : numV (c :: r) = (decN 0 (c :: r) : Int) := by simp [numV, hc]
      rw [hnv]
      unfold Lib.parseIntB
      simp only [h43, if_false]
      rw [Lib.parseUintB, if_neg h1, hp]
      dsimp only
      rw [if_neg (by omega), if_neg (by omega), if_neg hc]

theorem numberless_parse {l : List UInt8} (h : Numberless l) : Lib.parseIntB 64 l = Lib.parseIntB 64 [] := by
  have hu : ∀ (m : List UInt8), Numberless m → Lib.parseUintB 64 m = Lib.parseUintB 64 [] := fun m hm => by
    cases m with
    | nil => rfl
    | cons c r =>
      have hc : ¬ digB c := (hm c (by simp)).1
      unfold digB at hc
      conv =>
        lhs
        rw [Lib.parseUintB, if_neg (by simp), Lib.parseUintM, if_neg hc]
      rfl
  cases l with
  | nil => rfl
  | cons c r =>
    have hr : Numberless r := fun b hb => h b (by simp [hb])
    have hx : Lib.parseUintB 64 (if c.toNat = 43 ∨ c.toNat = 45 then r else c :: r) = Lib.parseUintB 64 [] := by
      split
      · exact hu r hr
      · exact hu _ h
    conv =>
      lhs
      unfold Lib.parseIntB
      dsimp only
      rw [hx]
    rfl

theorem numV_lt {l : List UInt8} (h : Numeral l) : -1000000000000000 < numV l ∧ numV l < 1000000000000000 := by
  have hlt : decN 0 l < 10 ^ 15 := by
    obtain ⟨h1, h2, h3⟩ := h
    cases l with
    | nil => simp [body] at h1
    | cons c r =>
      by_cases hc : c.toNat = 45
      · have e : body (c :: r) = r := by simp [body, hc]
        rw [e] at h2
        have hn : ¬ digB c := by unfold digB; omega
        have hd : decN 0 (c :: r) = decN 0 r := by simp [decN, hn]
        rw [hd]
        exact Nat.lt_of_lt_of_le (decN_lt r 0 0 (by decide)) (Nat.pow_le_pow_right (by omega) (by omega))
      · have e : body (c :: r) = c :: r := by simp [body, hc]
        rw [e] at h2
        exact Nat.lt_of_lt_of_le (decN_lt (c :: r) 0 0 (by decide)) (Nat.pow_le_pow_right (by omega) (by omega))
  have h15 : (10 : Nat) ^ 15 = 1000000000000000 := rfl
  unfold numV
  split <;> omega
theorem decN_take_lt {l : List UInt8} (h : Numeral l) (k : Nat) : decN 0 (l.take k) < 10000000000000000 := by
  have hlen : l.length ≤ 16 := by
    obtain ⟨_, h2, _⟩ := h
    unfold body at h2
    split at h2
    · simp at h2; omega
    · omega
  have := decN_lt (l.take k) 0 0 (by decide)
  refine Nat.lt_of_lt_of_le this (Nat.le_trans (Nat.pow_le_pow_right (by omega) (show 0 + (l.take k).length ≤ 16 by simp; omega)) (by decide))
theorem Numeral.ne {l : List UInt8} (h : Numeral l) : l ≠ [] := by
  intro e; subst e; exact h.1 rfl
end Go.Proofs.YthagnngckegekaaGreatDoor
