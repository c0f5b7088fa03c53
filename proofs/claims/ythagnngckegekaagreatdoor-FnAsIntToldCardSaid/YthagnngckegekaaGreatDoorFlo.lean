/-
  Floats below 2^53 in size: cut to whole numbers. No program in sight. Conditions: none.
-/
import Derived.Test.YthagnngckegekaaGreatDoorGood
import Derived.Laws.FloatArith
namespace Go.Proofs.YthagnngckegekaaGreatDoor
set_option linter.unusedVariables false

def negF (f : Nat) : Nat := Op.negFloat .f64 f
def sizedF (f : Nat) : Nat := if FloatKind.f64.format.order f 0 == some Ordering.lt then negF f else f
def bigF (f : Nat) : Bool := FloatKind.f64.format.order (sizedF f) 4845873199050653696 == some Ordering.gt || FloatKind.f64.format.order (sizedF f) 4845873199050653696 == some Ordering.eq

theorem read_neg (f : Nat) : Ieee.double.read (negF f) = (Ieee.double.read f).opposite := by
  have e : negF f = f ^^^ 2 ^ 63 := rfl
  have h1 : (f ^^^ 2 ^ 63) % 2 ^ 63 = f % 2 ^ 63 := by
    rw [Nat.xor_mod_two_pow]
    simp
  have h2 : ((f ^^^ 2 ^ 63) / 2 ^ 63 % 2 == 1) = !(f / 2 ^ 63 % 2 == 1) := by
    have a : (f ^^^ 2 ^ 63).testBit 63 = !(f.testBit 63) := by
      rw [Nat.testBit_xor, Nat.testBit_two_pow_self]
      cases f.testBit 63 <;> rfl
    rw [Nat.testBit_eq_decide_div_mod_eq, Nat.testBit_eq_decide_div_mod_eq] at a
    have key : ∀ x : Nat, (x == 1) = decide (x = 1) := fun x => by cases h : (x == 1) <;> simp_all
    rw [key, key]
    exact a
  rw [e]
  unfold Ieee.Format.read
  have hw : Ieee.double.signWeight = 2 ^ 63 := rfl
  rw [hw]
  simp only [h1, h2]
  split
  · rfl
  · split
    · rfl
    · split <;> rfl

theorem mag_lt {f : Nat} {s : Bool} {m : Nat} {i : Int} (h : Ieee.double.read f = .number s m i) : m < 2 ^ 53 := by
  unfold Ieee.Format.read at h
  have hb : Ieee.double.binade = 2 ^ 52 := rfl
  rw [hb] at h
  dsimp only at h
  split at h
  · simp only [Ieee.Datum.number.injEq] at h
    omega
  · split at h
    · simp only [Ieee.Datum.number.injEq] at h
      have := Nat.mod_lt (f % Ieee.double.signWeight) (show 0 < 2 ^ 52 by decide)
      omega
    · split at h <;> cases h

theorem read_zero : Ieee.double.read 0 = .number false 0 (-1074) := rfl
theorem read_big : Ieee.double.read 4845873199050653696 = .number false (2 ^ 52) 1 := rfl

theorem signed_pos (m k : Nat) : Ieee.signed false m k = ((m * 2 ^ k : Nat) : Int) := by
  unfold Ieee.signed
  rw [Nat.shiftLeft_eq]
  rfl
theorem signed_neg (m k : Nat) : Ieee.signed true m k = -((m * 2 ^ k : Nat) : Int) := by
  unfold Ieee.signed
  rw [Nat.shiftLeft_eq]
  rfl

theorem cmp_eq {a b : Int} (h : a = b) : compare a b = Ordering.eq := by subst h; simp [compare, compareOfLessAndEq]
theorem cmp_gt {a b : Int} (h : b < a) : compare a b = Ordering.gt := by
  have h1 : ¬ a < b := by omega
  have h2 : a ≠ b := by omega
  simp [compare, compareOfLessAndEq, h1, h2]
theorem cmp_lt {a b : Int} (h : a < b) : compare a b = Ordering.lt := by simp [compare, compareOfLessAndEq, h]
/-- A number that is below 2^53 in size, without its sign. -/
theorem order_big {m : Nat} {i : Int} (h : (Ieee.Datum.number false m i).order (.number false (2 ^ 52) 1) ≠ some Ordering.gt) (h' : (Ieee.Datum.number false m i).order (.number false (2 ^ 52) 1) ≠ some Ordering.eq) :
    1 ≤ i → m * 2 ^ i.toNat < 2 ^ 53 := by
  intro hi
  have hmin : min i 1 = 1 := by omega
  unfold Ieee.Datum.order at h h'
  dsimp only at h h'
  rw [hmin, signed_pos, signed_pos] at h h'
  have e1 : ((1 : Int) - 1).toNat = 0 := rfl
  rw [e1] at h h'
  have hlt : ((m * 2 ^ (i - 1).toNat : Nat) : Int) < ((2 ^ 52 * 2 ^ 0 : Nat) : Int) := by
    rcases Int.lt_trichotomy ((m * 2 ^ (i - 1).toNat : Nat) : Int) ((2 ^ 52 * 2 ^ 0 : Nat) : Int) with h1 | h1 | h1
    · exact h1
    · exact absurd (by rw [cmp_eq h1]) h'
    · exact absurd (by rw [cmp_gt h1]) h
  have h2 : i.toNat = (i - 1).toNat + 1 := by omega
  rw [h2, Nat.pow_succ]
  have h3 : m * 2 ^ (i - 1).toNat < 2 ^ 52 * 2 ^ 0 := by exact_mod_cast hlt
  have h4 : (2 : Nat) ^ 52 * 2 ^ 0 = 4503599627370496 := by decide
  have h5 : (2 : Nat) ^ 53 = 9007199254740992 := by decide
  rw [← Nat.mul_assoc]
  omega

theorem cut_le (s : Bool) (n d : Nat) : Ieee.Toward.zero.cut s n d ≤ n := by
  unfold Ieee.Toward.cut
  dsimp only
  have := Nat.div_le_self n (1 <<< min d (n.log2 + 2))
  simpa using this

theorem int_of_read {f : Nat} {s : Bool} {m : Nat} {i : Int} (h : Ieee.double.read f = .number s m i) (hm : m < 2 ^ 53) (hi : 1 ≤ i → m * 2 ^ i.toNat < 2 ^ 53) : ∃ z, floatToIntVal .f64 f .i64 = some z := by
  have hr : FloatKind.f64.decode f = .number s m i := h
  have hn : m <<< i.toNat < 2 ^ 53 := by
    rw [Nat.shiftLeft_eq]
    by_cases h1 : 1 ≤ i
    · exact hi h1
    · have : i.toNat = 0 := by omega
      rw [this]; simpa using hm
  have hc := cut_le s (m <<< i.toNat) (-i).toNat
  unfold floatToIntVal
  rw [hr]
  unfold Ieee.Datum.toInt Ieee.Datum.integral
  dsimp only
  generalize Ieee.Toward.zero.cut s (m <<< i.toNat) (-i).toNat = c at hc ⊢
  have h5 : (2 : Nat) ^ 53 = 9007199254740992 := by decide
  have hb : IntKind.i64.min ≤ Ieee.signed s c 0 ∧ Ieee.signed s c 0 ≤ IntKind.i64.max := by
    have e1 : IntKind.i64.min = -9223372036854775808 := rfl
    have e2 : IntKind.i64.max = 9223372036854775807 := rfl
    rw [e1, e2]
    cases s with
    | false => rw [signed_pos]; simp; omega
    | true => rw [signed_neg]; simp; omega
  rw [if_pos hb]
  exact ⟨_, rfl⟩

theorem small_int {f : Nat} (hf : finF f = true) (hb : bigF f = false) : ∃ z, floatToIntVal .f64 f .i64 = some z := by
  have hord : ∀ a b, FloatKind.f64.format.order a b = (Ieee.double.read a).order (Ieee.double.read b) := fun _ _ => rfl
  unfold bigF at hb
  rw [Bool.or_eq_false_iff, hord, read_big] at hb
  obtain ⟨b1, b2⟩ := hb
  have b1' := beq_eq_false_iff_ne.1 b1
  have b2' := beq_eq_false_iff_ne.1 b2
  clear b1 b2
  unfold sizedF at b1' b2'
  rw [hord, read_zero] at b1' b2'
  cases hr : Ieee.double.read f with
  | nan s t =>
    exfalso
    unfold finF nanF at hf
    rw [hord, hr] at hf
    simp [Ieee.Datum.order] at hf
  | infinity s =>
    exfalso
    rw [hr] at b1'
    cases s with
    | false =>
      have e : ((Ieee.Datum.infinity false).order (.number false 0 (-1074)) == some Ordering.lt) = false := rfl
      rw [e] at b1'
      simp only [Bool.false_eq_true, if_false] at b1'
      rw [hr] at b1'
      exact b1' rfl
    | true =>
      have e : ((Ieee.Datum.infinity true).order (.number false 0 (-1074)) == some Ordering.lt) = true := rfl
      rw [e] at b1'
      simp only [if_true] at b1'
      rw [read_neg, hr] at b1'
      exact b1' rfl
  | number s m i =>
    refine int_of_read hr (mag_lt hr) ?_
    rw [hr] at b1' b2'
    cases hc : ((Ieee.Datum.number s m i).order (.number false 0 (-1074)) == some Ordering.lt) with
    | true =>
      rw [hc] at b1' b2'
      simp only [if_true] at b1' b2'
      rw [read_neg, hr] at b1' b2'
      have hs : s = true := by
        cases s with
        | true => rfl
        | false =>
          exfalso
          have h1 := eq_of_beq hc
          unfold Ieee.Datum.order at h1
          dsimp only at h1
          rw [signed_pos, signed_pos] at h1
          have : ¬ ((m * 2 ^ (i - min i (-1074)).toNat : Nat) : Int) < ((0 * 2 ^ (-1074 - min i (-1074)).toNat : Nat) : Int) := by
            rw [Nat.zero_mul]
            exact Int.not_lt.2 (Int.natCast_nonneg _)
          rcases Int.lt_trichotomy ((m * 2 ^ (i - min i (-1074)).toNat : Nat) : Int) ((0 * 2 ^ (-1074 - min i (-1074)).toNat : Nat) : Int) with h2 | h2 | h2
          · exact this h2
          · rw [cmp_eq h2] at h1; cases h1
          · rw [cmp_gt h2] at h1; cases h1
      subst hs
      exact order_big b1' b2'
    | false =>
      rw [hc] at b1' b2'
      simp only [Bool.false_eq_true, if_false] at b1' b2'
      rw [hr] at b1' b2'
      cases s with
      | false => exact order_big b1' b2'
      | true =>
        intro _
        have hm : m = 0 := by
          by_cases h0 : m = 0
          · exact h0
          · exfalso
            have h1 := beq_eq_false_iff_ne.1 hc
            apply h1
            unfold Ieee.Datum.order
            dsimp only
            rw [signed_pos, signed_neg, cmp_lt ?_]
            have : 0 < m * 2 ^ (i - min i (-1074)).toNat := Nat.mul_pos (by omega) (Nat.pow_pos (by omega))
            rw [Nat.zero_mul]
            generalize m * 2 ^ (i - min i (-1074)).toNat = q at this ⊢
            omega
        subst hm
        simp
end Go.Proofs.YthagnngckegekaaGreatDoor
