/-
  digit, ascii, numeral, numeralOf, numberless: what they say of a text's bytes. Conditions: none.
-/
import Derived.Test.YthagnngckegekaaGreatDoorDig
import Derived.WalkSpells
namespace Go.Proofs.YthagnngckegekaaGreatDoor
open Go.ChangeShapes Go.WideShapes Go.ChangeAt Go.RowKit
set_option linter.unusedVariables false
set_option linter.unusedSimpArgs false

theorem digit_any (b : UInt8) (w : World) : Calls Tryz.prog 19 #[.int .u8 b.toNat] w fun e w' => e = .returned (.bool (decide (digB b))) ∧ w = w' := by
  by_cases h1 : 48 ≤ b.toNat
  · by_cases h2 : b.toNat ≤ 57
    · have e : decide (digB b) = true := decide_eq_true ⟨h1, h2⟩
      rw [e]
      have i1 : (48 : Int) ≤ (b.toNat : Int) := by omega
      have i2 : (b.toNat : Int) ≤ 57 := by omega
      clear e h1 h2
      go_enter Tryz.func19, Tryz.ntmps19
      go_wp2
      go_ret
      exact ⟨rfl, rfl⟩
    · have e : decide (digB b) = false := decide_eq_false (fun h => h2 h.2)
      rw [e]
      have i1 : (48 : Int) ≤ (b.toNat : Int) := by omega
      have i2 : ¬ (b.toNat : Int) ≤ 57 := by omega
      clear e h1 h2
      go_enter Tryz.func19, Tryz.ntmps19
      go_wp2
      go_ret
      exact ⟨rfl, rfl⟩
  · have e : decide (digB b) = false := decide_eq_false (fun h => h1 h.1)
    rw [e]
    have i1 : ¬ (48 : Int) ≤ (b.toNat : Int) := by omega
    clear e h1
    go_enter Tryz.func19, Tryz.ntmps19
    go_wp2
    go_ret
    exact ⟨rfl, rfl⟩

set_option maxHeartbeats 1000000 in
theorem ascii_any (s : ByteArray) (w : World) (hs : s.size ≤ 9223372036854775807) :
    Calls Tryz.prog 20 #[.string s] w (SomeBool (fun _ => True) w) := by
  go_enter Tryz.func20, Tryz.ntmps20
  go_wp2
  go_loop [3] (fun i => ∃ k : Nat, k ≤ s.size ∧ i = .int .i64 k) (fun i => s.size - (intOf i).toNat)
  case atStart => exact ⟨0, Nat.zero_le _, rfl⟩
  case round =>
    obtain ⟨k, hk, rfl⟩ := hrel
    by_cases hlt : k < s.size
    · by_cases q1 : ((s[k]'hlt).toNat : Int) < 32
      · go_wp2
        go_ret
        exact ⟨false, rfl, trivial, Below.refl _ _⟩
      by_cases q2 : ((s[k]'hlt).toNat : Int) > 126
      · go_wp2
        go_ret
        exact ⟨false, rfl, trivial, Below.refl _ _⟩
      rcases Bool.eq_false_or_eq_true (((s[k]'hlt).toNat : Int) == 34) with q3 | q3
      · go_wp2
        go_ret
        exact ⟨false, rfl, trivial, Below.refl _ _⟩
      rcases Bool.eq_false_or_eq_true (((s[k]'hlt).toNat : Int) == 92) with q4 | q4
      · go_wp2
        go_ret
        exact ⟨false, rfl, trivial, Below.refl _ _⟩
      go_wp2
      go_round
      case rel => exact ⟨k + 1, by omega, by go_num⟩
      case measure => simp [intOf]; omega
    · go_wp2
      go_ret
      exact ⟨true, rfl, trivial, Below.refl _ _⟩

set_option maxHeartbeats 1000000 in
theorem numberless_any (s : ByteArray) (w : World) (hs : s.size ≤ 9223372036854775807) :
    Calls Tryz.prog 10 #[.string s] w (SomeBool (fun r => r = true → Numberless (L s)) w) := by
  go_enter Tryz.func10, Tryz.ntmps10
  go_wp2
  go_loop [3] (fun i => ∃ k : Nat, k ≤ s.size ∧ i = .int .i64 k ∧ Hid (Numberless ((L s).take k))) (fun i => s.size - (intOf i).toNat)
  case atStart => exact ⟨0, Nat.zero_le _, rfl, by simp [Hid, Numberless]⟩
  case round =>
    obtain ⟨k, hk, rfl, hh⟩ := hrel
    by_cases hlt : k < s.size
    · have hg := Lib.hid (L_get hlt)
      by_cases hp : noB (s[k]'hlt)
      · have hh' : Hid (Numberless ((L s).take (k + 1))) := by
          show ∀ b ∈ _, _
          rw [take_get hg.out]
          intro b hb
          rcases List.mem_append.1 hb with hb | hb
          · exact hh.out b hb
          · rw [List.mem_singleton.1 hb]; exact hp
        have hd : decide (digB (s[k]'hlt)) = false := decide_eq_false hp.1
        have q1 : (((s[k]'hlt).toNat : Int) == 110) = false := beq_eq_false_iff_ne.2 (by have := hp.2.1; omega)
        have q2 : (((s[k]'hlt).toNat : Int) == 78) = false := beq_eq_false_iff_ne.2 (by have := hp.2.2; omega)
        clear hp hh hg
        go_wp2_with (go_at_call 19; refine (digit_any _ _).mono ?_; rintro e w2 ⟨rfl, rfl⟩; rw [hd])
        go_round
        case rel => exact ⟨k + 1, by omega, by go_num, hh'⟩
        case measure => simp [intOf]; omega
      · by_cases hq : digB (s[k]'hlt)
        · have hd : decide (digB (s[k]'hlt)) = true := decide_eq_true hq
          clear hp hh hg hq
          go_wp2_with (go_at_call 19; refine (digit_any _ _).mono ?_; rintro e w2 ⟨rfl, rfl⟩; rw [hd])
          go_ret
          exact ⟨false, rfl, fun h => (by cases h), Below.refl _ _⟩
        · have hd : decide (digB (s[k]'hlt)) = false := decide_eq_false hq
          have hr : (((s[k]'hlt).toNat : Int) == 110) = true ∨ ((((s[k]'hlt).toNat : Int) == 110) = false ∧ (((s[k]'hlt).toNat : Int) == 78) = true) := by
            unfold noB at hp
            by_cases h1 : (s[k]'hlt).toNat = 110
            · left; rw [beq_iff_eq]; omega
            · by_cases h2 : (s[k]'hlt).toNat = 78
              · right; exact ⟨beq_eq_false_iff_ne.2 (by omega), by rw [beq_iff_eq]; omega⟩
              · exact absurd ⟨hq, h1, h2⟩ hp
          clear hp hh hg hq
          rcases hr with q | ⟨q, q'⟩
          all_goals
            go_wp2_with (go_at_call 19; refine (digit_any _ _).mono ?_; rintro e w2 ⟨rfl, rfl⟩; rw [hd])
            go_ret
            exact ⟨false, rfl, fun h => (by cases h), Below.refl _ _⟩
    · have hfin := hh.out
      rw [take_all (by rw [L_len]; exact hlt)] at hfin
      have hfin' := Lib.hid hfin
      clear hfin hh
      go_wp2_with fail
      refine (ascii_any s w hs).mono ?_
      rintro e w2 ⟨r, rfl, _, hb2⟩
      go_wp2_with fail
      go_ret
      exact ⟨r, rfl, fun _ => hfin'.out, hb2⟩
end Go.Proofs.YthagnngckegekaaGreatDoor
