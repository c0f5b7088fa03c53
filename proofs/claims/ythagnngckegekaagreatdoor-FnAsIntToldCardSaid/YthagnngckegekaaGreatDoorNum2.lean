/-
  numeral, numeralOf: the whole number that a text says. Conditions: none.
-/
import Derived.Test.YthagnngckegekaaGreatDoorNums
namespace Go.Proofs.YthagnngckegekaaGreatDoor
open Go.ChangeShapes Go.WideShapes Go.ChangeAt Go.RowKit
set_option linter.unusedVariables false
set_option linter.unusedSimpArgs false

theorem head_lt {s : ByteArray} (h0 : 0 < s.size) : (L s).head? = some (s[0]'h0) := by rw [List.head?_eq_getElem?]; exact L_get h0
theorem body_minus {s : ByteArray} (h0 : 0 < s.size) (h : (((s[0]'h0).toNat : Int) == 45) = true) : body (L s) = L (s.extract 1 s.size) := by
  have e : (s[0]'h0).toNat = 45 := by have := beq_iff_eq.1 h; omega
  have hl := L_len s
  unfold body
  rw [head_lt h0, if_pos (by simp [e]), L_extract, List.take_of_length_le (by simp; omega)]
theorem body_plain {s : ByteArray} (h0 : 0 < s.size) (h : (((s[0]'h0).toNat : Int) == 45) = false) : body (L s) = L s := by
  have e : (s[0]'h0).toNat ≠ 45 := by have := beq_eq_false_iff_ne.1 h; omega
  unfold body
  rw [head_lt h0, if_neg (by simpa using e)]

set_option maxHeartbeats 2000000 in
theorem numeral_any (s : ByteArray) (w : World) (hs : s.size ≤ 9223372036854775807) :
    Calls Tryz.prog 8 #[.string s] w (SomeBool (fun r => r = true → Numeral (L s)) w) := by
  by_cases h0 : 0 < s.size
  rotate_left
  · have e0 : (((s.size : Nat) : Int) == 0) = true := by rw [beq_iff_eq]; omega
    go_enter Tryz.func8, Tryz.ntmps8
    go_wp2
    all_goals (go_ret; exact ⟨false, rfl, fun h => (by cases h), Below.refl _ _⟩)
  rcases Bool.eq_false_or_eq_true (((s[0]'h0).toNat : Int) == 45) with hm | hm
  · have hx : Hid ((s.extract 1 s.size).size = s.size - 1) := by show _ = _; simp
    have hbo : Hid (body (L s) = L (s.extract 1 s.size)) := body_minus h0 hm
    rcases Bool.eq_false_or_eq_true ((((s.size - 1 : Nat)) : Int) == 0) with z | z
    · go_enter Tryz.func8, Tryz.ntmps8
      go_wp2
      all_goals (go_ret; exact ⟨false, rfl, fun h => (by cases h), Below.refl _ _⟩)
    by_cases hq : (15 : Int) < ((s.size - 1 : Nat) : Int)
    · go_enter Tryz.func8, Tryz.ntmps8
      go_wp2
      all_goals (go_ret; exact ⟨false, rfl, fun h => (by cases h), Below.refl _ _⟩)
    have zn : 0 < s.size - 1 := by have := beq_eq_false_iff_ne.1 z; omega
    have zi : (0 : Int) < ((s.size - 1 : Nat) : Int) := by omega
    have hne : Hid (body (L s) ≠ []) := by
      show _ ≠ _
      rw [hbo.out]
      intro e
      have := congrArg List.length e
      rw [L_len, List.length_nil] at this
      have hxo := hx.out
      have := beq_eq_false_iff_ne.1 z
      omega
    have hle : Hid ((body (L s)).length ≤ 15) := by
      show _ ≤ _
      rw [hbo.out, L_len]
      have hxo := hx.out
      omega
    go_enter Tryz.func8, Tryz.ntmps8
    go_wp2
    all_goals first
    | (go_ret; exact ⟨false, rfl, fun h => (by cases h), Below.refl _ _⟩)
    | skip
    all_goals
      go_loop [4] (fun i => ∃ k : Nat, k ≤ s.size - 1 ∧ i = .int .i64 k ∧ Hid (∀ b ∈ (L (s.extract 1 s.size)).take k, digB b)) (fun i => s.size - 1 - (intOf i).toNat)
      case atStart => exact ⟨0, Nat.zero_le _, rfl, by simp [Hid]⟩
      case round =>
        obtain ⟨k, hk, rfl, hh⟩ := hrel
        by_cases hlt : k < s.size - 1
        · have hlt2 : k < (s.extract 1 s.size).size := by first | exact hlt | (have := hx.out; omega)
          have hg := Lib.hid (L_get hlt2)
          rcases Bool.eq_false_or_eq_true (decide (digB ((s.extract 1 s.size)[k]'hlt2))) with hd | hd
          · have hh' : Hid (∀ b ∈ (L (s.extract 1 s.size)).take (k + 1), digB b) := by
              show ∀ b ∈ _, _
              rw [take_get hg.out]
              intro b hb
              rcases List.mem_append.1 hb with hb | hb
              · exact hh.out b hb
              · rw [List.mem_singleton.1 hb]; exact of_decide_eq_true hd
            clear hh hg
            go_wp2_with (go_at_call 19; refine (digit_any _ _).mono ?_; rintro e w2 ⟨rfl, rfl⟩; rw [hd])
            go_round
            case rel => exact ⟨k + 1, by omega, by go_num, hh'⟩
            case measure => simp [intOf]; omega
          · clear hh hg
            go_wp2_with (go_at_call 19; refine (digit_any _ _).mono ?_; rintro e w2 ⟨rfl, rfl⟩; rw [hd])
            go_ret
            exact ⟨false, rfl, fun h => (by cases h), Below.refl _ _⟩
        · have hfin := hh.out
          rw [take_all (by rw [L_len]; first | exact hlt | (have := hx.out; omega))] at hfin
          have hfin' : Hid (Numeral (L s)) := ⟨hne.out, hle.out, by rw [hbo.out]; exact hfin⟩
          clear hfin hh
          go_wp2
          go_ret
          exact ⟨true, rfl, fun _ => hfin'.out, Below.refl _ _⟩
  · have hx : Hid (s.size = s.size) := rfl
    have hbo : Hid (body (L s) = L s) := body_plain h0 hm
    rcases Bool.eq_false_or_eq_true ((((s.size : Nat)) : Int) == 0) with z | z
    · go_enter Tryz.func8, Tryz.ntmps8
      go_wp2
      all_goals (go_ret; exact ⟨false, rfl, fun h => (by cases h), Below.refl _ _⟩)
    by_cases hq : (15 : Int) < ((s.size : Nat) : Int)
    · go_enter Tryz.func8, Tryz.ntmps8
      go_wp2
      all_goals (go_ret; exact ⟨false, rfl, fun h => (by cases h), Below.refl _ _⟩)
    have zn : 0 < s.size := by have := beq_eq_false_iff_ne.1 z; omega
    have zi : (0 : Int) < ((s.size : Nat) : Int) := by omega
    have hne : Hid (body (L s) ≠ []) := by
      show _ ≠ _
      rw [hbo.out]
      intro e
      have := congrArg List.length e
      rw [L_len, List.length_nil] at this
      have hxo := hx.out
      have := beq_eq_false_iff_ne.1 z
      omega
    have hle : Hid ((body (L s)).length ≤ 15) := by
      show _ ≤ _
      rw [hbo.out, L_len]
      have hxo := hx.out
      omega
    go_enter Tryz.func8, Tryz.ntmps8
    go_wp2
    all_goals first
    | (go_ret; exact ⟨false, rfl, fun h => (by cases h), Below.refl _ _⟩)
    | skip
    all_goals
      go_loop [4] (fun i => ∃ k : Nat, k ≤ s.size ∧ i = .int .i64 k ∧ Hid (∀ b ∈ (L s).take k, digB b)) (fun i => s.size - (intOf i).toNat)
      case atStart => exact ⟨0, Nat.zero_le _, rfl, by simp [Hid]⟩
      case round =>
        obtain ⟨k, hk, rfl, hh⟩ := hrel
        by_cases hlt : k < s.size
        · have hlt2 : k < s.size := by first | exact hlt | (have := hx.out; omega)
          have hg := Lib.hid (L_get hlt2)
          rcases Bool.eq_false_or_eq_true (decide (digB (s[k]'hlt2))) with hd | hd
          · have hh' : Hid (∀ b ∈ (L s).take (k + 1), digB b) := by
              show ∀ b ∈ _, _
              rw [take_get hg.out]
              intro b hb
              rcases List.mem_append.1 hb with hb | hb
              · exact hh.out b hb
              · rw [List.mem_singleton.1 hb]; exact of_decide_eq_true hd
            clear hh hg
            go_wp2_with (go_at_call 19; refine (digit_any _ _).mono ?_; rintro e w2 ⟨rfl, rfl⟩; rw [hd])
            go_round
            case rel => exact ⟨k + 1, by omega, by go_num, hh'⟩
            case measure => simp [intOf]; omega
          · clear hh hg
            go_wp2_with (go_at_call 19; refine (digit_any _ _).mono ?_; rintro e w2 ⟨rfl, rfl⟩; rw [hd])
            go_ret
            exact ⟨false, rfl, fun h => (by cases h), Below.refl _ _⟩
        · have hfin := hh.out
          rw [take_all (by rw [L_len]; first | exact hlt | (have := hx.out; omega))] at hfin
          have hfin' : Hid (Numeral (L s)) := ⟨hne.out, hle.out, by rw [hbo.out]; exact hfin⟩
          clear hfin hh
          go_wp2
          go_ret
          exact ⟨true, rfl, fun _ => hfin'.out, Below.refl _ _⟩
end Go.Proofs.YthagnngckegekaaGreatDoor

namespace Go.Proofs.YthagnngckegekaaGreatDoor
open Go.ChangeShapes Go.WideShapes Go.ChangeAt Go.RowKit
set_option linter.unusedVariables false
set_option linter.unusedSimpArgs false

theorem decN_snoc {l : List UInt8} {k : Nat} {b : UInt8} (h : l[k]? = some b) : decN 0 (l.take (k + 1)) = if digB b then decN 0 (l.take k) * 10 + (b.toNat - 48) else decN 0 (l.take k) := by
  rw [take_get h, decN_append]
  rfl

set_option maxHeartbeats 2000000 in
theorem numeralOf_any (s : ByteArray) (w : World) (hs : s.size ≤ 9223372036854775807) (hnum : Numeral (L s)) :
    Calls Tryz.prog 9 #[.string s] w fun e w' => e = .returned (.int .i64 (numV (L s))) ∧ w = w' := by
  have h0 : 0 < s.size := by
    have h1 := hnum.ne
    have h2 := L_len s
    cases h : L s with
    | nil => exact absurd h h1
    | cons c r => rw [h] at h2; simp at h2; omega
  have hn := Lib.hid hnum
  clear hnum
  go_enter Tryz.func9, Tryz.ntmps9
  go_wp2
  go_loop [3, 4] (fun n i => ∃ k : Nat, k ≤ s.size ∧ i = .int .i64 k ∧ ∃ m : Nat, n = .int .i64 m ∧ Hid (m = decN 0 ((L s).take k))) (fun n i => s.size - (intOf i).toNat)
  case atStart => exact ⟨0, Nat.zero_le _, rfl, 0, rfl, rfl⟩
  case round =>
    obtain ⟨k, hk, rfl, m, rfl, hm⟩ := hrel
    have hml : m < 10000000000000000 := by rw [hm.out]; exact decN_take_lt hn.out k
    by_cases hlt : k < s.size
    · have hg := Lib.hid (L_get hlt)
      by_cases hp : digB (s[k]'hlt)
      · have hd : decide (digB (s[k]'hlt)) = true := decide_eq_true hp
        have hsn : Hid (m * 10 + ((s[k]'hlt).toNat - 48) = decN 0 ((L s).take (k + 1))) := by
          show _ = _
          rw [decN_snoc hg.out, if_pos hp, hm.out]
        have b1 : (48 : Int) ≤ ((s[k]'hlt).toNat : Int) := by have := hp.1; omega
        have b2 : ((s[k]'hlt).toNat : Int) ≤ 57 := by have := hp.2; omega
        clear hp hm hg
        go_wp2_with (go_at_call 19; refine (digit_any _ _).mono ?_; rintro e w2 ⟨rfl, rfl⟩; rw [hd])
        go_round
        case rel => exact ⟨k + 1, by omega, by go_num, m * 10 + ((s[k]'hlt).toNat - 48), by congr 1; omega, hsn⟩
        case measure => simp [intOf]; omega
      · have hd : decide (digB (s[k]'hlt)) = false := decide_eq_false hp
        have hsn : Hid (m = decN 0 ((L s).take (k + 1))) := by
          show _ = _
          rw [decN_snoc hg.out, if_neg hp, hm.out]
        clear hp hm hg
        go_wp2_with (go_at_call 19; refine (digit_any _ _).mono ?_; rintro e w2 ⟨rfl, rfl⟩; rw [hd])
        go_round
        case rel => exact ⟨k + 1, by omega, by go_num, m, rfl, hsn⟩
        case measure => simp [intOf]; omega
    · have hfin : Hid (m = decN 0 (L s)) := by
        have := hm.out
        rwa [take_all (by rw [L_len]; exact hlt)] at this
      clear hm
      rcases Bool.eq_false_or_eq_true (((s[0]'h0).toNat : Int) == 45) with hc | hc
      · have hv : Hid (-(m : Int) = numV (L s)) := by
          show _ = _
          have := beq_iff_eq.1 hc
          unfold numV
          rw [head_lt h0, if_pos (by simp; omega), hfin.out]
        clear hfin
        go_wp2
        go_ret
        exact ⟨by rw [← hv.out]; rfl, rfl⟩
      · have hv : Hid ((m : Int) = numV (L s)) := by
          show _ = _
          have := beq_eq_false_iff_ne.1 hc
          unfold numV
          rw [head_lt h0, if_neg (by simp; omega), hfin.out]
        clear hfin
        go_wp2
        go_ret
        exact ⟨by rw [← hv.out]; rfl, rfl⟩
end Go.Proofs.YthagnngckegekaaGreatDoor
