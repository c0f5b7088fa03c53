/-
  commonPrefixLenIgnoreCase, special: a text without digits and without n is no special number. Conditions: none.
-/
import Derived.Test.YthagnngckegekaaGreatDoorDig
import Derived.WalkSpells
import Derived.OwnWalk
namespace Go.Proofs.YthagnngckegekaaGreatDoor
open Go.ChangeShapes Go.WideShapes Go.ChangeAt Go.RowKit
set_option linter.unusedVariables false
set_option linter.unusedSimpArgs false

theorem no_at {s : ByteArray} (h : Numberless (L s)) {k : Nat} (hk : k < s.size) : noB (s[k]'hk) := h _ (get_mem (L_get hk))

set_option maxHeartbeats 1000000 in
theorem prefix_any (s : ByteArray) (w : World) (hs : s.size ≤ 9223372036854775807) (hno : Numberless (L s)) :
    Calls Tryz.prog 94 #[.string s, .string ⟨#[105, 110, 102, 105, 110, 105, 116, 121]⟩] w fun e w' => (∃ r : Int, e = .returned (.int .i64 r) ∧ 0 ≤ r ∧ r ≤ 1) ∧ w = w' := by
  go_enter Tryz.func94, Tryz.ntmps94
  go_wp2
  all_goals
    go_loop [6, 7] (fun i _ => i = .int .i64 0 ∨ i = .int .i64 1) (fun i _ => 2 - (intOf i).toNat)
    case atStart => exact Or.inl rfl
    case round =>
      rcases hrel with rfl | rfl
      · by_cases h0 : 0 < s.size
        · go_wp2
          all_goals first
          | (go_ret; exact ⟨⟨_, rfl, by omega, by omega⟩, rfl⟩)
          | exact ⟨Or.inr rfl, by simp [intOf]⟩
        · first
          | (exfalso; omega)
          | (go_wp2; go_ret; exact ⟨⟨_, rfl, by omega, by omega⟩, rfl⟩)
      · by_cases h1 : 1 < s.size
        · have hb := no_at hno h1
          have hP : (((⟨#[105, 110, 102, 105, 110, 105, 116, 121]⟩ : ByteArray)[1]'(by decide)).toNat : Int) = 110 := rfl
          have q1 : (((s[1]'h1).toNat : Int) + 32 != (((⟨#[105, 110, 102, 105, 110, 105, 116, 121]⟩ : ByteArray)[1]'(by decide)).toNat : Int)) = true := by rw [hP, bne_iff_ne]; have := hb.2.2; omega
          have q2 : (((s[1]'h1).toNat : Int) != (((⟨#[105, 110, 102, 105, 110, 105, 116, 121]⟩ : ByteArray)[1]'(by decide)).toNat : Int)) = true := by rw [hP, bne_iff_ne]; have := hb.2.1; omega
          clear hb hP
          go_wp2
          all_goals (go_ret; exact ⟨⟨_, rfl, by omega, by omega⟩, rfl⟩)
        · first
          | (exfalso; omega)
          | (go_wp2; go_ret; exact ⟨⟨_, rfl, by omega, by omega⟩, rfl⟩)

/-- What special and readFloat hand back of such a text: no. -/
def NoSpecial (w : World) (e : Ending) (w' : World) : Prop := e = .returned (.tuple #[.float .f64 0, .int .i64 0, .bool false]) ∧ w = w'

set_option maxHeartbeats 2000000 in
theorem special_any (s : ByteArray) (w : World) (hs : s.size ≤ 9223372036854775807) (hno : Numberless (L s)) :
    Calls Tryz.prog 79 #[.string s] w (NoSpecial w) := by
  by_cases h0 : 0 < s.size
  rotate_left
  · have e0 : s = ⟨#[]⟩ := ByteArray.ext (Array.eq_empty_of_size_eq_zero (by show s.size = 0; omega))
    subst e0
    clear hno hs h0
    go_enter Tryz.func79, Tryz.ntmps79
    go_wp2
    go_ret3
    exact ⟨rfl, rfl⟩
  have e0 : (((s.size : Nat) : Int) == 0) = false := beq_eq_false_iff_ne.2 (by omega)
  have hb := no_at hno h0
  have q1 : (((s[0]'h0).toNat : Int) == 110) = false := beq_eq_false_iff_ne.2 (by have := hb.2.1; omega)
  have q2 : (((s[0]'h0).toNat : Int) == 78) = false := beq_eq_false_iff_ne.2 (by have := hb.2.2; omega)
  have hx : Numberless (L (s.extract 1 s.size)) := fun b hb => hno b (by rw [L_extract] at hb; exact List.mem_of_mem_drop (List.mem_of_mem_take hb))
  have hxs : (s.extract 1 s.size).size ≤ 9223372036854775807 := by have : (s.extract 1 s.size).size = s.size - 1 := by simp
                                                                   omega
  have hp := fun w => Lib.hid (prefix_any s w hs hno)
  have hq := fun w => Lib.hid (prefix_any (s.extract 1 s.size) w hxs hx)
  clear hb hx hxs
  rcases Bool.eq_false_or_eq_true (((s[0]'h0).toNat : Int) == 43) with c1 | c1
  · go_enter Tryz.func79, Tryz.ntmps79
    go_wp2_with (go_at_call 94; refine (hq _).out.mono ?_; rintro e w2 ⟨⟨r, rfl, r0, r1⟩, rfl⟩; have r3 : (r == 3) = false := beq_eq_false_iff_ne.2 (by omega); have r8 : (r == 8) = false := beq_eq_false_iff_ne.2 (by omega); have r33 : ¬ 3 < r := by omega)
    go_ret3
    exact ⟨rfl, rfl⟩
  rcases Bool.eq_false_or_eq_true (((s[0]'h0).toNat : Int) == 45) with c2 | c2
  · go_enter Tryz.func79, Tryz.ntmps79
    go_wp2_with (go_at_call 94; refine (hq _).out.mono ?_; rintro e w2 ⟨⟨r, rfl, r0, r1⟩, rfl⟩; have r3 : (r == 3) = false := beq_eq_false_iff_ne.2 (by omega); have r8 : (r == 8) = false := beq_eq_false_iff_ne.2 (by omega); have r33 : ¬ 3 < r := by omega)
    go_ret3
    exact ⟨rfl, rfl⟩
  rcases Bool.eq_false_or_eq_true (((s[0]'h0).toNat : Int) == 105) with c3 | c3
  · go_enter Tryz.func79, Tryz.ntmps79
    go_wp2_with (go_at_call 94; refine (hp _).out.mono ?_; rintro e w2 ⟨⟨r, rfl, r0, r1⟩, rfl⟩; have r3 : (r == 3) = false := beq_eq_false_iff_ne.2 (by omega); have r8 : (r == 8) = false := beq_eq_false_iff_ne.2 (by omega); have r33 : ¬ 3 < r := by omega)
    go_ret3
    exact ⟨rfl, rfl⟩
  rcases Bool.eq_false_or_eq_true (((s[0]'h0).toNat : Int) == 73) with c4 | c4
  · go_enter Tryz.func79, Tryz.ntmps79
    go_wp2_with (go_at_call 94; refine (hp _).out.mono ?_; rintro e w2 ⟨⟨r, rfl, r0, r1⟩, rfl⟩; have r3 : (r == 3) = false := beq_eq_false_iff_ne.2 (by omega); have r8 : (r == 8) = false := beq_eq_false_iff_ne.2 (by omega); have r33 : ¬ 3 < r := by omega)
    go_ret3
    exact ⟨rfl, rfl⟩
  · go_enter Tryz.func79, Tryz.ntmps79
    go_wp2_with fail
    go_ret3
    exact ⟨rfl, rfl⟩
end Go.Proofs.YthagnngckegekaaGreatDoor
