/-
  underscoreOK returns. Conditions: none.
-/
import Derived.Test.YthagnngckegekaaGreatDoorSet
namespace Go.Proofs.YthagnngckegekaaGreatDoor
open Go.ChangeShapes Go.WideShapes Go.ChangeAt Go.RowKit
set_option linter.unusedVariables false
set_option linter.unusedSimpArgs false

def UndA (w0 : World) (a : Act) (w : World) : Prop := ∃ (f : Nat → Value) (s : ByteArray), a = ⟨#[.string s, f 1, .bool false, .int .i32 94, .int .i64 0, undef, f 6, f 7, f 8, f 9, f 10, f 11, f 12, f 13, f 14, f 15, f 16, f 17, f 18, f 19, f 20, undef, undef, undef, undef, undef, undef, undef, undef, undef, undef, undef, undef, undef, undef, undef, undef, undef, undef, undef, undef, undef, undef, undef, undef, undef, undef, undef, undef, undef, undef, undef, undef, undef, undef, undef, undef, undef, undef, undef, undef, undef, undef, undef, undef, undef, undef, undef, undef, undef, undef, undef, undef, undef, undef, undef, undef, undef, undef, undef, undef, undef, undef, undef, undef, undef, undef, undef, undef, undef, undef, undef, undef, undef], []⟩ ∧ s.size ≤ 1000 ∧ w0 = w
def UndB (w0 : World) (a : Act) (w : World) : Prop := ∃ (f : Nat → Value) (s : ByteArray) (z : Int) (i : Nat) (h : Bool), a = ⟨#[.string s, f 1, .bool false, .int .i32 z, .int .i64 (i : Int), .bool h, f 6, f 7, f 8, f 9, f 10, f 11, f 12, f 13, f 14, f 15, f 16, f 17, f 18, f 19, f 20, f 21, f 22, f 23, f 24, f 25, f 26, f 27, f 28, f 29, f 30, f 31, f 32, f 33, f 34, f 35, f 36, f 37, f 38, f 39, f 40, f 41, f 42, f 43, f 44, f 45, f 46, f 47, f 48, f 49, f 50, undef, undef, undef, undef, undef, undef, undef, undef, undef, undef, undef, undef, undef, undef, undef, undef, undef, undef, undef, undef, undef, undef, undef, undef, undef, undef, undef, undef, undef, undef, undef, undef, undef, undef, undef, undef, undef, undef, undef, undef, undef, undef, undef], []⟩ ∧ s.size ≤ 1000 ∧ i ≤ s.size ∧ w0 = w
theorem UndA.of {w : World} {tm : Array Value} (s : ByteArray) (h : tm = #[.string s, tm.getD 1 undef, .bool false, .int .i32 94, .int .i64 0, undef, tm.getD 6 undef, tm.getD 7 undef, tm.getD 8 undef, tm.getD 9 undef, tm.getD 10 undef, tm.getD 11 undef, tm.getD 12 undef, tm.getD 13 undef, tm.getD 14 undef, tm.getD 15 undef, tm.getD 16 undef, tm.getD 17 undef, tm.getD 18 undef, tm.getD 19 undef, tm.getD 20 undef, undef, undef, undef, undef, undef, undef, undef, undef, undef, undef, undef, undef, undef, undef, undef, undef, undef, undef, undef, undef, undef, undef, undef, undef, undef, undef, undef, undef, undef, undef, undef, undef, undef, undef, undef, undef, undef, undef, undef, undef, undef, undef, undef, undef, undef, undef, undef, undef, undef, undef, undef, undef, undef, undef, undef, undef, undef, undef, undef, undef, undef, undef, undef, undef, undef, undef, undef, undef, undef, undef, undef, undef, undef]) (hs : s.size ≤ 1000) : UndA w ⟨tm, []⟩ w := ⟨fun i => tm.getD i undef, s, congrArg (fun t => (⟨t, []⟩ : Act)) h, hs, rfl⟩
theorem UndB.of {w : World} {tm : Array Value} (s : ByteArray) (z : Int) (i : Nat) (b : Bool) (h : tm = #[.string s, tm.getD 1 undef, .bool false, .int .i32 z, .int .i64 (i : Int), .bool b, tm.getD 6 undef, tm.getD 7 undef, tm.getD 8 undef, tm.getD 9 undef, tm.getD 10 undef, tm.getD 11 undef, tm.getD 12 undef, tm.getD 13 undef, tm.getD 14 undef, tm.getD 15 undef, tm.getD 16 undef, tm.getD 17 undef, tm.getD 18 undef, tm.getD 19 undef, tm.getD 20 undef, tm.getD 21 undef, tm.getD 22 undef, tm.getD 23 undef, tm.getD 24 undef, tm.getD 25 undef, tm.getD 26 undef, tm.getD 27 undef, tm.getD 28 undef, tm.getD 29 undef, tm.getD 30 undef, tm.getD 31 undef, tm.getD 32 undef, tm.getD 33 undef, tm.getD 34 undef, tm.getD 35 undef, tm.getD 36 undef, tm.getD 37 undef, tm.getD 38 undef, tm.getD 39 undef, tm.getD 40 undef, tm.getD 41 undef, tm.getD 42 undef, tm.getD 43 undef, tm.getD 44 undef, tm.getD 45 undef, tm.getD 46 undef, tm.getD 47 undef, tm.getD 48 undef, tm.getD 49 undef, tm.getD 50 undef, undef, undef, undef, undef, undef, undef, undef, undef, undef, undef, undef, undef, undef, undef, undef, undef, undef, undef, undef, undef, undef, undef, undef, undef, undef, undef, undef, undef, undef, undef, undef, undef, undef, undef, undef, undef, undef, undef, undef, undef, undef, undef, undef]) (hs : s.size ≤ 1000) (hi : i ≤ s.size) : UndB w ⟨tm, []⟩ w := ⟨fun i => tm.getD i undef, s, z, i, b, congrArg (fun t => (⟨t, []⟩ : Act)) h, hs, hi, rfl⟩

def OneBool (w : World) (e : Ending) (w' : World) : Prop := w = w' ∧ ∃ b : Bool, e = .returned (.bool b)
set_option maxRecDepth 8000 in
set_option maxHeartbeats 16000000 in
theorem underscore_any {w : World} {s : ByteArray} (hs0 : 0 < s.size) (hs : s.size ≤ 1000) :
    Calls Tryz.prog 66 #[.string s] w (OneBool w) := by
  have he : ¬ s = ByteArray.empty := fun e => by rw [e] at hs0; exact absurd hs0 (by decide)
  have hs1 : (1 : Int) ≤ (s.size : Int) := by omega
  have hs2 : (s.size : Int) ≤ 1000 := by omega
  go_enter Tryz.func66, Tryz.ntmps66
  repeat ((fail_if_success (refine wp_cut (c := Code.seq (Code.region 3 _ _) _) (M := fun _ _ => True) ?_ ?_)); (first | go_values | go_skip | go_guarded | go_step | go_upon))
  refine wp_cut (c := Code.seq (Code.region 3 _ _) _) (M := UndA w) ?_ ?_
  · show Code.wp _ _ _ _ _
    rcases Bool.eq_false_or_eq_true (((s[0]'hs0).toNat : Int) == 45) with c1 | c1
    · go_wp2_with fail
      exact UndA.of _ rfl (by simp; omega)
    rcases Bool.eq_false_or_eq_true (((s[0]'hs0).toNat : Int) == 43) with c2 | c2
    · go_wp2_with fail
      exact UndA.of _ rfl (by simp; omega)
    · go_wp2_with fail
      exact UndA.of s rfl hs
  clear he hs1 hs2 hs hs0
  intro a1 w1 ⟨f, s, ha, hs, hw⟩
  subst ha hw
  try dsimp only
  have hs2 : (s.size : Int) ≤ 1000 := by omega
  repeat ((fail_if_success (refine wp_cut (c := Code.seq (Code.region 6 _ _) _) (M := fun _ _ => True) ?_ ?_)); (first | go_values | go_skip | go_guarded | go_step | go_upon))
  refine wp_cut (c := Code.seq (Code.region 6 _ _) _) (M := UndB w) ?_ ?_
  · show Code.wp _ _ _ _ _
    by_cases h2 : (2 : Int) ≤ (s.size : Int)
    · have h20 : 0 < s.size := by omega
      rcases Bool.eq_false_or_eq_true (((s[0]'h20).toNat : Int) == 48) with c1 | c1
      · go_wp2_with fail
        refine (lower_any _ _).mono ?_
        rintro e w' ⟨rfl, r1, rfl⟩
        rcases Bool.eq_false_or_eq_true (r1 == 98) with d1 | d1
        · go_wp2_with fail
          refine (lower_any _ _).mono ?_
          rintro e w' ⟨rfl, r4, rfl⟩
          go_wp2_with fail
          exact UndB.of s _ 2 _ rfl hs (by omega)
        · go_wp2_with fail
          refine (lower_any _ _).mono ?_
          rintro e w' ⟨rfl, r2, rfl⟩
          rcases Bool.eq_false_or_eq_true (r2 == 111) with d2 | d2
          · go_wp2_with fail
            refine (lower_any _ _).mono ?_
            rintro e w' ⟨rfl, r4, rfl⟩
            go_wp2_with fail
            exact UndB.of s _ 2 _ rfl hs (by omega)
          · go_wp2_with fail
            refine (lower_any _ _).mono ?_
            rintro e w' ⟨rfl, r3, rfl⟩
            rcases Bool.eq_false_or_eq_true (r3 == 120) with d3 | d3
            · go_wp2_with fail
              refine (lower_any _ _).mono ?_
              rintro e w' ⟨rfl, r4, rfl⟩
              go_wp2_with fail
              exact UndB.of s _ 2 _ rfl hs (by omega)
            · go_wp2_with fail
              exact UndB.of s _ 0 _ rfl hs (by omega)
      · go_wp2_with fail
        exact UndB.of s _ 0 _ rfl hs (by omega)
    · go_wp2_with fail
      exact UndB.of s _ 0 _ rfl hs (by omega)
  clear hs hs2
  intro a1 w1 ⟨f, s, z, i, h, ha, hs, hi, hw⟩
  subst ha hw
  try dsimp only
  have hs2 : (s.size : Int) ≤ 1000 := by omega
  go_wp2_with fail
  go_loopw [2, 3, 4] (fun b2 z3 i4 wr => b2 = .bool false ∧ w = wr ∧ ∃ (z : Int) (i : Nat), z3 = .int .i32 z ∧ i4 = .int .i64 i ∧ Hid (i ≤ s.size)) (fun _ _ i4 _ => s.size - (intOf i4).toNat)
  case atStart => exact ⟨rfl, rfl, z, i, rfl, rfl, Lib.hid hi⟩
  case round =>
    clear hi
    obtain ⟨rfl, rfl, z, i, rfl, rfl, hi⟩ := hrel
    have hi8 : (i : Int) ≤ 1000 := by have := hi.out; omega
    by_cases hlt : i < s.size
    · by_cases u1 : (48 : Int) ≤ ((s[i]'hlt).toNat : Int)
      · by_cases u2 : ((s[i]'hlt).toNat : Int) ≤ 57
        · go_wp2_with fail
          first
          | exact ⟨⟨by trivial, by trivial, _, i + 1, rfl, by go_num, Lib.hid (by omega)⟩, by simp [intOf]; omega⟩
          | exact ⟨⟨i + 1, by go_num, Lib.hid (by omega)⟩, by simp [intOf]; omega⟩
        · cases h with
          | false =>
            rcases Bool.eq_false_or_eq_true (((s[i]'hlt).toNat : Int) == 95) with v1 | v1
            · rcases Bool.eq_false_or_eq_true (z != 48) with v2 | v2
              · go_wp2_with fail
                go_ret
                exact ⟨rfl, _, rfl⟩
              · go_wp2_with fail
                first
                | exact ⟨⟨by trivial, by trivial, _, i + 1, rfl, by go_num, Lib.hid (by omega)⟩, by simp [intOf]; omega⟩
                | exact ⟨⟨i + 1, by go_num, Lib.hid (by omega)⟩, by simp [intOf]; omega⟩
            · rcases Bool.eq_false_or_eq_true (z == 95) with v2 | v2
              · go_wp2_with fail
                go_ret
                exact ⟨rfl, _, rfl⟩
              · go_wp2_with fail
                first
                | exact ⟨⟨by trivial, by trivial, _, i + 1, rfl, by go_num, Lib.hid (by omega)⟩, by simp [intOf]; omega⟩
                | exact ⟨⟨i + 1, by go_num, Lib.hid (by omega)⟩, by simp [intOf]; omega⟩
          | true =>
            go_wp2_with fail
            refine (lower_any _ _).mono ?_
            rintro e w' ⟨rfl, r1, rfl⟩
            by_cases d1 : (97 : Int) ≤ r1
            · go_wp2_with fail
              refine (lower_any _ _).mono ?_
              rintro e w' ⟨rfl, r2, rfl⟩
              by_cases d2 : r2 ≤ (102 : Int)
              · go_wp2_with fail
                first
                | exact ⟨⟨by trivial, by trivial, _, i + 1, rfl, by go_num, Lib.hid (by omega)⟩, by simp [intOf]; omega⟩
                | exact ⟨⟨i + 1, by go_num, Lib.hid (by omega)⟩, by simp [intOf]; omega⟩
              · rcases Bool.eq_false_or_eq_true (((s[i]'hlt).toNat : Int) == 95) with v1 | v1
                · rcases Bool.eq_false_or_eq_true (z != 48) with v2 | v2
                  · go_wp2_with fail
                    go_ret
                    exact ⟨rfl, _, rfl⟩
                  · go_wp2_with fail
                    first
                    | exact ⟨⟨by trivial, by trivial, _, i + 1, rfl, by go_num, Lib.hid (by omega)⟩, by simp [intOf]; omega⟩
                    | exact ⟨⟨i + 1, by go_num, Lib.hid (by omega)⟩, by simp [intOf]; omega⟩
                · rcases Bool.eq_false_or_eq_true (z == 95) with v2 | v2
                  · go_wp2_with fail
                    go_ret
                    exact ⟨rfl, _, rfl⟩
                  · go_wp2_with fail
                    first
                    | exact ⟨⟨by trivial, by trivial, _, i + 1, rfl, by go_num, Lib.hid (by omega)⟩, by simp [intOf]; omega⟩
                    | exact ⟨⟨i + 1, by go_num, Lib.hid (by omega)⟩, by simp [intOf]; omega⟩
            · rcases Bool.eq_false_or_eq_true (((s[i]'hlt).toNat : Int) == 95) with v1 | v1
              · rcases Bool.eq_false_or_eq_true (z != 48) with v2 | v2
                · go_wp2_with fail
                  go_ret
                  exact ⟨rfl, _, rfl⟩
                · go_wp2_with fail
                  first
                  | exact ⟨⟨by trivial, by trivial, _, i + 1, rfl, by go_num, Lib.hid (by omega)⟩, by simp [intOf]; omega⟩
                  | exact ⟨⟨i + 1, by go_num, Lib.hid (by omega)⟩, by simp [intOf]; omega⟩
              · rcases Bool.eq_false_or_eq_true (z == 95) with v2 | v2
                · go_wp2_with fail
                  go_ret
                  exact ⟨rfl, _, rfl⟩
                · go_wp2_with fail
                  first
                  | exact ⟨⟨by trivial, by trivial, _, i + 1, rfl, by go_num, Lib.hid (by omega)⟩, by simp [intOf]; omega⟩
                  | exact ⟨⟨i + 1, by go_num, Lib.hid (by omega)⟩, by simp [intOf]; omega⟩
      · cases h with
        | false =>
          rcases Bool.eq_false_or_eq_true (((s[i]'hlt).toNat : Int) == 95) with v1 | v1
          · rcases Bool.eq_false_or_eq_true (z != 48) with v2 | v2
            · go_wp2_with fail
              go_ret
              exact ⟨rfl, _, rfl⟩
            · go_wp2_with fail
              first
              | exact ⟨⟨by trivial, by trivial, _, i + 1, rfl, by go_num, Lib.hid (by omega)⟩, by simp [intOf]; omega⟩
              | exact ⟨⟨i + 1, by go_num, Lib.hid (by omega)⟩, by simp [intOf]; omega⟩
          · rcases Bool.eq_false_or_eq_true (z == 95) with v2 | v2
            · go_wp2_with fail
              go_ret
              exact ⟨rfl, _, rfl⟩
            · go_wp2_with fail
              first
              | exact ⟨⟨by trivial, by trivial, _, i + 1, rfl, by go_num, Lib.hid (by omega)⟩, by simp [intOf]; omega⟩
              | exact ⟨⟨i + 1, by go_num, Lib.hid (by omega)⟩, by simp [intOf]; omega⟩
        | true =>
          go_wp2_with fail
          refine (lower_any _ _).mono ?_
          rintro e w' ⟨rfl, r1, rfl⟩
          by_cases d1 : (97 : Int) ≤ r1
          · go_wp2_with fail
            refine (lower_any _ _).mono ?_
            rintro e w' ⟨rfl, r2, rfl⟩
            by_cases d2 : r2 ≤ (102 : Int)
            · go_wp2_with fail
              first
              | exact ⟨⟨by trivial, by trivial, _, i + 1, rfl, by go_num, Lib.hid (by omega)⟩, by simp [intOf]; omega⟩
              | exact ⟨⟨i + 1, by go_num, Lib.hid (by omega)⟩, by simp [intOf]; omega⟩
            · rcases Bool.eq_false_or_eq_true (((s[i]'hlt).toNat : Int) == 95) with v1 | v1
              · rcases Bool.eq_false_or_eq_true (z != 48) with v2 | v2
                · go_wp2_with fail
                  go_ret
                  exact ⟨rfl, _, rfl⟩
                · go_wp2_with fail
                  first
                  | exact ⟨⟨by trivial, by trivial, _, i + 1, rfl, by go_num, Lib.hid (by omega)⟩, by simp [intOf]; omega⟩
                  | exact ⟨⟨i + 1, by go_num, Lib.hid (by omega)⟩, by simp [intOf]; omega⟩
              · rcases Bool.eq_false_or_eq_true (z == 95) with v2 | v2
                · go_wp2_with fail
                  go_ret
                  exact ⟨rfl, _, rfl⟩
                · go_wp2_with fail
                  first
                  | exact ⟨⟨by trivial, by trivial, _, i + 1, rfl, by go_num, Lib.hid (by omega)⟩, by simp [intOf]; omega⟩
                  | exact ⟨⟨i + 1, by go_num, Lib.hid (by omega)⟩, by simp [intOf]; omega⟩
          · rcases Bool.eq_false_or_eq_true (((s[i]'hlt).toNat : Int) == 95) with v1 | v1
            · rcases Bool.eq_false_or_eq_true (z != 48) with v2 | v2
              · go_wp2_with fail
                go_ret
                exact ⟨rfl, _, rfl⟩
              · go_wp2_with fail
                first
                | exact ⟨⟨by trivial, by trivial, _, i + 1, rfl, by go_num, Lib.hid (by omega)⟩, by simp [intOf]; omega⟩
                | exact ⟨⟨i + 1, by go_num, Lib.hid (by omega)⟩, by simp [intOf]; omega⟩
            · rcases Bool.eq_false_or_eq_true (z == 95) with v2 | v2
              · go_wp2_with fail
                go_ret
                exact ⟨rfl, _, rfl⟩
              · go_wp2_with fail
                first
                | exact ⟨⟨by trivial, by trivial, _, i + 1, rfl, by go_num, Lib.hid (by omega)⟩, by simp [intOf]; omega⟩
                | exact ⟨⟨i + 1, by go_num, Lib.hid (by omega)⟩, by simp [intOf]; omega⟩
    · go_wp2_with fail
      go_ret
      exact ⟨rfl, _, rfl⟩
end Go.Proofs.YthagnngckegekaaGreatDoor
