/-
  readFloat: a text without digits is no float. Conditions: none.
-/
import Derived.Test.YthagnngckegekaaGreatDoorPf1
namespace Go.Proofs.YthagnngckegekaaGreatDoor
open Go.ChangeShapes Go.WideShapes Go.ChangeAt Go.RowKit
set_option linter.unusedVariables false
set_option linter.unusedSimpArgs false

theorem results_tmp7 {fn : Func} {a b c d e f g : Tmp} (h : fn.results = #[.tmp a, .tmp b, .tmp c, .tmp d, .tmp e, .tmp f, .tmp g]) (tmps : Array Value) (P : Program) (w : World) :
    (results fn tmps).run P w = .ok (.tuple #[tmps.getD a undef, tmps.getD b undef, tmps.getD c undef, tmps.getD d undef, tmps.getD e undef, tmps.getD f undef, tmps.getD g undef]) w := by
  simp [results, h]

/-- What readFloat hands back of such a text. -/
def NoRead (w : World) (e : Ending) (w' : World) : Prop := (∃ (neg : Bool) (i : Int), e = .returned (.tuple #[.int .u64 0, .int .i64 0, .bool neg, .bool false, .bool false, .int .i64 i, .bool false])) ∧ w = w'

set_option maxRecDepth 100000 in
set_option maxHeartbeats 8000000 in
theorem readFloat_any (s : ByteArray) (w : World) (hs : s.size ≤ 1000000) (hnum : Numberless (L s)) :
    Calls Tryz.prog 80 #[.string s] w (NoRead w) := by
  have hno := Lib.hid hnum
  clear hnum
  by_cases h0 : 0 < s.size
  rotate_left
  · have e0 : s = ⟨#[]⟩ := ByteArray.ext (Array.eq_empty_of_size_eq_zero (by show s.size = 0; omega))
    subst e0
    clear hno hs h0
    go_enter Tryz.func80, Tryz.ntmps80
    go_wp2_with fail
    go_step3
    go_wp2_with fail
    (try simp only [Exit.inBlock, Exit.then]); (try rw [Exit.noGoto_ret]); refine bodyPost_ret (results_tmp7 rfl _ _ _) rfl ?_; exact ⟨⟨_, _, rfl⟩, rfl⟩
  have he : ¬ s = ByteArray.empty := fun e => by rw [e] at h0; exact absurd h0 (by decide)
  have hb := no_at hno.out h0
  have z0 : (((s[0]'h0).toNat : Int) == 48) = false := beq_eq_false_iff_ne.2 (fun h => hb.1 ⟨by omega, by omega⟩)
  clear hb
  rcases Bool.eq_false_or_eq_true (((s[0]'h0).toNat : Int) == 43) with c1 | c1
  · by_cases h1 : 1 + 2 < s.size
    · have hb1 := no_at hno.out (show 1 < s.size by omega)
      have z1 : (((s[1]'(by omega)).toNat : Int) == 48) = false := beq_eq_false_iff_ne.2 (fun h => hb1.1 ⟨by omega, by omega⟩)
      clear hb1
      go_enter Tryz.func80, Tryz.ntmps80
      go_wp2_with fail
      go_step3
      go_wp2_with fail
      refine wp_label ?_
      go_wp2_with fail
      go_loop [2, 5, 7, 9, 13, 14, 15, 16, 17, 18] (fun m t i u d g n q p _ => ∃ k : Nat, k ≤ s.size ∧ i = .int .i64 k ∧ (∃ bu : Bool, u = .bool bu) ∧ (∃ bd : Bool, d = .bool bd) ∧ p = .int .i64 0 ∧ m = .int .u64 0 ∧ t = .bool false ∧ g = .bool false ∧ n = .int .i64 0 ∧ q = .int .i64 0) (fun _ _ i _ _ _ _ _ _ _ => s.size - (intOf i).toNat)
      case atStart => exact ⟨1, by omega, rfl, ⟨_, rfl⟩, ⟨_, rfl⟩, rfl, rfl, rfl, rfl, rfl, rfl⟩
      case round =>
        obtain ⟨k, hk, rfl, ⟨bu, rfl⟩, ⟨bd, rfl⟩, rfl, rfl, rfl, rfl, rfl, rfl⟩ := hrel
        by_cases hlt : k < s.size
        · have hb := no_at hno.out hlt
          rcases Bool.eq_false_or_eq_true (((s[k]'hlt).toNat : Int) == 95) with u1 | u1
          · clear hb
            go_wp2_with fail
            go_round
            case rel => exact ⟨k + 1, by omega, by go_num, ⟨_, rfl⟩, ⟨_, rfl⟩, rfl, rfl, rfl, rfl, rfl, rfl⟩
            case measure => simp [intOf]; omega
          rcases Bool.eq_false_or_eq_true (((s[k]'hlt).toNat : Int) == 46) with u2 | u2
          · clear hb
            cases bd with
            | true =>
              go_wp2_with fail
              (try simp only [Exit.inBlock, Exit.then]); (try rw [Exit.noGoto_ret]); refine bodyPost_ret (results_tmp7 rfl _ _ _) rfl ?_; exact ⟨⟨_, _, rfl⟩, rfl⟩
            | false =>
              go_wp2_with fail
              go_round
              case rel => exact ⟨k + 1, by omega, by go_num, ⟨_, rfl⟩, ⟨_, rfl⟩, rfl, rfl, rfl, rfl, rfl, rfl⟩
              case measure => simp [intOf]; omega
          by_cases u3 : (48 : Int) ≤ ((s[k]'hlt).toNat : Int)
          · have u4 : ¬ ((s[k]'hlt).toNat : Int) ≤ 57 := fun h => hb.1 ⟨by omega, by omega⟩
            clear hb
            go_wp2_with fail
            (try simp only [Exit.inBlock, Exit.then]); (try rw [Exit.noGoto_ret]); refine bodyPost_ret (results_tmp7 rfl _ _ _) rfl ?_; exact ⟨⟨_, _, rfl⟩, rfl⟩
          · clear hb
            go_wp2_with fail
            (try simp only [Exit.inBlock, Exit.then]); (try rw [Exit.noGoto_ret]); refine bodyPost_ret (results_tmp7 rfl _ _ _) rfl ?_; exact ⟨⟨_, _, rfl⟩, rfl⟩
        · go_wp2_with fail
          (try simp only [Exit.inBlock, Exit.then]); (try rw [Exit.noGoto_ret]); refine bodyPost_ret (results_tmp7 rfl _ _ _) rfl ?_; exact ⟨⟨_, _, rfl⟩, rfl⟩
    · go_enter Tryz.func80, Tryz.ntmps80
      go_wp2_with fail
      go_step3
      go_wp2_with fail
      refine wp_label ?_
      go_wp2_with fail
      go_loop [2, 5, 7, 9, 13, 14, 15, 16, 17, 18] (fun m t i u d g n q p _ => ∃ k : Nat, k ≤ s.size ∧ i = .int .i64 k ∧ (∃ bu : Bool, u = .bool bu) ∧ (∃ bd : Bool, d = .bool bd) ∧ p = .int .i64 0 ∧ m = .int .u64 0 ∧ t = .bool false ∧ g = .bool false ∧ n = .int .i64 0 ∧ q = .int .i64 0) (fun _ _ i _ _ _ _ _ _ _ => s.size - (intOf i).toNat)
      case atStart => exact ⟨1, by omega, rfl, ⟨_, rfl⟩, ⟨_, rfl⟩, rfl, rfl, rfl, rfl, rfl, rfl⟩
      case round =>
        obtain ⟨k, hk, rfl, ⟨bu, rfl⟩, ⟨bd, rfl⟩, rfl, rfl, rfl, rfl, rfl, rfl⟩ := hrel
        by_cases hlt : k < s.size
        · have hb := no_at hno.out hlt
          rcases Bool.eq_false_or_eq_true (((s[k]'hlt).toNat : Int) == 95) with u1 | u1
          · clear hb
            go_wp2_with fail
            go_round
            case rel => exact ⟨k + 1, by omega, by go_num, ⟨_, rfl⟩, ⟨_, rfl⟩, rfl, rfl, rfl, rfl, rfl, rfl⟩
            case measure => simp [intOf]; omega
          rcases Bool.eq_false_or_eq_true (((s[k]'hlt).toNat : Int) == 46) with u2 | u2
          · clear hb
            cases bd with
            | true =>
              go_wp2_with fail
              (try simp only [Exit.inBlock, Exit.then]); (try rw [Exit.noGoto_ret]); refine bodyPost_ret (results_tmp7 rfl _ _ _) rfl ?_; exact ⟨⟨_, _, rfl⟩, rfl⟩
            | false =>
              go_wp2_with fail
              go_round
              case rel => exact ⟨k + 1, by omega, by go_num, ⟨_, rfl⟩, ⟨_, rfl⟩, rfl, rfl, rfl, rfl, rfl, rfl⟩
              case measure => simp [intOf]; omega
          by_cases u3 : (48 : Int) ≤ ((s[k]'hlt).toNat : Int)
          · have u4 : ¬ ((s[k]'hlt).toNat : Int) ≤ 57 := fun h => hb.1 ⟨by omega, by omega⟩
            clear hb
            go_wp2_with fail
            (try simp only [Exit.inBlock, Exit.then]); (try rw [Exit.noGoto_ret]); refine bodyPost_ret (results_tmp7 rfl _ _ _) rfl ?_; exact ⟨⟨_, _, rfl⟩, rfl⟩
          · clear hb
            go_wp2_with fail
            (try simp only [Exit.inBlock, Exit.then]); (try rw [Exit.noGoto_ret]); refine bodyPost_ret (results_tmp7 rfl _ _ _) rfl ?_; exact ⟨⟨_, _, rfl⟩, rfl⟩
        · go_wp2_with fail
          (try simp only [Exit.inBlock, Exit.then]); (try rw [Exit.noGoto_ret]); refine bodyPost_ret (results_tmp7 rfl _ _ _) rfl ?_; exact ⟨⟨_, _, rfl⟩, rfl⟩
  rcases Bool.eq_false_or_eq_true (((s[0]'h0).toNat : Int) == 45) with c2 | c2
  · by_cases h1 : 1 + 2 < s.size
    · have hb1 := no_at hno.out (show 1 < s.size by omega)
      have z1 : (((s[1]'(by omega)).toNat : Int) == 48) = false := beq_eq_false_iff_ne.2 (fun h => hb1.1 ⟨by omega, by omega⟩)
      clear hb1
      go_enter Tryz.func80, Tryz.ntmps80
      go_wp2_with fail
      go_step3
      go_wp2_with fail
      refine wp_label ?_
      go_wp2_with fail
      go_loop [2, 5, 7, 9, 13, 14, 15, 16, 17, 18] (fun m t i u d g n q p _ => ∃ k : Nat, k ≤ s.size ∧ i = .int .i64 k ∧ (∃ bu : Bool, u = .bool bu) ∧ (∃ bd : Bool, d = .bool bd) ∧ p = .int .i64 0 ∧ m = .int .u64 0 ∧ t = .bool false ∧ g = .bool false ∧ n = .int .i64 0 ∧ q = .int .i64 0) (fun _ _ i _ _ _ _ _ _ _ => s.size - (intOf i).toNat)
      case atStart => exact ⟨1, by omega, rfl, ⟨_, rfl⟩, ⟨_, rfl⟩, rfl, rfl, rfl, rfl, rfl, rfl⟩
      case round =>
        obtain ⟨k, hk, rfl, ⟨bu, rfl⟩, ⟨bd, rfl⟩, rfl, rfl, rfl, rfl, rfl, rfl⟩ := hrel
        by_cases hlt : k < s.size
        · have hb := no_at hno.out hlt
          rcases Bool.eq_false_or_eq_true (((s[k]'hlt).toNat : Int) == 95) with u1 | u1
          · clear hb
            go_wp2_with fail
            go_round
            case rel => exact ⟨k + 1, by omega, by go_num, ⟨_, rfl⟩, ⟨_, rfl⟩, rfl, rfl, rfl, rfl, rfl, rfl⟩
            case measure => simp [intOf]; omega
          rcases Bool.eq_false_or_eq_true (((s[k]'hlt).toNat : Int) == 46) with u2 | u2
          · clear hb
            cases bd with
            | true =>
              go_wp2_with fail
              (try simp only [Exit.inBlock, Exit.then]); (try rw [Exit.noGoto_ret]); refine bodyPost_ret (results_tmp7 rfl _ _ _) rfl ?_; exact ⟨⟨_, _, rfl⟩, rfl⟩
            | false =>
              go_wp2_with fail
              go_round
              case rel => exact ⟨k + 1, by omega, by go_num, ⟨_, rfl⟩, ⟨_, rfl⟩, rfl, rfl, rfl, rfl, rfl, rfl⟩
              case measure => simp [intOf]; omega
          by_cases u3 : (48 : Int) ≤ ((s[k]'hlt).toNat : Int)
          · have u4 : ¬ ((s[k]'hlt).toNat : Int) ≤ 57 := fun h => hb.1 ⟨by omega, by omega⟩
            clear hb
            go_wp2_with fail
            (try simp only [Exit.inBlock, Exit.then]); (try rw [Exit.noGoto_ret]); refine bodyPost_ret (results_tmp7 rfl _ _ _) rfl ?_; exact ⟨⟨_, _, rfl⟩, rfl⟩
          · clear hb
            go_wp2_with fail
            (try simp only [Exit.inBlock, Exit.then]); (try rw [Exit.noGoto_ret]); refine bodyPost_ret (results_tmp7 rfl _ _ _) rfl ?_; exact ⟨⟨_, _, rfl⟩, rfl⟩
        · go_wp2_with fail
          (try simp only [Exit.inBlock, Exit.then]); (try rw [Exit.noGoto_ret]); refine bodyPost_ret (results_tmp7 rfl _ _ _) rfl ?_; exact ⟨⟨_, _, rfl⟩, rfl⟩
    · go_enter Tryz.func80, Tryz.ntmps80
      go_wp2_with fail
      go_step3
      go_wp2_with fail
      refine wp_label ?_
      go_wp2_with fail
      go_loop [2, 5, 7, 9, 13, 14, 15, 16, 17, 18] (fun m t i u d g n q p _ => ∃ k : Nat, k ≤ s.size ∧ i = .int .i64 k ∧ (∃ bu : Bool, u = .bool bu) ∧ (∃ bd : Bool, d = .bool bd) ∧ p = .int .i64 0 ∧ m = .int .u64 0 ∧ t = .bool false ∧ g = .bool false ∧ n = .int .i64 0 ∧ q = .int .i64 0) (fun _ _ i _ _ _ _ _ _ _ => s.size - (intOf i).toNat)
      case atStart => exact ⟨1, by omega, rfl, ⟨_, rfl⟩, ⟨_, rfl⟩, rfl, rfl, rfl, rfl, rfl, rfl⟩
      case round =>
        obtain ⟨k, hk, rfl, ⟨bu, rfl⟩, ⟨bd, rfl⟩, rfl, rfl, rfl, rfl, rfl, rfl⟩ := hrel
        by_cases hlt : k < s.size
        · have hb := no_at hno.out hlt
          rcases Bool.eq_false_or_eq_true (((s[k]'hlt).toNat : Int) == 95) with u1 | u1
          · clear hb
            go_wp2_with fail
            go_round
            case rel => exact ⟨k + 1, by omega, by go_num, ⟨_, rfl⟩, ⟨_, rfl⟩, rfl, rfl, rfl, rfl, rfl, rfl⟩
            case measure => simp [intOf]; omega
          rcases Bool.eq_false_or_eq_true (((s[k]'hlt).toNat : Int) == 46) with u2 | u2
          · clear hb
            cases bd with
            | true =>
              go_wp2_with fail
              (try simp only [Exit.inBlock, Exit.then]); (try rw [Exit.noGoto_ret]); refine bodyPost_ret (results_tmp7 rfl _ _ _) rfl ?_; exact ⟨⟨_, _, rfl⟩, rfl⟩
            | false =>
              go_wp2_with fail
              go_round
              case rel => exact ⟨k + 1, by omega, by go_num, ⟨_, rfl⟩, ⟨_, rfl⟩, rfl, rfl, rfl, rfl, rfl, rfl⟩
              case measure => simp [intOf]; omega
          by_cases u3 : (48 : Int) ≤ ((s[k]'hlt).toNat : Int)
          · have u4 : ¬ ((s[k]'hlt).toNat : Int) ≤ 57 := fun h => hb.1 ⟨by omega, by omega⟩
            clear hb
            go_wp2_with fail
            (try simp only [Exit.inBlock, Exit.then]); (try rw [Exit.noGoto_ret]); refine bodyPost_ret (results_tmp7 rfl _ _ _) rfl ?_; exact ⟨⟨_, _, rfl⟩, rfl⟩
          · clear hb
            go_wp2_with fail
            (try simp only [Exit.inBlock, Exit.then]); (try rw [Exit.noGoto_ret]); refine bodyPost_ret (results_tmp7 rfl _ _ _) rfl ?_; exact ⟨⟨_, _, rfl⟩, rfl⟩
        · go_wp2_with fail
          (try simp only [Exit.inBlock, Exit.then]); (try rw [Exit.noGoto_ret]); refine bodyPost_ret (results_tmp7 rfl _ _ _) rfl ?_; exact ⟨⟨_, _, rfl⟩, rfl⟩
  · by_cases h1 : 0 + 2 < s.size
    · go_enter Tryz.func80, Tryz.ntmps80
      go_wp2_with fail
      go_step3
      go_wp2_with fail
      refine wp_label ?_
      go_wp2_with fail
      go_loop [2, 5, 7, 9, 13, 14, 15, 16, 17, 18] (fun m t i u d g n q p _ => ∃ k : Nat, k ≤ s.size ∧ i = .int .i64 k ∧ (∃ bu : Bool, u = .bool bu) ∧ (∃ bd : Bool, d = .bool bd) ∧ p = .int .i64 0 ∧ m = .int .u64 0 ∧ t = .bool false ∧ g = .bool false ∧ n = .int .i64 0 ∧ q = .int .i64 0) (fun _ _ i _ _ _ _ _ _ _ => s.size - (intOf i).toNat)
      case atStart => exact ⟨0, by omega, rfl, ⟨_, rfl⟩, ⟨_, rfl⟩, rfl, rfl, rfl, rfl, rfl, rfl⟩
      case round =>
        obtain ⟨k, hk, rfl, ⟨bu, rfl⟩, ⟨bd, rfl⟩, rfl, rfl, rfl, rfl, rfl, rfl⟩ := hrel
        by_cases hlt : k < s.size
        · have hb := no_at hno.out hlt
          rcases Bool.eq_false_or_eq_true (((s[k]'hlt).toNat : Int) == 95) with u1 | u1
          · clear hb
            go_wp2_with fail
            go_round
            case rel => exact ⟨k + 1, by omega, by go_num, ⟨_, rfl⟩, ⟨_, rfl⟩, rfl, rfl, rfl, rfl, rfl, rfl⟩
            case measure => simp [intOf]; omega
          rcases Bool.eq_false_or_eq_true (((s[k]'hlt).toNat : Int) == 46) with u2 | u2
          · clear hb
            cases bd with
            | true =>
              go_wp2_with fail
              (try simp only [Exit.inBlock, Exit.then]); (try rw [Exit.noGoto_ret]); refine bodyPost_ret (results_tmp7 rfl _ _ _) rfl ?_; exact ⟨⟨_, _, rfl⟩, rfl⟩
            | false =>
              go_wp2_with fail
              go_round
              case rel => exact ⟨k + 1, by omega, by go_num, ⟨_, rfl⟩, ⟨_, rfl⟩, rfl, rfl, rfl, rfl, rfl, rfl⟩
              case measure => simp [intOf]; omega
          by_cases u3 : (48 : Int) ≤ ((s[k]'hlt).toNat : Int)
          · have u4 : ¬ ((s[k]'hlt).toNat : Int) ≤ 57 := fun h => hb.1 ⟨by omega, by omega⟩
            clear hb
            go_wp2_with fail
            (try simp only [Exit.inBlock, Exit.then]); (try rw [Exit.noGoto_ret]); refine bodyPost_ret (results_tmp7 rfl _ _ _) rfl ?_; exact ⟨⟨_, _, rfl⟩, rfl⟩
          · clear hb
            go_wp2_with fail
            (try simp only [Exit.inBlock, Exit.then]); (try rw [Exit.noGoto_ret]); refine bodyPost_ret (results_tmp7 rfl _ _ _) rfl ?_; exact ⟨⟨_, _, rfl⟩, rfl⟩
        · go_wp2_with fail
          (try simp only [Exit.inBlock, Exit.then]); (try rw [Exit.noGoto_ret]); refine bodyPost_ret (results_tmp7 rfl _ _ _) rfl ?_; exact ⟨⟨_, _, rfl⟩, rfl⟩
    · go_enter Tryz.func80, Tryz.ntmps80
      go_wp2_with fail
      go_step3
      go_wp2_with fail
      refine wp_label ?_
      go_wp2_with fail
      go_loop [2, 5, 7, 9, 13, 14, 15, 16, 17, 18] (fun m t i u d g n q p _ => ∃ k : Nat, k ≤ s.size ∧ i = .int .i64 k ∧ (∃ bu : Bool, u = .bool bu) ∧ (∃ bd : Bool, d = .bool bd) ∧ p = .int .i64 0 ∧ m = .int .u64 0 ∧ t = .bool false ∧ g = .bool false ∧ n = .int .i64 0 ∧ q = .int .i64 0) (fun _ _ i _ _ _ _ _ _ _ => s.size - (intOf i).toNat)
      case atStart => exact ⟨0, by omega, rfl, ⟨_, rfl⟩, ⟨_, rfl⟩, rfl, rfl, rfl, rfl, rfl, rfl⟩
      case round =>
        obtain ⟨k, hk, rfl, ⟨bu, rfl⟩, ⟨bd, rfl⟩, rfl, rfl, rfl, rfl, rfl, rfl⟩ := hrel
        by_cases hlt : k < s.size
        · have hb := no_at hno.out hlt
          rcases Bool.eq_false_or_eq_true (((s[k]'hlt).toNat : Int) == 95) with u1 | u1
          · clear hb
            go_wp2_with fail
            go_round
            case rel => exact ⟨k + 1, by omega, by go_num, ⟨_, rfl⟩, ⟨_, rfl⟩, rfl, rfl, rfl, rfl, rfl, rfl⟩
            case measure => simp [intOf]; omega
          rcases Bool.eq_false_or_eq_true (((s[k]'hlt).toNat : Int) == 46) with u2 | u2
          · clear hb
            cases bd with
            | true =>
              go_wp2_with fail
              (try simp only [Exit.inBlock, Exit.then]); (try rw [Exit.noGoto_ret]); refine bodyPost_ret (results_tmp7 rfl _ _ _) rfl ?_; exact ⟨⟨_, _, rfl⟩, rfl⟩
            | false =>
              go_wp2_with fail
              go_round
              case rel => exact ⟨k + 1, by omega, by go_num, ⟨_, rfl⟩, ⟨_, rfl⟩, rfl, rfl, rfl, rfl, rfl, rfl⟩
              case measure => simp [intOf]; omega
          by_cases u3 : (48 : Int) ≤ ((s[k]'hlt).toNat : Int)
          · have u4 : ¬ ((s[k]'hlt).toNat : Int) ≤ 57 := fun h => hb.1 ⟨by omega, by omega⟩
            clear hb
            go_wp2_with fail
            (try simp only [Exit.inBlock, Exit.then]); (try rw [Exit.noGoto_ret]); refine bodyPost_ret (results_tmp7 rfl _ _ _) rfl ?_; exact ⟨⟨_, _, rfl⟩, rfl⟩
          · clear hb
            go_wp2_with fail
            (try simp only [Exit.inBlock, Exit.then]); (try rw [Exit.noGoto_ret]); refine bodyPost_ret (results_tmp7 rfl _ _ _) rfl ?_; exact ⟨⟨_, _, rfl⟩, rfl⟩
        · go_wp2_with fail
          (try simp only [Exit.inBlock, Exit.then]); (try rw [Exit.noGoto_ret]); refine bodyPost_ret (results_tmp7 rfl _ _ _) rfl ?_; exact ⟨⟨_, _, rfl⟩, rfl⟩
end Go.Proofs.YthagnngckegekaaGreatDoor
