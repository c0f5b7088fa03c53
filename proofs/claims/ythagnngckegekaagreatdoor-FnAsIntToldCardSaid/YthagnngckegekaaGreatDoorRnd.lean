/-
  shouldRoundUp and RoundedInteger return. Conditions: none.
-/
import Derived.Test.YthagnngckegekaaGreatDoorShf
namespace Go.Proofs.YthagnngckegekaaGreatDoor
open Go.ChangeShapes Go.WideShapes Go.ChangeAt Go.RowKit
set_option linter.unusedVariables false
set_option linter.unusedSimpArgs false

def ABool (w : World) (e : Ending) (w' : World) : Prop := w' = w ∧ ∃ b : Bool, e = .returned (.bool b)
def AnU64 (w : World) (e : Ending) (w' : World) : Prop := w' = w ∧ ∃ z : Int, e = .returned (.int .u64 z)

set_option maxRecDepth 4000 in
set_option maxHeartbeats 4000000 in
theorem roundUp_any {w : World} {g d0 : Nat} {dp z : Int} {neg : Bool} (hd : Dec w g dp d0 neg) (hz : -100000000 ≤ z ∧ z ≤ 100000000) :
    Calls Tryz.prog 114 #[.pointer (some ⟨g, 0, none⟩), .int .i64 z] w (ABool w) := by
  obtain ⟨cur, nd, tr, hm, hg, h3, h4, h5⟩ := hd
  have hnd := hm.c_nd
  have htr := hm.c_tr
  have hnd1 := hg.pos
  have hnd2 := hg.le
  have hmH := Lib.hid hm
  clear hm hg h3 h4 h5
  by_cases hz0 : z < 0
  · clear hmH hz
    go_enter Tryz.func114, Tryz.ntmps114
    go_wp2_with fail
    go_ret
    exact ⟨rfl, _, rfl⟩
  obtain ⟨n, rfl⟩ : ∃ n : Nat, z = (n : Int) := ⟨z.toNat, by omega⟩
  clear hz0
  by_cases hzn : nd ≤ n
  · have q1 : ¬ (n : Int) < 0 := by omega
    have q2 : (nd : Int) ≤ (n : Int) := by omega
    clear hmH hz hzn
    go_enter Tryz.func114, Tryz.ntmps114
    go_wp2_with fail
    go_ret
    exact ⟨rfl, _, rfl⟩
  have q1 : ¬ (n : Int) < 0 := by omega
  have q2 : ¬ (nd : Int) ≤ (n : Int) := by omega
  have q3 : (n : Int) < 800 := by omega
  have q4 : (0 : Int) ≤ (n : Int) := by omega
  obtain ⟨b, hb, hbl⟩ := hmH.out.get (show n < 800 by omega)
  have hcell := hmH.out.digit hb
  rcases Bool.eq_false_or_eq_true ((b : Int) == 53) with c1 | c1
  · rcases Bool.eq_false_or_eq_true (((n : Int) + 1) == (nd : Int)) with c2 | c2
    · cases tr with
      | true =>
        clear hmH hz hzn hb
        go_enter Tryz.func114, Tryz.ntmps114
        go_wp2_with fail
        go_ret
        exact ⟨rfl, _, rfl⟩
      | false =>
        by_cases hn0 : 0 < n
        · obtain ⟨m, rfl⟩ : ∃ m, n = m + 1 := ⟨n - 1, by omega⟩
          obtain ⟨b2, hb2, hbl2⟩ := hmH.out.get (show m < 800 by omega)
          have hcell2 := hmH.out.digit hb2
          have q5 : (0 : Int) < ((m + 1 : Nat) : Int) := by omega
          have q6 : (m : Int) < 800 := by omega
          clear hmH hz hzn hb hb2
          go_enter Tryz.func114, Tryz.ntmps114
          go_wp2_with fail
          go_ret
          exact ⟨rfl, _, rfl⟩
        · have q5 : ¬ (0 : Int) < (n : Int) := by omega
          clear hmH hz hzn hb
          go_enter Tryz.func114, Tryz.ntmps114
          go_wp2_with fail
          go_ret
          exact ⟨rfl, _, rfl⟩
    · clear hmH hz hzn hb
      go_enter Tryz.func114, Tryz.ntmps114
      go_wp2_with fail
      go_ret
      exact ⟨rfl, _, rfl⟩
  · clear hmH hz hzn hb
    go_enter Tryz.func114, Tryz.ntmps114
    go_wp2_with fail
    go_ret
    exact ⟨rfl, _, rfl⟩

set_option maxRecDepth 4000 in
set_option maxHeartbeats 4000000 in
theorem rounded_any {w : World} {g d0 : Nat} {dp : Int} {neg : Bool} (hd : Dec w g dp d0 neg) (hz : -100000000 ≤ dp ∧ dp ≤ 100000000) :
    Calls Tryz.prog 105 #[.pointer (some ⟨g, 0, none⟩)] w (AnU64 w) := by
  have hcall := Lib.hid (roundUp_any hd hz)
  obtain ⟨cur, nd, tr, hm, hg, h3, h4, h5⟩ := hd
  have hnd := hm.c_nd
  have hdp := hm.c_dp
  have hnd1 := hg.pos
  have hnd2 := hg.le
  have hmH := Lib.hid hm
  clear hm hg h3 h4 h5
  by_cases hz0 : 20 < dp
  · clear hmH hz hcall
    go_enter Tryz.func105, Tryz.ntmps105
    go_wp2_with fail
    go_ret
    exact ⟨rfl, _, rfl⟩
  go_enter Tryz.func105, Tryz.ntmps105
  go_wp2_with fail
  go_loopw [3, 4] (fun i n wr => w = wr ∧ (∃ m : Nat, m ≤ 800 ∧ i = .int .i64 m) ∧ ∃ z : Int, n = .int .u64 z) (fun i _ _ => 800 - (intOf i).toNat)
  case atStart => exact ⟨rfl, ⟨0, by omega, rfl⟩, 0, rfl⟩
  case round =>
    obtain ⟨rfl, ⟨i, hi8, rfl⟩, z, rfl⟩ := hrel
    have q0 : (i : Int) ≤ 800 := by omega
    by_cases hid : (i : Int) < dp
    · by_cases hin : i < nd
      · obtain ⟨b, hb, hbl⟩ := hmH.out.get (show i < 800 by omega)
        have hcell := hmH.out.digit hb
        have q1 : (i : Int) < (nd : Int) := by omega
        have q2 : (i : Int) < 800 := by omega
        clear hb hin hcall
        go_wp2_with fail
        go_roundw
        case rel => exact ⟨by trivial, ⟨i + 1, by omega, by go_num⟩, _, rfl⟩
        case measure => simp [intOf]; omega
      · have q1 : ¬ (i : Int) < (nd : Int) := by omega
        clear hin
        go_wp2_with fail
        go_loopw [3, 4] (fun i n wr => w = wr ∧ (∃ m : Nat, m ≤ 1000 ∧ i = .int .i64 m) ∧ ∃ z : Int, n = .int .u64 z) (fun i _ _ => 1000 - (intOf i).toNat)
        case atStart => exact ⟨rfl, ⟨i, by omega, rfl⟩, z, rfl⟩
        case round =>
          obtain ⟨rfl, ⟨i, hi8, rfl⟩, z, rfl⟩ := hrel
          have q0 : (i : Int) ≤ 1000 := by omega
          by_cases hid : (i : Int) < dp
          · have q9 : (i : Int) < 800 := by omega
            clear hcall
            go_wp2_with fail
            go_roundw
            case rel => exact ⟨by trivial, ⟨i + 1, by omega, by go_num⟩, _, rfl⟩
            case measure => simp [intOf]; omega
          · go_wp2_with fail
            refine hcall.out.mono ?_
            rintro e w' ⟨rfl, b, rfl⟩
            clear hcall
            cases b with
            | true =>
              go_wp2_with fail
              go_ret
              exact ⟨rfl, _, rfl⟩
            | false =>
              go_wp2_with fail
              go_ret
              exact ⟨rfl, _, rfl⟩
    · go_wp2_with fail
      go_loopw [3, 4] (fun i n wr => w = wr ∧ (∃ m : Nat, m ≤ 1000 ∧ i = .int .i64 m) ∧ ∃ z : Int, n = .int .u64 z) (fun i _ _ => 1000 - (intOf i).toNat)
      case atStart => exact ⟨rfl, ⟨i, by omega, rfl⟩, z, rfl⟩
      case round =>
        obtain ⟨rfl, ⟨i, hi8, rfl⟩, z, rfl⟩ := hrel
        have q0 : (i : Int) ≤ 1000 := by omega
        by_cases hid : (i : Int) < dp
        · have q9 : (i : Int) < 800 := by omega
          clear hcall
          go_wp2_with fail
          go_roundw
          case rel => exact ⟨by trivial, ⟨i + 1, by omega, by go_num⟩, _, rfl⟩
          case measure => simp [intOf]; omega
        · go_wp2_with fail
          refine hcall.out.mono ?_
          rintro e w' ⟨rfl, b, rfl⟩
          clear hcall
          cases b with
          | true =>
            go_wp2_with fail
            go_ret
            exact ⟨rfl, _, rfl⟩
          | false =>
            go_wp2_with fail
            go_ret
            exact ⟨rfl, _, rfl⟩
end Go.Proofs.YthagnngckegekaaGreatDoor
