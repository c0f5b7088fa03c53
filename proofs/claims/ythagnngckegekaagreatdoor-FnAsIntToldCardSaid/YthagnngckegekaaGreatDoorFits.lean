/-
  What zzFits2 and zzFits1 answer. Conditions: none.
-/
import Derived.Test.YthagnngckegekaaGreatDoorOpen
namespace Go.Proofs.YthagnngckegekaaGreatDoor
open Go.ChangeShapes Go.WideShapes Go.ChangeAt Go.RowKit
set_option linter.unusedVariables false

def fits2 (xs : List ByteArray) : Bool := decide (xs.length ≤ 2147483647) && xs.all (fun s => decide (s.size ≤ 2147483647))

theorem fits2_step {xs : List ByteArray} {k : Nat} {s : ByteArray} (hs : xs[k]? = some s) : (xs.take (k + 1)).all (fun s => decide (s.size ≤ 2147483647)) = ((xs.take k).all (fun s => decide (s.size ≤ 2147483647)) && decide (s.size ≤ 2147483647)) := by
  rw [List.take_add_one, hs]
  simp

set_option maxHeartbeats 400000 in
theorem zzFits2_any {ok : Nat → Prop} (A : Option Addr) (xs : List ByteArray) (c : Nat) (w : World) (hA : Strs ok w A xs) (hl : xs.length ≤ 140737488351232) :
    Calls Tryz.prog 12 #[.slice A xs.length c] w fun e w' => e = .returned (.bool (fits2 xs)) ∧ w' = w := by
  by_cases hlen : xs.length ≤ 2147483647
  · have hb : fits2 xs = xs.all (fun s => decide (s.size ≤ 2147483647)) := by simp [fits2, hlen]
    rw [hb]
    clear hb
    go_enter Tryz.func12, Tryz.ntmps12
    go_wp2
    go_loop [10] (fun i => ∃ k : Nat, k ≤ xs.length ∧ i = .int .i64 k ∧ Hid ((xs.take k).all (fun s => decide (s.size ≤ 2147483647)) = true)) (fun i => xs.length - (intOf i).toNat)
    case atStart => exact ⟨0, Nat.zero_le _, rfl, by simp [Hid]⟩
    case round =>
      obtain ⟨k, hk, rfl, hh⟩ := hrel
      by_cases hlt : k < xs.length
      · obtain ⟨s, hs⟩ : ∃ s, xs[k]? = some s := ⟨_, List.getElem?_eq_getElem hlt⟩
        have hst := Lib.hid (fits2_step hs)
        obtain ⟨ad, rfl, _, hc, hsz⟩ := hA.at_ hs
        clear hA
        have hs' := Lib.hid hs
        clear hs
        by_cases hz : s.size ≤ 2147483647
        · go_wp2
          go_round
          case rel => exact ⟨k + 1, by omega, by go_num, by show _ = true; rw [hst.out, hh.out]; simp [hz]⟩
          case measure => simp [intOf]; omega
        · go_wp2
          go_ret
          refine ⟨?_, rfl⟩
          have : xs.all (fun s => decide (s.size ≤ 2147483647)) = false := by
            rw [List.all_eq_false]
            exact ⟨s, List.mem_of_getElem? hs'.out, by simpa using hz⟩
          rw [this]; rfl
      · go_wp2
        go_ret
        refine ⟨?_, rfl⟩
        have := hh.out
        rw [List.take_of_length_le (by omega)] at this
        rw [this]; rfl
  · have hb : fits2 xs = false := by simp [fits2, hlen]
    rw [hb]
    clear hb
    go_enter Tryz.func12, Tryz.ntmps12
    go_wp2
    go_ret
    exact ⟨rfl, rfl⟩
end Go.Proofs.YthagnngckegekaaGreatDoor
