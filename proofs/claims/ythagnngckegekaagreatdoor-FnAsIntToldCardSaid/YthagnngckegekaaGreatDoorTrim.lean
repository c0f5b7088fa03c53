/-
  trim: the noughts at a decimal's end are left out. Conditions: none.
-/
import Derived.Test.YthagnngckegekaaGreatDoorDm
import Derived.BigQuiet
import Derived.Deep.QuietTactic
namespace Go.Proofs.YthagnngckegekaaGreatDoor
open Go.ChangeShapes Go.WideShapes Go.ChangeAt Go.RowKit
set_option linter.unusedVariables false
set_option linter.unusedSimpArgs false

/-- What trim leaves. -/
def Trimmed (g : Nat) (cur : List Nat) (nd : Nat) (dp : Int) (neg tr : Bool) (w : World) (e : Ending) (w' : World) : Prop :=
  e = .returned (.tuple #[]) ∧ ∃ n, DM w' g cur n dp neg tr ∧ Good cur n ∧ n ≤ nd ∧ Only g w w'

set_option maxHeartbeats 4000000 in
theorem trim_any {g : Nat} {cur : List Nat} {nd : Nat} {dp : Int} {neg tr : Bool} (w : World) (hm : DM w g cur nd dp neg tr) (hg : Good cur nd) :
    Calls Tryz.prog 119 #[.pointer (some ⟨g, 0, none⟩)] w (Trimmed g cur nd dp neg tr w) := by
  go_enter Tryz.func119, Tryz.ntmps119
  go_wp2_with fail
  go_loopw [] (fun wr => ∃ n, DM wr g cur n dp neg tr ∧ Good cur n ∧ n ≤ nd ∧ Only g w wr) (fun wr => ndOf g wr)
  case atStart => exact ⟨nd, hm, hg, Nat.le_refl _, Only.refl g w⟩
  case round =>
    obtain ⟨n, hm1, hg1, hn1, ho1⟩ := hrel
    have hmo := Lib.hid hm1
    have hc0 := hm1.c_nd
    obtain ⟨m, rfl⟩ : ∃ m, n = m + 1 := ⟨n - 1, by have := hg1.pos; omega⟩
    have hm800 : m < 800 := by have := hg1.le; omega
    obtain ⟨b, hb, hbl⟩ := hm1.get hm800
    have hb1 := hm1.digit hb
    have q1 : (0 : Int) < ((m + 1 : Nat) : Int) := by omega
    clear hb1
    have hb1 := hm1.digit hb
    rcases Bool.eq_false_or_eq_true ((b : Int) == 48) with z | z
    · have hf0 := hm1.frozen 800
      have hpos : 1 ≤ m := by
        by_cases h : 1 ≤ m
        · exact h
        · exfalso
          obtain rfl : m = 0 := by omega
          have e48 : b = 48 := by have := eq_of_beq z; omega
          exact hg1.head (by rw [hb, e48])
      have hg2 : Good cur m := ⟨hpos, by omega, hg1.dgs.sub (Nat.le_refl _) (by omega), hg1.head⟩
      clear hb hbl hm1 hg1 hpos
      have hg2 := Lib.hid hg2
      have hn2 := Lib.hid hn1
      clear hn1
      go_wp2_with fail
      go_quiet (fail)
      go_wp2_with fail
      have hd := (hmo.out.drewN nq).setN m
      refine ⟨⟨m, hd, hg2.out, by have := hn2.out; omega, (ho1.drewN nq).trans (only_set _ _ _ _)⟩, ?_⟩
      rw [hd.ndOf, hmo.out.ndOf]
      omega
    · have hg2 := Lib.hid hg1
      have hn2 := Lib.hid hn1
      clear hb hbl hm1 hg1 hn1
      go_wp2_with fail
      go_quiet (fail)
      go_wp2_with fail
      go_end0
      exact ⟨rfl, _, hmo.out.drewN nq, hg2.out, hn2.out, ho1.drewN nq⟩
end Go.Proofs.YthagnngckegekaaGreatDoor
