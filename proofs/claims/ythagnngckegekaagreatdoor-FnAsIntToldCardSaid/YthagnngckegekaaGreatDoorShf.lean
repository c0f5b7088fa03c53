/-
  Shift: a decimal times or divided by a power of two. Conditions: none.
-/
import Derived.Test.YthagnngckegekaaGreatDoorRsh
namespace Go.Proofs.YthagnngckegekaaGreatDoor
open Go.ChangeShapes Go.WideShapes Go.ChangeAt Go.RowKit
set_option linter.unusedVariables false
set_option linter.unusedSimpArgs false

/-- A decimal that is not nought: its point's place, its first digit, its sign. -/
def Dec (w : World) (g : Nat) (dp : Int) (d0 : Nat) (neg : Bool) : Prop :=
  ∃ (cur : List Nat) (nd : Nat) (tr : Bool), DM w g cur nd dp neg tr ∧ Good cur nd ∧ cur[0]? = some (48 + d0) ∧ 1 ≤ d0 ∧ d0 ≤ 9
theorem Dec.nd {w : World} {g : Nat} {dp : Int} {d0 : Nat} {neg : Bool} (h : Dec w g dp d0 neg) : ∃ nd : Nat, w.cell? ⟨g, 800, none⟩ = some (.int .i64 (nd : Int)) ∧ 1 ≤ nd ∧ nd ≤ 800 := by
  obtain ⟨cur, nd, tr, h1, h2, h3, h4, h5⟩ := h
  exact ⟨nd, h1.c_nd, h2.pos, h2.le⟩
theorem Dec.dp {w : World} {g : Nat} {dp : Int} {d0 : Nat} {neg : Bool} (h : Dec w g dp d0 neg) : w.cell? ⟨g, 801, none⟩ = some (.int .i64 dp) := by
  obtain ⟨cur, nd, tr, h1, h2, h3, h4, h5⟩ := h
  exact h1.c_dp
theorem Dec.neg {w : World} {g : Nat} {dp : Int} {d0 : Nat} {neg : Bool} (h : Dec w g dp d0 neg) : w.cell? ⟨g, 802, none⟩ = some (.bool neg) := by
  obtain ⟨cur, nd, tr, h1, h2, h3, h4, h5⟩ := h
  exact h1.c_neg
theorem Dec.d0 {w : World} {g : Nat} {dp : Int} {d0 : Nat} {neg : Bool} (h : Dec w g dp d0 neg) : w.cell? ⟨g, 0, none⟩ = some (.int .u8 ((48 + d0 : Nat) : Int)) := by
  obtain ⟨cur, nd, tr, h1, h2, h3, h4, h5⟩ := h
  exact h1.digit h3
theorem Dec.range {w : World} {g : Nat} {dp : Int} {d0 : Nat} {neg : Bool} (h : Dec w g dp d0 neg) : 1 ≤ d0 ∧ d0 ≤ 9 := by
  obtain ⟨cur, nd, tr, h1, h2, h3, h4, h5⟩ := h
  exact ⟨h4, h5⟩
theorem Dec.drewN {w : World} {g : Nat} {dp : Int} {d0 : Nat} {neg : Bool} (h : Dec w g dp d0 neg) (n : Nat) : Dec (w.drewN n) g dp d0 neg := by
  obtain ⟨cur, nd, tr, h1, h2, h3, h4, h5⟩ := h
  exact ⟨cur, nd, tr, h1.drewN n, h2, h3, h4, h5⟩

theorem CheatTab.bel {W w : World} (h : CheatTab W) (hb : Below W.heap.size W w) : CheatTab w := by
  obtain ⟨ad, c, h1, h2⟩ := h
  refine ⟨ad, c, cell_later hb h1, fun k hk => ?_⟩
  obtain ⟨h3, s, h4, h5⟩ := h2 k hk
  exact ⟨cell_later hb h3, s, cell_later hb h4, h5⟩
theorem CheatTab.lt {W : World} (h : CheatTab W) : 11 < W.heap.size := by
  obtain ⟨ad, c, h1, h2⟩ := h
  exact World.block_lt_of_cell? _ _ h1

def LShifted (g : Nat) (dp : Int) (d0 : Nat) (neg : Bool) (w : World) (e : Ending) (w' : World) : Prop :=
  e = .returned (.tuple #[]) ∧ ∃ (D h : Nat), Dec w' g (dp + (D : Int)) h neg ∧ Only g w w' ∧ D ≤ 19 ∧ (D = 0 → d0 < h)
theorem lsh_any {W w : World} {g d0 k : Nat} {dp : Int} {neg : Bool} (hT : CheatTab W) (hb : Below W.heap.size W w) (hgW : W.heap.size ≤ g) (hd : Dec w g dp d0 neg) (hdp : -100000000 ≤ dp ∧ dp ≤ 100000000) (hk : 1 ≤ k ∧ k ≤ 60) :
    Calls Tryz.prog 112 #[.pointer (some ⟨g, 0, none⟩), .int .u64 k] w (LShifted g dp d0 neg w) := by
  obtain ⟨cur, nd, tr, h1, h2, h3, h4, h5⟩ := hd
  have hg11 : g ≠ 11 := by have := hT.lt; omega
  refine (leftShift_any w h1 h2 h3 ⟨h4, h5⟩ hdp (hT.bel hb) hg11 hk).mono ?_
  rintro e w' ⟨rfl, cur', n, D, h, tr', g1, g2, g3, g4, g5, g6, g7⟩
  have hc := cheat hk.1 hk.2
  have hr : 1 ≤ h ∧ h ≤ 9 := by
    obtain ⟨x, hx, he⟩ := g2.dgs 0 (Nat.le_refl _) g2.pos
    rw [g6] at he
    have e1 := Option.some.inj he
    have hne := g2.head
    rw [g6] at hne
    have hne' : h ≠ 0 := by rintro rfl; exact hne rfl
    omega
  exact ⟨rfl, D, h, ⟨cur', n, tr', g1, g2, g6, hr.1, hr.2⟩, g3, by have := hc.few; omega, g7⟩

def RShiftedD (g : Nat) (dp : Int) (d0 : Nat) (neg : Bool) (k : Nat) (w : World) (e : Ending) (w' : World) : Prop :=
  e = .returned (.tuple #[]) ∧ ∃ (dp' : Int) (h : Nat), Dec w' g dp' h neg ∧ Only g w w' ∧ dp - k ≤ dp' ∧ dp' ≤ dp ∧ (k ≤ 60 → dp' = dp → 2 ^ k ≤ d0 ∧ h = d0 / 2 ^ k)
theorem rsh_any {w : World} {g d0 k : Nat} {dp : Int} {neg : Bool} (hd : Dec w g dp d0 neg) (hdp : -100000000 ≤ dp ∧ dp ≤ 100000000) (hk : 1 ≤ k ∧ k ≤ 60) :
    Calls Tryz.prog 113 #[.pointer (some ⟨g, 0, none⟩), .int .u64 k] w (RShiftedD g dp d0 neg k w) := by
  obtain ⟨cur, nd, tr, h1, h2, h3, h4, h5⟩ := hd
  refine (rightShift_any w h1 h2 h3 ⟨h4, h5⟩ hdp hk).mono ?_
  rintro e w' ⟨rfl, cur', n, h, dp', tr', g1, g2, g3, g4, g5, g6, g7, g8, g9⟩
  exact ⟨rfl, dp', h, ⟨cur', n, tr', g1, g2, g6, g7, g8⟩, g3, g4, g5, fun _ => g9⟩

set_option maxRecDepth 4000 in
set_option maxHeartbeats 4000000 in
/-- To the left, at most 60 places. -/
theorem shiftL_any {W w : World} {g d0 k : Nat} {dp : Int} {neg : Bool} (hT : CheatTab W) (hb : Below W.heap.size W w) (hgW : W.heap.size ≤ g) (hd : Dec w g dp d0 neg) (hdp : -100000000 ≤ dp ∧ dp ≤ 100000000) (hk : 1 ≤ k ∧ k ≤ 60) :
    Calls Tryz.prog 104 #[.pointer (some ⟨g, 0, none⟩), .int .i64 k] w (LShifted g dp d0 neg w) := by
  obtain ⟨nd, hnd, hnd1, hnd2⟩ := hd.nd
  have hn0 : ((nd : Int) == 0) = false := beq_eq_false_iff_ne.2 (by omega)
  have hk0 : (0 : Int) < (k : Int) := by omega
  have hk6 : ¬ (60 : Int) < (k : Int) := by omega
  have hk7 : (k : Int) ≤ 60 := by omega
  have hcall := Lib.hid (lsh_any hT hb hgW hd hdp hk)
  clear hT hb hgW hd hdp hk
  go_enter Tryz.func104, Tryz.ntmps104
  go_wp2_with fail
  go_loopw [1] (fun k1 wr => w = wr ∧ k1 = .int .i64 k) (fun _ _ => 0)
  case atStart => exact ⟨rfl, rfl⟩
  case round =>
    obtain ⟨rfl, rfl⟩ := hrel
    go_wp2_with fail
    refine hcall.out.mono ?_
    rintro e w' ⟨rfl, hq⟩
    have hqH := Lib.hid hq
    clear hq
    go_wp2_with fail
    go_end0
    exact ⟨rfl, hqH.out⟩

set_option maxRecDepth 4000 in
set_option maxHeartbeats 4000000 in
/-- To the right. -/
theorem shiftR_any {w : World} {g d0 k : Nat} {dp : Int} {neg : Bool} (hd : Dec w g dp d0 neg) (hdp : -10000000 ≤ dp ∧ dp ≤ 10000000) (hk : 1 ≤ k ∧ k ≤ 10000000) :
    Calls Tryz.prog 104 #[.pointer (some ⟨g, 0, none⟩), .int .i64 (-(k : Int))] w (RShiftedD g dp d0 neg k w) := by
  obtain ⟨nd, hnd, hnd1, hnd2⟩ := hd.nd
  have hn0 : ((nd : Int) == 0) = false := beq_eq_false_iff_ne.2 (by omega)
  have hk0 : ¬ (0 : Int) < -(k : Int) := by omega
  have hk1 : -(k : Int) < (0 : Int) := by omega
  have hkH := Lib.hid hk
  have hdH := Lib.hid hd
  have hdpH := Lib.hid hdp
  clear hk hd hdp
  go_enter Tryz.func104, Tryz.ntmps104
  go_wp2_with fail
  go_loopw [1] (fun k1 wr => ∃ (m h : Nat) (dp1 : Int), k1 = .int .i64 (-(m : Int)) ∧ Hid (1 ≤ m ∧ m ≤ k) ∧ Hid (Dec wr g dp1 h neg) ∧ Only g w wr ∧ Hid (dp - k + m ≤ dp1 ∧ dp1 ≤ dp ∧ (k ≤ 60 → m = k ∧ dp1 = dp ∧ h = d0))) (fun k1 _ => (-(intOf k1)).toNat)
  case atStart => exact ⟨k, d0, dp, rfl, Lib.hid ⟨hkH.out.1, Nat.le_refl _⟩, hdH, Only.refl g w, Lib.hid ⟨by omega, by omega, fun _ => ⟨rfl, rfl, rfl⟩⟩⟩
  case round =>
    obtain ⟨m, h, dp1, rfl, hm, hdd, hoo, hdd2⟩ := hrel
    have hm1 := hm.out.1
    have hm2 : m ≤ 10000000 := by have := hm.out; have := hkH.out; omega
    have hdp1 : -100000000 ≤ dp1 ∧ dp1 ≤ 100000000 := by have := hdd2.out; have := hdpH.out; have := hkH.out; omega
    by_cases h60 : 60 < m
    · have hc1 : -(m : Int) < -60 := by omega
      have hcall := Lib.hid (rsh_any (k := 60) hdd.out hdp1 ⟨by omega, by omega⟩)
      clear hdp1
      go_wp2_with fail
      refine hcall.out.mono ?_
      rintro e w' ⟨rfl, dp2, h2, g1, g2, g3, g4, g5⟩
      have g1H := Lib.hid g1
      have g3H := Lib.hid (And.intro g3 g4)
      clear g1 g3 g4 g5
      have hmm : ((m - 60 : Nat) : Int) = (m : Int) - 60 := by omega
      have hmmH := Lib.hid hmm
      clear hmm
      go_wp2_with fail
      refine ⟨⟨m - 60, h2, dp2, by rw [hmmH.out]; congr 1; omega, Lib.hid (by have := hm.out; omega), g1H, hoo.trans g2, Lib.hid ?_⟩, ?_⟩
      · have := hdd2.out
        have := g3H.out
        have := hm.out
        refine ⟨by omega, by omega, by omega⟩
      · simp [intOf]
        omega
    · have hc1 : ¬ -(m : Int) < -60 := by omega
      have hcall := Lib.hid (rsh_any (k := m) hdd.out hdp1 ⟨by omega, by omega⟩)
      clear hdp1
      go_wp2_with fail
      refine hcall.out.mono ?_
      rintro e w' ⟨rfl, dp2, h2, g1, g2, g3, g4, g5⟩
      have g1H := Lib.hid g1
      have g3H := Lib.hid (And.intro g3 (And.intro g4 g5))
      clear g1 g3 g4 g5
      go_wp2_with fail
      go_end0
      refine ⟨rfl, dp2, h2, g1H.out, hoo.trans g2, by have := hdd2.out; have := g3H.out; omega, by have := hdd2.out; have := g3H.out; omega, ?_⟩
      intro hk6 e
      obtain ⟨rfl, rfl, rfl⟩ := hdd2.out.2.2 hk6
      exact g3H.out.2.2 hk6 e
end Go.Proofs.YthagnngckegekaaGreatDoor
