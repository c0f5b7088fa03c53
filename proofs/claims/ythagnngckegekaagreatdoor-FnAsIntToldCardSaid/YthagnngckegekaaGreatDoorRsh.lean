/-
  rightShift: a decimal divided by a power of two. Conditions: none.
-/
import Derived.Test.YthagnngckegekaaGreatDoorLsh
import Derived.Deep.LoopGhost
import Derived.Laws.Bits64b
namespace Go.Proofs.YthagnngckegekaaGreatDoor
open Go.ChangeShapes Go.WideShapes Go.ChangeAt Go.RowKit
set_option linter.unusedVariables false
set_option linter.unusedSimpArgs false

theorem rs_big {n k : Nat} (hn : ¬ n < 2 ^ k) : (((n : Int) / 2 ^ k) == 0) = false := by
  rw [beq_eq_false_iff_ne]
  intro e
  have hp : (0 : Int) < 2 ^ k := by exact_mod_cast (Nat.pow_pos (by decide) : 0 < 2 ^ k)
  have := Int.lt_mul_of_ediv_lt hp (show (n : Int) / 2 ^ k < 1 by omega)
  rw [Int.one_mul] at this
  exact hn (by exact_mod_cast this)

/-- What rightShift leaves. -/
def RShifted (g d0 : Nat) (dp : Int) (neg : Bool) (k : Nat) (w : World) (e : Ending) (w' : World) : Prop :=
  e = .returned (.tuple #[]) ∧ ∃ (cur : List Nat) (n h : Nat) (dp' : Int) (tr : Bool), DM w' g cur n dp' neg tr ∧ Good cur n ∧ Only g w w' ∧ dp - k ≤ dp' ∧ dp' ≤ dp ∧ cur[0]? = some (48 + h) ∧ 1 ≤ h ∧ h ≤ 9 ∧ (dp' = dp → 2 ^ k ≤ d0 ∧ h = d0 / 2 ^ k)

/-- The first loop: r digits are read. -/
structure RS1 (d0 k r n : Nat) : Prop where
  lt : n < 10 * 2 ^ k
  zero : r = 0 → n = 0
  one : r = 1 → n = d0
  low : 1 ≤ r → 10 ^ (r - 1) ≤ n
  prev : 2 ≤ r → 10 ^ (r - 2) < 2 ^ k

theorem RS1.step {d0 k r n d : Nat} (h : RS1 d0 k r n) (hn : n < 2 ^ k) (hd : d ≤ 9) (h0 : r = 0 → d = d0 ∧ 1 ≤ d0) : RS1 d0 k (r + 1) (n * 10 + d) := by
  refine ⟨by omega, by omega, ?_, ?_, ?_⟩
  · intro e
    obtain rfl : r = 0 := by omega
    have := h.zero rfl
    have := h0 rfl
    omega
  · intro _
    rw [Nat.add_sub_cancel]
    rcases Nat.eq_zero_or_pos r with rfl | hr
    · have := h.zero rfl
      have := h0 rfl
      simp
      omega
    · obtain ⟨m, rfl⟩ : ∃ m, r = m + 1 := ⟨r - 1, by omega⟩
      have := h.low (by omega)
      rw [Nat.add_sub_cancel] at this
      rw [Nat.pow_succ]
      omega
  · intro h2
    have := h.low (by omega)
    rw [show r + 1 - 2 = r - 1 by omega]
    omega
theorem RS1.few {d0 k r n : Nat} (h : RS1 d0 k r n) : r ≤ k + 1 := by
  apply Decidable.byContradiction
  intro hr
  have h1 := h.prev (by omega)
  have h2 : 2 ^ k ≤ 10 ^ k := Nat.pow_le_pow_left (by decide) k
  have h3 : 10 ^ k ≤ 10 ^ (r - 2) := Nat.pow_le_pow_right (by decide) (by omega)
  omega
theorem RS1.pos {d0 k r n : Nat} (h : RS1 d0 k r n) (hr : 1 ≤ r) : 1 ≤ n := by
  have := h.low hr
  have : 0 < 10 ^ (r - 1) := Nat.pow_pos (by decide)
  omega

/-- The second and the third loop: v digits are written. -/
structure RS2 (wr w : World) (g : Nat) (cur0 : List Nat) (nd : Nat) (dp1 : Int) (neg : Bool) (k n0 v n : Nat) (cur : List Nat) (tr : Bool) : Prop where
  mem : DM wr g cur nd dp1 neg tr
  only : Only g w wr
  lt : n < 10 * 2 ^ k
  dgs : Dgs cur 0 v
  rest : ∀ i, v ≤ i → cur[i]? = cur0[i]?
  le : v ≤ 800
  zero : v = 0 → n = n0
  head : 1 ≤ v → cur[0]? = some (48 + n0 / 2 ^ k)

theorem quo9 {n k : Nat} (h : n < 10 * 2 ^ k) : n / 2 ^ k ≤ 9 := by
  have : n / 2 ^ k < 10 := Nat.div_lt_of_lt_mul (by rw [Nat.mul_comm]; exact h)
  omega
theorem RS2.step {wr w : World} {g : Nat} {cur0 : List Nat} {nd : Nat} {dp1 : Int} {neg : Bool} {k n0 v n : Nat} {cur : List Nat} {tr : Bool} (h : RS2 wr w g cur0 nd dp1 neg k n0 v n cur tr) (hv : v < 800) {wn : World} (ho : Only g w wn)
    (hm : DM wn g (cur.set v (48 + n / 2 ^ k)) nd dp1 neg tr) {n' : Nat} (hn : n' < 10 * 2 ^ k) : RS2 wn w g cur0 nd dp1 neg k n0 (v + 1) n' (cur.set v (48 + n / 2 ^ k)) tr := by
  refine ⟨hm, ho, hn, h.dgs.snoc (quo9 h.lt) (by rw [h.mem.len]; exact hv), ?_, by omega, by omega, ?_⟩
  · intro i hi
    rw [List.getElem?_set, if_neg (by omega)]
    exact h.rest i (by omega)
  · intro _
    rw [List.getElem?_set]
    rcases Nat.eq_zero_or_pos v with rfl | hv0
    · rw [h.zero rfl]
      simp [h.mem.len]
    · rw [if_neg (by omega)]
      exact h.head hv0
theorem RS2.stay {wr w : World} {g : Nat} {cur0 : List Nat} {nd : Nat} {dp1 : Int} {neg : Bool} {k n0 v n : Nat} {cur : List Nat} {tr : Bool} (h : RS2 wr w g cur0 nd dp1 neg k n0 v n cur tr) (hv : 1 ≤ v) {wn : World} (ho : Only g w wn) {tr' : Bool}
    (hm : DM wn g cur nd dp1 neg tr') {n' : Nat} (hn : n' < 10 * 2 ^ k) : RS2 wn w g cur0 nd dp1 neg k n0 v n' cur tr' :=
  ⟨hm, ho, hn, h.dgs, h.rest, h.le, by omega, h.head⟩
/-- What is left is a multiple of a higher power of two. -/
theorem twos {k j n : Nat} (hj : j ≤ k) (hd : 2 ^ j ∣ n) (h0 : n % 2 ^ k * 10 ≠ 0) : j < k ∧ 2 ^ (j + 1) ∣ n % 2 ^ k * 10 := by
  have h1 : 2 ^ j ∣ n % 2 ^ k := (Nat.dvd_mod_iff (Nat.pow_dvd_pow 2 hj)).2 hd
  refine ⟨?_, ?_⟩
  · apply Decidable.byContradiction
    intro hn
    obtain rfl : j = k := by omega
    rw [Nat.mod_eq_zero_of_dvd hd] at h0
    exact h0 (by simp)
  · rw [Nat.pow_succ]
    exact Nat.mul_dvd_mul h1 (by decide)

/-- The numbers of a round. -/
theorem rs_put {n k M : Nat} (hn : n < 10 * 2 ^ k) (hM : M + 1 = 2 ^ k) (hp : 2 ^ k ≤ 1152921504606846976) : ∃ q S m : Nat, (n : Int) / 2 ^ k = (q : Int) ∧ IntKind.u64.wrap ((q : Int) + 48) = (S : Int) ∧ (S : Int) % 256 = (S : Int) ∧ q = n / 2 ^ k ∧ S = 48 + n / 2 ^ k ∧ m = n % 2 ^ k ∧ bits .and .u64 (n : Int) (M : Int) = (m : Int) ∧ S < 256 ∧ m < 2 ^ k := by
  have h9 := quo9 hn
  refine ⟨n / 2 ^ k, 48 + n / 2 ^ k, n % 2 ^ k, by push_cast; rfl, ?_, ?_, rfl, rfl, rfl, ?_, ?_, Nat.mod_lt _ (Nat.pow_pos (by decide))⟩
  · rw [IntKind.wrap_u64]; generalize n / 2 ^ k = q at *; omega
  · generalize n / 2 ^ k = q at *; omega
  · rw [bits_and_u64_nat _ _ (by omega) (by omega), show M = 2 ^ k - 1 by omega, Nat.and_two_pow_sub_one_eq_mod]
  · generalize n / 2 ^ k = q at *; omega

theorem rs_wraps {n b : Nat} (hn : n < 1152921504606846976) (hb : 48 ≤ b ∧ b ≤ 57) : ∃ X Y Z : Nat, IntKind.u64.wrap ((n : Int) * 10) = (X : Int) ∧ IntKind.u64.wrap ((X : Int) + (b : Int)) = (Y : Int) ∧ IntKind.u64.wrap ((Y : Int) - 48) = (Z : Int) ∧ Z = n * 10 + (b - 48) := by
  refine ⟨n * 10, n * 10 + b, n * 10 + (b - 48), ?_, ?_, ?_, rfl⟩
  · rw [IntKind.wrap_u64]; omega
  · rw [IntKind.wrap_u64]; omega
  · rw [IntKind.wrap_u64]; omega
theorem rs_wraps0 {n : Nat} (hn : n < 1152921504606846976) : ∃ X : Nat, IntKind.u64.wrap ((n : Int) * 10) = (X : Int) ∧ X = n * 10 := by
  refine ⟨n * 10, ?_, rfl⟩
  rw [IntKind.wrap_u64]; omega

set_option maxRecDepth 4000 in
set_option maxHeartbeats 8000000 in
theorem rightShift_any {g : Nat} {cur : List Nat} {nd d0 k : Nat} {dp : Int} {neg tr : Bool} (w : World) (hm : DM w g cur nd dp neg tr) (hg : Good cur nd) (hd0 : cur[0]? = some (48 + d0)) (hd1 : 1 ≤ d0 ∧ d0 ≤ 9) (hdp : -100000000 ≤ dp ∧ dp ≤ 100000000) (hk : 1 ≤ k ∧ k ≤ 60) :
    Calls Tryz.prog 113 #[.pointer (some ⟨g, 0, none⟩), .int .u64 k] w (RShifted g d0 dp neg k w) := by
  have hnd800 := hg.le
  have hnd1 := hg.pos
  have hpow := pow60 hk.2
  have hkk1 := hk.1
  have hkk2 := hk.2
  have hkb : k < 64 := by omega
  have hfr := hm.frozen 800
  have hnd := hm.c_nd
  have hdpc := hm.c_dp
  have hf9 := hm.frozen 801
  obtain ⟨M, P2, wM1, wM2, eM⟩ : ∃ M P2 : Nat, IntKind.u64.wrap (2 ^ k) = (P2 : Int) ∧ IntKind.u64.wrap ((P2 : Int) - 1) = (M : Int) ∧ M + 1 = 2 ^ k := by
    have hp : 0 < 2 ^ k := Nat.pow_pos (by decide)
    refine ⟨2 ^ k - 1, 2 ^ k, ?_, ?_, by omega⟩
    · rw [IntKind.wrap_u64]
      have e : ((2 : Int) ^ k) = ((2 ^ k : Nat) : Int) := by push_cast; rfl
      rw [e]
      generalize 2 ^ k = Y at *
      omega
    · rw [IntKind.wrap_u64]
      generalize 2 ^ k = Y at *
      omega
  have eMH := Lib.hid eM
  clear eM
  have hmH := Lib.hid hm
  have hgH := Lib.hid hg
  have hd0H := Lib.hid hd0
  have hpowH := Lib.hid hpow
  have hd1H := Lib.hid hd1
  clear hm hg hd0 hpow hk hd1
  go_enter Tryz.func113, Tryz.ntmps113
  go_wp2_with fail
  go_loopg [4, 6] nd (fun gk r4 n6 wr => ∃ r n : Nat, w = wr ∧ r4 = .int .i64 r ∧ n6 = .int .u64 n ∧ r + gk = nd ∧ RS1 d0 k r n)
  case atStart => exact ⟨0, 0, rfl, rfl, rfl, by omega, by have : 0 < 2 ^ k := Nat.pow_pos (by decide); omega, fun _ => rfl, by omega, by omega, by omega⟩
  case round =>
    obtain ⟨r, n, rfl, rfl, rfl, hrg, hr1⟩ := hrel
    have hrH := Lib.hid hr1
    have hrgH := Lib.hid hrg
    have hp1 : (0 : Int) ≤ (r : Int) := by omega
    have hp2 : (r : Int) ≤ 800 := by omega
    have hfew := hr1.few
    have hlt10 := hr1.lt
    have hp3 : (r : Int) ≤ 61 := by omega
    clear hfew
    by_cases hn : n < 2 ^ k
    · have hz : (((n : Int) / 2 ^ k) == 0) = true := by
        rw [beq_iff_eq]
        exact Int.ediv_eq_zero_of_lt (by omega) (by exact_mod_cast hn)
      have hnb : n < 1152921504606846976 := by have := hpowH.out; omega
      by_cases hrn : r < nd
      · obtain ⟨b, hb, hb2⟩ := hmH.out.get (show r < 800 by omega)
        have hcell := hmH.out.digit hb
        have hb1 : 48 ≤ b ∧ b ≤ 57 := by
          obtain ⟨d, hd9, he⟩ := hgH.out.dgs r (by omega) (by omega)
          rw [he] at hb
          cases hb
          omega
        have h00 : r = 0 → b - 48 = d0 ∧ 1 ≤ d0 := by
          intro e
          have hx := hd0H.out
          rw [← e, hb] at hx
          simp at hx
          have := hd1H.out
          omega
        have hst := hr1.step hn (d := b - 48) (by omega) h00
        have hp4 : (r : Int) < 800 := by omega
        obtain ⟨X, Y, Z, wX, wY, wZ, eZ⟩ := rs_wraps hnb hb1
        rw [← eZ] at hst
        have hstH := Lib.hid hst
        clear hr1 hrg hst h00 hb hn hlt10 hnb hb1 eZ
        go_wp2_with fail
        go_roundg (gk - 1)
        case measure => have := hrgH.out; omega
        case rel => exact ⟨r + 1, Z, rfl, by go_num, rfl, by have := hrgH.out; omega, hstH.out⟩
      · have hn1 := hr1.pos (by omega)
        obtain rfl : nd = r := by omega
        have hn0 : ((n : Int) == 0) = false := beq_eq_false_iff_ne.2 (by omega)
        clear hr1 hrg hlt10 hrn
        go_wp2_with fail
        go_loopw [4, 6] (fun r4 n6 wr => ∃ r n : Nat, w = wr ∧ r4 = .int .i64 r ∧ n6 = .int .u64 n ∧ 1 ≤ r ∧ Hid (nd ≤ r) ∧ Hid (RS1 d0 k r n)) (fun _ n6 _ => 10 * 2 ^ k - (intOf n6).toNat)
        case atStart => exact ⟨nd, n, rfl, rfl, rfl, hnd1, Lib.hid (Nat.le_refl _), hrH⟩
        case round =>
          obtain ⟨r, n, rfl, rfl, rfl, hr1, hndr, hrs⟩ := hrel
          have hfew := hrs.out.few
          have hp3 : (r : Int) ≤ 61 := by omega
          clear hfew
          have hn1 := hrs.out.pos hr1
          have hlt10 := hrs.out.lt
          by_cases hn : n < 2 ^ k
          · have hz : (((n : Int) / 2 ^ k) == 0) = true := by
              rw [beq_iff_eq]
              exact Int.ediv_eq_zero_of_lt (by omega) (by exact_mod_cast hn)
            have hnb : n < 1152921504606846976 := by have := hpowH.out; omega
            obtain ⟨X, wX, eX⟩ := rs_wraps0 hnb
            have hst := hrs.out.step hn (d := 0) (by omega) (by omega)
            rw [Nat.add_zero, ← eX] at hst
            have hstH := Lib.hid hst
            have hms : 10 * 2 ^ k - X < 10 * 2 ^ k - n := by omega
            have hmsH := Lib.hid hms
            clear hn hlt10 hnb eX hst hms hn1
            go_wp2_with fail
            go_roundw
            case rel => exact ⟨r + 1, X, by trivial, by go_num, rfl, by omega, Lib.hid (by have := hndr.out; omega), hstH⟩
            case measure => simpa [intOf] using hmsH.out
          · have hz : (((n : Int) / 2 ^ k) == 0) = false := rs_big hn
            have hlt10 := hrs.out.lt
            have hn0 : 1 ≤ n := hrs.out.pos hr1
            have hnge : 2 ^ k ≤ n := by omega
            have hd1' : r = 1 → n = d0 := hrs.out.one
            have hkr : (r : Int) - 1 ≤ k := by have := hrs.out.few; omega
            have hngH := Lib.hid hnge
            have hdH := Lib.hid hd1'
            have hltH := Lib.hid hlt10
            clear hn hnge hd1' hlt10 hn0
            go_wp2_with fail
            obtain ⟨dp1, hdp1⟩ : ∃ z, dp - ((r : Int) - 1) = z := ⟨_, rfl⟩
            rw [hdp1]
            have hb1 : dp - k ≤ dp1 := by omega
            have hb2 : dp1 ≤ dp := by omega
            have hb3 : dp1 = dp → r = 1 := by intro e; omega
            have hb1H := Lib.hid hb1
            have hb2H := Lib.hid hb2
            have hb3H := Lib.hid hb3
            have hini := Lib.hid (RS2.mk (w := w) (cur0 := cur) (n0 := n) (v := 0) (hmH.out.setP dp1) (only_set _ _ _ _) hltH.out (by intro i h1 h2; omega) (fun _ _ => rfl) (by omega) (fun _ => rfl) (by omega) : RS2 (w.setCell ⟨g, 801, none⟩ (.int .i64 dp1)) w g cur nd dp1 neg k n 0 n cur tr)
            clear hb1 hb2 hb3 hdp1 hkr hdpc hdp hz
            generalize n = n0 at *
            go_loopw [4, 5, 6, 9, 10] (fun r4 v5 n6 _ _ wr => ∃ (r v n : Nat) (cur' : List Nat) (tr' : Bool), r4 = .int .i64 r ∧ v5 = .int .i64 v ∧ n6 = .int .u64 n ∧ Hid (v < r) ∧ Hid (RS2 wr w g cur nd dp1 neg k n0 v n cur' tr')) (fun r4 _ _ _ _ _ => nd - (intOf r4).toNat)
            case atStart => exact ⟨r, 0, n0, cur, tr, rfl, rfl, rfl, Lib.hid hr1, hini⟩
            case round =>
              clear hini
              obtain ⟨r, v, n, cur', tr', rfl, rfl, rfl, hvr, hrs2⟩ := hrel
              have hmr := hrs2.out.mem
              have hndc := hmr.c_nd
              by_cases hrn : r < nd
              · have hv800 : v < 800 := by have := hvr.out; omega
                obtain ⟨b, hb, hb2⟩ := hmr.get (show r < 800 by omega)
                have hcell := hmr.digit hb
                have hb1 : 48 ≤ b ∧ b ≤ 57 := by
                  obtain ⟨d, hd9, he⟩ := hgH.out.dgs r (by omega) hrn
                  rw [hrs2.out.rest r (by have := hvr.out; omega), he] at hb
                  cases hb
                  omega
                obtain ⟨bv, hbv, _⟩ := hmr.get hv800
                have hcv := hmr.digit hbv
                have hfv := hmr.frozen v
                obtain ⟨q, S, m, wq, wS, wT, eq, eS, em, eA, hS, hm2⟩ := rs_put hrs2.out.lt eMH.out hpowH.out
                obtain ⟨X, Y, Z, wX, wY, wZ, eZ⟩ := rs_wraps (n := m) (b := b) (by have := hpowH.out; omega) hb1
                have hZ : Z < 10 * 2 ^ k := by omega
                have hst : ∀ wn : World, Only g w wn → DM wn g (cur'.set v S) nd dp1 neg tr' → RS2 wn w g cur nd dp1 neg k n0 (v + 1) Z (cur'.set v S) tr' := by
                  intro wn h1 h2
                  rw [eS] at h2 ⊢
                  exact hrs2.out.step hv800 h1 h2 hZ
                have hstH := Lib.hid hst
                have hmrH := Lib.hid hmr
                have hi1 : (v : Int) < 800 := by omega
                have hi2 : (r : Int) < 800 := by omega
                clear hst hmr hb hbv eq eS em hZ hm2 eZ hb1
                go_wp2_with fail
                refine ⟨⟨r + 1, v + 1, Z, _, tr', by go_num, by go_num, rfl, Lib.hid (by have := hvr.out; omega), Lib.hid (hstH.out _ (hrs2.out.only.trans (only_set _ _ _ _)) (hmrH.out.setD hv800 hS))⟩, ?_⟩
                simp [intOf]
                omega
              · have hmrH := Lib.hid hmr
                clear hmr
                go_wp2_with fail
                clear hrn hndc
                go_loopg [5, 6, 11] (k + 1) (fun gk v5 n6 _ wr => ∃ (v n : Nat) (cur' : List Nat) (tr' : Bool), v5 = .int .i64 v ∧ n6 = .int .u64 n ∧ Hid (RS2 wr w g cur nd dp1 neg k n0 v n cur' tr') ∧ Hid (n ≠ 0 → 1 ≤ gk ∧ gk ≤ k + 1 ∧ 2 ^ (k + 1 - gk) ∣ n))
                case atStart => exact ⟨v, n, cur', tr', rfl, rfl, hrs2, Lib.hid (fun _ => ⟨by omega, Nat.le_refl _, by simp⟩)⟩
                case round =>
                  clear hrs2 hmrH
                  obtain ⟨v, n, cur', tr', rfl, rfl, hrs2, hgk⟩ := hrel
                  have hmr := hrs2.out.mem
                  by_cases hn0 : 0 < n
                  · obtain ⟨hg1, hg2, hg3⟩ := hgk.out (by omega)
                    obtain ⟨q, S, m, wq, wS, wT, eq, eS, em, eA, hS, hm2⟩ := rs_put hrs2.out.lt eMH.out hpowH.out
                    obtain ⟨X, wX, eX⟩ := rs_wraps0 (n := m) (by have := hpowH.out; omega)
                    have hX : X < 10 * 2 ^ k := by omega
                    have hnx : X ≠ 0 → 1 ≤ gk - 1 ∧ gk - 1 ≤ k + 1 ∧ 2 ^ (k + 1 - (gk - 1)) ∣ X := by
                      intro h0
                      obtain ⟨t1, t2⟩ := twos (k := k) (j := k + 1 - gk) (n := n) (by omega) hg3 (by rw [← em, ← eX]; exact h0)
                      refine ⟨by omega, by omega, ?_⟩
                      rw [show k + 1 - (gk - 1) = k + 1 - gk + 1 by omega, eX, em]
                      exact t2
                    have hnxH := Lib.hid hnx
                    have hg1H := Lib.hid hg1
                    have q7 : (0 : Int) < (n : Int) := by omega
                    have hvle := hrs2.out.le
                    by_cases hv800 : v < 800
                    · obtain ⟨bv, hbv, _⟩ := hmr.get hv800
                      have hcv := hmr.digit hbv
                      have hfv := hmr.frozen v
                      have hst : ∀ wn : World, Only g w wn → DM wn g (cur'.set v S) nd dp1 neg tr' → RS2 wn w g cur nd dp1 neg k n0 (v + 1) X (cur'.set v S) tr' := by
                        intro wn h1 h2
                        rw [eS] at h2 ⊢
                        exact hrs2.out.step hv800 h1 h2 hX
                      have hstH := Lib.hid hst
                      have hmrH := Lib.hid hmr
                      have hi1 : (v : Int) < 800 := by omega
                      clear hst hmr hbv eq eS em hX hm2 eX hnx hg1 hg2 hg3 hvle
                      go_wp2_with fail
                      go_roundg (gk - 1)
                      case measure => have := hg1H.out; omega
                      case rel => exact ⟨v + 1, X, _, tr', by go_num, rfl, Lib.hid (hstH.out _ (hrs2.out.only.trans (only_set _ _ _ _)) (hmrH.out.setD hv800 hS)), hnxH⟩
                    · have hc3 := hmr.c_tr
                      have hf3 := hmr.frozen 803
                      have hst : ∀ (wn : World) (tr2 : Bool), Only g w wn → DM wn g cur' nd dp1 neg tr2 → RS2 wn w g cur nd dp1 neg k n0 v X cur' tr2 := fun wn tr2 h1 h2 => hrs2.out.stay (by omega) h1 h2 hX
                      have hstH := Lib.hid hst
                      have hmrH := Lib.hid hmr
                      have hi1 : ¬ (v : Int) < 800 := by omega
                      have hi2 : (v : Int) ≤ 800 := by omega
                      clear hst hmr eq eS em hX hm2 eX hnx hg1 hg2 hg3 hvle
                      by_cases hq : (0 : Int) < (q : Int)
                      · go_wp2_with fail
                        go_roundg (gk - 1)
                        case measure => have := hg1H.out; omega
                        case rel => exact ⟨v, X, _, true, rfl, rfl, Lib.hid (hstH.out _ _ (hrs2.out.only.trans (only_set _ _ _ _)) (hmrH.out.setT true)), hnxH⟩
                      · have hq2 : ¬ 0 < q := by omega
                        go_wp2_with fail
                        go_roundg (gk - 1)
                        case measure => have := hg1H.out; omega
                        case rel => exact ⟨v, X, _, tr', rfl, rfl, Lib.hid (hstH.out _ _ hrs2.out.only hmrH.out), hnxH⟩
                  · obtain rfl : n = 0 := by omega
                    have hv1 : 1 ≤ v := by
                      apply Decidable.byContradiction
                      intro h0
                      have e1 := hrs2.out.zero (by omega)
                      have e2 := hngH.out
                      have e3 : 0 < 2 ^ k := Nat.pow_pos (by decide)
                      omega
                    have hmrH := Lib.hid hmr
                    have hc8 := hmr.c_nd
                    have hf8 := hmr.frozen 800
                    have hh := hrs2.out.head hv1
                    have hq1 : 1 ≤ n0 / 2 ^ k := (Nat.le_div_iff_mul_le (Nat.pow_pos (by decide))).2 (by have := hngH.out; omega)
                    have hq9 := quo9 hltH.out
                    have hgd : Good cur' v := ⟨hv1, hrs2.out.le, hrs2.out.dgs, by rw [hh]; intro e; have := Option.some.inj e; omega⟩
                    have hdm := hmr.setN v
                    have hdmH := Lib.hid hdm
                    have hgdH := Lib.hid hgd
                    have hhH := Lib.hid hh
                    have hq1H := Lib.hid hq1
                    have hq9H := Lib.hid hq9
                    clear hmr hh hgd hdm hq1 hq9
                    go_wp2_with fail
                    refine (trim_any _ hdmH.out hgdH.out).mono ?_
                    rintro e w2 ⟨rfl, n2, g1, g2, g3, g4⟩
                    go_wp2_with fail
                    go_end0
                    refine ⟨rfl, cur', n2, n0 / 2 ^ k, dp1, tr', g1, g2, (hrs2.out.only.trans (only_set _ _ _ _)).trans g4, hb1H.out, hb2H.out, hhH.out, hq1H.out, hq9H.out, ?_⟩
                    intro e
                    have e1 := hdH.out (hb3H.out e)
                    have e2 := hngH.out
                    rw [← e1]
                    exact ⟨e2, rfl⟩
    · have hz : (((n : Int) / 2 ^ k) == 0) = false := rs_big hn
      have hr1' : 1 ≤ r := by
        apply Decidable.byContradiction
        intro h0
        have := hr1.zero (by omega)
        have : 0 < 2 ^ k := Nat.pow_pos (by decide)
        omega
      have hrs := Lib.hid hr1
      clear hr1 hrg
      have hr1 := hr1'
      clear hr1'
      have hlt10 := hrs.out.lt
      have hn0 : 1 ≤ n := hrs.out.pos hr1
      have hnge : 2 ^ k ≤ n := by omega
      have hd1' : r = 1 → n = d0 := hrs.out.one
      have hkr : (r : Int) - 1 ≤ k := by have := hrs.out.few; omega
      have hngH := Lib.hid hnge
      have hdH := Lib.hid hd1'
      have hltH := Lib.hid hlt10
      clear hn hnge hd1' hlt10 hn0
      go_wp2_with fail
      obtain ⟨dp1, hdp1⟩ : ∃ z, dp - ((r : Int) - 1) = z := ⟨_, rfl⟩
      rw [hdp1]
      have hb1 : dp - k ≤ dp1 := by omega
      have hb2 : dp1 ≤ dp := by omega
      have hb3 : dp1 = dp → r = 1 := by intro e; omega
      have hb1H := Lib.hid hb1
      have hb2H := Lib.hid hb2
      have hb3H := Lib.hid hb3
      have hini := Lib.hid (RS2.mk (w := w) (cur0 := cur) (n0 := n) (v := 0) (hmH.out.setP dp1) (only_set _ _ _ _) hltH.out (by intro i h1 h2; omega) (fun _ _ => rfl) (by omega) (fun _ => rfl) (by omega) : RS2 (w.setCell ⟨g, 801, none⟩ (.int .i64 dp1)) w g cur nd dp1 neg k n 0 n cur tr)
      clear hb1 hb2 hb3 hdp1 hkr hdpc hdp hz
      generalize n = n0 at *
      go_loopw [4, 5, 6, 9, 10] (fun r4 v5 n6 _ _ wr => ∃ (r v n : Nat) (cur' : List Nat) (tr' : Bool), r4 = .int .i64 r ∧ v5 = .int .i64 v ∧ n6 = .int .u64 n ∧ Hid (v < r) ∧ Hid (RS2 wr w g cur nd dp1 neg k n0 v n cur' tr')) (fun r4 _ _ _ _ _ => nd - (intOf r4).toNat)
      case atStart => exact ⟨r, 0, n0, cur, tr, rfl, rfl, rfl, Lib.hid hr1, hini⟩
      case round =>
        clear hini
        obtain ⟨r, v, n, cur', tr', rfl, rfl, rfl, hvr, hrs2⟩ := hrel
        have hmr := hrs2.out.mem
        have hndc := hmr.c_nd
        by_cases hrn : r < nd
        · have hv800 : v < 800 := by have := hvr.out; omega
          obtain ⟨b, hb, hb2⟩ := hmr.get (show r < 800 by omega)
          have hcell := hmr.digit hb
          have hb1 : 48 ≤ b ∧ b ≤ 57 := by
            obtain ⟨d, hd9, he⟩ := hgH.out.dgs r (by omega) hrn
            rw [hrs2.out.rest r (by have := hvr.out; omega), he] at hb
            cases hb
            omega
          obtain ⟨bv, hbv, _⟩ := hmr.get hv800
          have hcv := hmr.digit hbv
          have hfv := hmr.frozen v
          obtain ⟨q, S, m, wq, wS, wT, eq, eS, em, eA, hS, hm2⟩ := rs_put hrs2.out.lt eMH.out hpowH.out
          obtain ⟨X, Y, Z, wX, wY, wZ, eZ⟩ := rs_wraps (n := m) (b := b) (by have := hpowH.out; omega) hb1
          have hZ : Z < 10 * 2 ^ k := by omega
          have hst : ∀ wn : World, Only g w wn → DM wn g (cur'.set v S) nd dp1 neg tr' → RS2 wn w g cur nd dp1 neg k n0 (v + 1) Z (cur'.set v S) tr' := by
            intro wn h1 h2
            rw [eS] at h2 ⊢
            exact hrs2.out.step hv800 h1 h2 hZ
          have hstH := Lib.hid hst
          have hmrH := Lib.hid hmr
          have hi1 : (v : Int) < 800 := by omega
          have hi2 : (r : Int) < 800 := by omega
          clear hst hmr hb hbv eq eS em hZ hm2 eZ hb1
          go_wp2_with fail
          refine ⟨⟨r + 1, v + 1, Z, _, tr', by go_num, by go_num, rfl, Lib.hid (by have := hvr.out; omega), Lib.hid (hstH.out _ (hrs2.out.only.trans (only_set _ _ _ _)) (hmrH.out.setD hv800 hS))⟩, ?_⟩
          simp [intOf]
          omega
        · have hmrH := Lib.hid hmr
          clear hmr
          go_wp2_with fail
          clear hrn hndc
          go_loopg [5, 6, 11] (k + 1) (fun gk v5 n6 _ wr => ∃ (v n : Nat) (cur' : List Nat) (tr' : Bool), v5 = .int .i64 v ∧ n6 = .int .u64 n ∧ Hid (RS2 wr w g cur nd dp1 neg k n0 v n cur' tr') ∧ Hid (n ≠ 0 → 1 ≤ gk ∧ gk ≤ k + 1 ∧ 2 ^ (k + 1 - gk) ∣ n))
          case atStart => exact ⟨v, n, cur', tr', rfl, rfl, hrs2, Lib.hid (fun _ => ⟨by omega, Nat.le_refl _, by simp⟩)⟩
          case round =>
            clear hrs2 hmrH
            obtain ⟨v, n, cur', tr', rfl, rfl, hrs2, hgk⟩ := hrel
            have hmr := hrs2.out.mem
            by_cases hn0 : 0 < n
            · obtain ⟨hg1, hg2, hg3⟩ := hgk.out (by omega)
              obtain ⟨q, S, m, wq, wS, wT, eq, eS, em, eA, hS, hm2⟩ := rs_put hrs2.out.lt eMH.out hpowH.out
              obtain ⟨X, wX, eX⟩ := rs_wraps0 (n := m) (by have := hpowH.out; omega)
              have hX : X < 10 * 2 ^ k := by omega
              have hnx : X ≠ 0 → 1 ≤ gk - 1 ∧ gk - 1 ≤ k + 1 ∧ 2 ^ (k + 1 - (gk - 1)) ∣ X := by
                intro h0
                obtain ⟨t1, t2⟩ := twos (k := k) (j := k + 1 - gk) (n := n) (by omega) hg3 (by rw [← em, ← eX]; exact h0)
                refine ⟨by omega, by omega, ?_⟩
                rw [show k + 1 - (gk - 1) = k + 1 - gk + 1 by omega, eX, em]
                exact t2
              have hnxH := Lib.hid hnx
              have hg1H := Lib.hid hg1
              have q7 : (0 : Int) < (n : Int) := by omega
              have hvle := hrs2.out.le
              by_cases hv800 : v < 800
              · obtain ⟨bv, hbv, _⟩ := hmr.get hv800
                have hcv := hmr.digit hbv
                have hfv := hmr.frozen v
                have hst : ∀ wn : World, Only g w wn → DM wn g (cur'.set v S) nd dp1 neg tr' → RS2 wn w g cur nd dp1 neg k n0 (v + 1) X (cur'.set v S) tr' := by
                  intro wn h1 h2
                  rw [eS] at h2 ⊢
                  exact hrs2.out.step hv800 h1 h2 hX
                have hstH := Lib.hid hst
                have hmrH := Lib.hid hmr
                have hi1 : (v : Int) < 800 := by omega
                clear hst hmr hbv eq eS em hX hm2 eX hnx hg1 hg2 hg3 hvle
                go_wp2_with fail
                go_roundg (gk - 1)
                case measure => have := hg1H.out; omega
                case rel => exact ⟨v + 1, X, _, tr', by go_num, rfl, Lib.hid (hstH.out _ (hrs2.out.only.trans (only_set _ _ _ _)) (hmrH.out.setD hv800 hS)), hnxH⟩
              · have hc3 := hmr.c_tr
                have hf3 := hmr.frozen 803
                have hst : ∀ (wn : World) (tr2 : Bool), Only g w wn → DM wn g cur' nd dp1 neg tr2 → RS2 wn w g cur nd dp1 neg k n0 v X cur' tr2 := fun wn tr2 h1 h2 => hrs2.out.stay (by omega) h1 h2 hX
                have hstH := Lib.hid hst
                have hmrH := Lib.hid hmr
                have hi1 : ¬ (v : Int) < 800 := by omega
                have hi2 : (v : Int) ≤ 800 := by omega
                clear hst hmr eq eS em hX hm2 eX hnx hg1 hg2 hg3 hvle
                by_cases hq : (0 : Int) < (q : Int)
                · go_wp2_with fail
                  go_roundg (gk - 1)
                  case measure => have := hg1H.out; omega
                  case rel => exact ⟨v, X, _, true, rfl, rfl, Lib.hid (hstH.out _ _ (hrs2.out.only.trans (only_set _ _ _ _)) (hmrH.out.setT true)), hnxH⟩
                · have hq2 : ¬ 0 < q := by omega
                  go_wp2_with fail
                  go_roundg (gk - 1)
                  case measure => have := hg1H.out; omega
                  case rel => exact ⟨v, X, _, tr', rfl, rfl, Lib.hid (hstH.out _ _ hrs2.out.only hmrH.out), hnxH⟩
            · obtain rfl : n = 0 := by omega
              have hv1 : 1 ≤ v := by
                apply Decidable.byContradiction
                intro h0
                have e1 := hrs2.out.zero (by omega)
                have e2 := hngH.out
                have e3 : 0 < 2 ^ k := Nat.pow_pos (by decide)
                omega
              have hmrH := Lib.hid hmr
              have hc8 := hmr.c_nd
              have hf8 := hmr.frozen 800
              have hh := hrs2.out.head hv1
              have hq1 : 1 ≤ n0 / 2 ^ k := (Nat.le_div_iff_mul_le (Nat.pow_pos (by decide))).2 (by have := hngH.out; omega)
              have hq9 := quo9 hltH.out
              have hgd : Good cur' v := ⟨hv1, hrs2.out.le, hrs2.out.dgs, by rw [hh]; intro e; have := Option.some.inj e; omega⟩
              have hdm := hmr.setN v
              have hdmH := Lib.hid hdm
              have hgdH := Lib.hid hgd
              have hhH := Lib.hid hh
              have hq1H := Lib.hid hq1
              have hq9H := Lib.hid hq9
              clear hmr hh hgd hdm hq1 hq9
              go_wp2_with fail
              refine (trim_any _ hdmH.out hgdH.out).mono ?_
              rintro e w2 ⟨rfl, n2, g1, g2, g3, g4⟩
              go_wp2_with fail
              go_end0
              refine ⟨rfl, cur', n2, n0 / 2 ^ k, dp1, tr', g1, g2, (hrs2.out.only.trans (only_set _ _ _ _)).trans g4, hb1H.out, hb2H.out, hhH.out, hq1H.out, hq9H.out, ?_⟩
              intro e
              have e1 := hdH.out (hb3H.out e)
              have e2 := hngH.out
              rw [← e1]
              exact ⟨e2, rfl⟩
end Go.Proofs.YthagnngckegekaaGreatDoor
