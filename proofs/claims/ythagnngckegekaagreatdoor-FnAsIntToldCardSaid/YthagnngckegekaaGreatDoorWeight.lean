/-
  weight: what is left of a number. Conditions: none.
-/
import Derived.Test.YthagnngckegekaaGreatDoorTree
namespace Go.Proofs.YthagnngckegekaaGreatDoor
open Go.ChangeShapes Go.WideShapes Go.ChangeAt Go.RowKit
set_option linter.unusedVariables false

set_option maxHeartbeats 1000000 in
theorem weight_any (v : V) : ∀ {ok : Nat → Prop} (A B : Option Addr) (ca cb : Nat) (m : Int) (w : World) (hb : Bds v ca cb) (hB : Strs ok w B v.keys) (hA : Vals ok w A v.l) (hm0 : 0 ≤ m) (hm : m ≤ 1000000),
    Calls Tryz.prog 22 #[.agg #[.int .i64 v.kind, .int .i64 v.n, .float .f64 v.f, .string v.s, .slice A v.l.length ca, .slice B v.keys.length cb], .int .i64 m] w fun e w' =>
      ∃ r : Int, e = .returned (.int .i64 r) ∧ -281474976710656 ≤ r ∧ r ≤ m ∧ (0 ≤ r → r = m - v.wt) ∧ Below w.heap.size w w' := by
  induction v using V.ind with
  | h v ih =>
  intro ok A B ca cb m w hb hB hA hm0 hm
  obtain ⟨_, _, _, hs, _, _, _, _, hla, hlb⟩ := hb
  go_enter Tryz.func22, Tryz.ntmps22
  have IH := Lib.hid ih
  clear ih
  go_wp2_with fail
  go_loopw [1, 5] (fun n i wr => ∃ (k : Nat) (q : Int), k ≤ v.keys.length ∧ i = .int .i64 k ∧ n = .int .i64 q ∧ -281474976710656 ≤ q ∧ q ≤ m ∧ Hid (0 ≤ q → q = m - ((1 + v.s.size + v.keys.length + sumS (v.keys.take k) : Nat) : Int)) ∧ Below (w.heap.size + 1) (w.alloc (valObj v A ca B cb)) wr) (fun _ i _ => v.keys.length - (intOf i).toNat)
  case atStart => exact ⟨0, _, Nat.zero_le _, rfl, rfl, by omega, by omega, fun _ => by simp [sumS]; omega, Below.refl _ _⟩
  case round =>
    obtain ⟨k, q, hk, rfl, rfl, hq0, hq1, hq, hbel⟩ := hrel
    obtain ⟨⟨b0, b1, b2, b3, b4, b5⟩, hbw⟩ := boxed hbel
    by_cases hcont : k < v.keys.length ∧ 0 ≤ q
    · obtain ⟨hlt, hqm⟩ := hcont
      obtain ⟨s, hs'⟩ := get_lt hlt
      have hss := Lib.hid (sumS_snoc hs')
      obtain ⟨ad, rfl, _, hc, hsz⟩ := (hB.bel hbw).at_ hs'
      clear hs'
      go_wp2_with fail
      go_roundw
      case rel => exact ⟨k + 1, _, by omega, by go_num, rfl, by omega, by omega, fun _ => by have := hq hqm; rw [hss.out]; push_cast at this ⊢; omega, hbel⟩
      case measure => simp [intOf]; omega
    · have hq2 : Hid (0 ≤ q → q = m - ((1 + v.s.size + v.keys.length + sumS v.keys + V.wts (v.l.take 0) : Nat) : Int)) := fun h => by
        have h1 := hq h
        rw [take_all (fun h2 => hcont ⟨h2, h⟩)] at h1
        simpa [V.wts] using h1
      have hcont' := Lib.hid hcont
      clear hq hcont hB
      by_cases hlt : k < v.keys.length
      rotate_left
      have hqm : True := trivial
      rotate_left
      have hqm : ¬ 0 ≤ q := fun h => hcont'.out ⟨hlt, h⟩
      all_goals
        clear hcont'
        go_wp2_with fail
        have hq3 := hq2
        clear hq2
        go_loopw [1, 6] (fun n i wr => ∃ (k : Nat) (q : Int), k ≤ v.l.length ∧ i = .int .i64 k ∧ n = .int .i64 q ∧ -281474976710656 ≤ q ∧ q ≤ m ∧ Hid (0 ≤ q → q = m - ((1 + v.s.size + v.keys.length + sumS v.keys + V.wts (v.l.take k) : Nat) : Int)) ∧ Below (w.heap.size + 1) (w.alloc (valObj v A ca B cb)) wr) (fun _ i _ => v.l.length - (intOf i).toNat)
        case atStart => exact ⟨0, q, Nat.zero_le _, rfl, rfl, hq0, hq1, hq3, hbel⟩
        case round =>
          clear hqm hlt hq3 hk hq0 hq1 hbw hbel b0 b1 b2 b3 b4 b5
          obtain ⟨j, p, hj, rfl, rfl, hp0, hp1, hp, hbel⟩ := hrel
          obtain ⟨⟨b0, b1, b2, b3, b4, b5⟩, hbw⟩ := boxed hbel
          by_cases hcont : j < v.l.length ∧ 0 ≤ p
          · obtain ⟨hlt, hpm⟩ := hcont
            obtain ⟨x, hx⟩ := get_lt hlt
            have hxm := Lib.hid (get_mem hx)
            have hss := Lib.hid (wts_snoc hx)
            obtain ⟨ad, Ai, ci, Bi, di, rfl, _, ⟨e0, e1, e2, e3, e4, e5⟩, hbx, hBx, hAx⟩ := (hA.bel hbw).at_ hx
            clear hx hA
            go_wp2_with fail
            have hle := below_boxed_size hbel
            refine (IH.out x hxm.out Ai Bi ci di p wr hbx hBx hAx (by omega) (by omega)).mono ?_
            rintro e w2 ⟨r, rfl, hr0, hr1, hr, hb2⟩
            have hr' := Lib.hid hr
            have hbel2 := hbel.trans (hb2.mono hle)
            clear hr b0 b1 b2 b3 b4 b5 e0 e1 e2 e3 e4 e5
            go_wp2_with fail
            go_roundw
            case rel => exact ⟨j + 1, _, by omega, by go_num, rfl, by omega, by omega, fun h => by have h1 := hp hpm; have h2 := hr'.out (by omega); rw [hss.out]; push_cast at h1 h2 ⊢; omega, hbel2⟩
            case measure => simp [intOf]; omega
          · have hfin : Hid (0 ≤ p → p = m - (v.wt : Int)) := fun h => by
              have h1 := hp h
              rw [take_all (fun h2 => hcont ⟨h2, h⟩)] at h1
              rw [V.wt_eq]; exact h1
            have hcont' := Lib.hid hcont
            clear hp hcont
            by_cases hlt : j < v.l.length
            · have hpm : ¬ 0 ≤ p := fun h => hcont'.out ⟨hlt, h⟩
              clear hcont'
              go_wp2_with fail
              go_ret
              exact ⟨p, rfl, hp0, hp1, hfin.out, hbw⟩
            · clear hcont'
              go_wp2_with fail
              go_ret
              exact ⟨p, rfl, hp0, hp1, hfin.out, hbw⟩
end Go.Proofs.YthagnngckegekaaGreatDoor
