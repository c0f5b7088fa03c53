/-
  floatBits returns. Conditions: none.
-/
import Derived.Test.YthagnngckegekaaGreatDoorRnd
import Derived.ScopeJumps
namespace Go.Proofs.YthagnngckegekaaGreatDoor
open Go.ChangeShapes Go.WideShapes Go.ChangeAt Go.RowKit
set_option linter.unusedVariables false
set_option linter.unusedSimpArgs false

/-- A scope with labels that the run jumps to but once: at a goto what stands behind the label is walked. -/
def Exit.into (P : Program) (c : Code) (Q : Exit → Act → World → Prop) : Exit → Act → World → Prop
  | .goto l, a, w => ∃ rest, findLabel c l = some rest ∧ rest.wp P (Exit.noGoto Q) a w
  | e, a, w => Q e a w
theorem wp_scope_into {P : Program} {a : Act} {w : World} {Q : Exit → Act → World → Prop} {c : Code} (first : c.wp P (Exit.into P c Q) a w) : (Code.scope c).wp P Q a w := by
  intro b k cs
  obtain ⟨e, a₁, w₁, hq, harr⟩ := first b (.inScope c :: k) cs
  cases e with
  | normal => exact ⟨.normal, a₁, w₁, hq, .head step_scope (Steps.trans harr (.one step_inScope))⟩
  | exit id => exact ⟨.exit id, a₁, w₁, hq, fun k' hk => .head step_scope (harr k' (by simp [exitTo, hk]))⟩
  | goto l' =>
    obtain ⟨rest, hf, hw⟩ := hq
    have hg : gotoIn l' (.inScope c :: k) = some (.code rest :: .inScope c :: k) := by simp [gotoIn, hf]
    obtain ⟨e₂, a₂, w₂, hq₂, harr₂⟩ := hw b (.inScope c :: k) cs
    refine ⟨e₂, a₂, w₂, ?_, .of_steps (.head step_scope (harr _ hg)) ?_⟩
    · cases e₂ with
      | goto l => exact hq₂.elim
      | normal => exact hq₂
      | exit id => exact hq₂
      | ret => exact hq₂
      | panic ch => exact hq₂
      | outgrown => exact hq₂
    · cases e₂ with
      | normal => exact Steps.trans harr₂ (.one step_inScope)
      | exit id => exact fun k' hk => harr₂ k' (by simp [exitTo, hk])
      | goto l => exact hq₂.elim
      | ret => exact harr₂
      | panic ch => exact harr₂
      | outgrown => exact harr₂
  | ret => exact ⟨_, a₁, w₁, hq, .of_steps (.one step_scope) harr⟩
  | panic ch => exact ⟨_, a₁, w₁, hq, .of_steps (.one step_scope) harr⟩
  | outgrown => exact ⟨_, a₁, w₁, hq, .of_steps (.one step_scope) harr⟩
theorem Exit.into_ret {P : Program} {c : Code} {Q : Exit → Act → World → Prop} {a : Act} {w : World} : Exit.into P c Q .ret a w = Q .ret a w := rfl

def powL : List Nat := [1, 3, 6, 9, 13, 16, 19, 23, 26]
/-- The tables of powers and of the format lie in memory. -/
structure FloTab (w : World) : Prop where
  pow : ∃ ad c, w.cell? ⟨7, 0, none⟩ = some (.slice (some ad) 9 c) ∧ ∀ k p : Nat, powL[k]? = some p → w.cell? (ad.add k) = some (.int .i64 (p : Int))
  mant : w.cell? ⟨5, 0, none⟩ = some (.int .u64 52)
  exp : w.cell? ⟨5, 1, none⟩ = some (.int .u64 11)
  bias : w.cell? ⟨5, 2, none⟩ = some (.int .i64 (-1023))
theorem FloTab.bel {W w : World} (h : FloTab W) (hb : Below W.heap.size W w) : FloTab w := by
  obtain ⟨⟨ad, c, h1, h2⟩, h3, h4, h5⟩ := h
  exact ⟨⟨ad, c, cell_later hb h1, fun k p hk => cell_later hb (h2 k p hk)⟩, cell_later hb h3, cell_later hb h4, cell_later hb h5⟩

/-- What floatBits hands back. -/
def Bitted (g : Nat) (w : World) (e : Ending) (w' : World) : Prop := (∃ (z : Int) (b : Bool), e = .returned (.tuple #[.int .u64 z, .bool b])) ∧ Only g w w'

set_option maxRecDepth 4000 in
set_option maxHeartbeats 8000000 in
theorem floatBits_nought {W w : World} {g : Nat} {cur : List Nat} {dp : Int} {neg tr : Bool} (hT : FloTab W) (hb : Below W.heap.size W w) (hm : DM w g cur 0 dp neg tr) :
    Calls Tryz.prog 87 #[.pointer (some ⟨g, 0, none⟩), .pointer (some ⟨5, 0, none⟩)] w (Bitted g w) := by
  obtain ⟨-, t1, t2, t3⟩ := hT.bel hb
  have hnd := hm.c_nd
  have hng := hm.c_neg
  clear hT hb hm
  go_enter Tryz.func87, Tryz.ntmps87
  go_wp2_with fail
  refine wp_scope_into ?_
  go_hide hQ
  go_wp2_with fail
  have hoo := Only.refl g w
  refine wp_goto ?_
  simp only [Exit.then, Exit.inBlock]
  subst hQ
  refine ⟨_, rfl, ?_⟩
  go_wp2_with fail
  go_quiet (fail)
  go_wp2_with fail
  · go_quiet (fail)
    go_wp2_with fail
    (try rw [Exit.noGoto_ret])
    go_ret2
    refine ⟨⟨_, _, rfl⟩, ?_⟩
    first | exact hoo | exact hoo.drewN _ | exact (hoo.drewN _).drewN _ | exact ((hoo.drewN _).drewN _).drewN _
  · (try rw [Exit.noGoto_ret])
    go_ret2
    refine ⟨⟨_, _, rfl⟩, ?_⟩
    first | exact hoo | exact hoo.drewN _ | exact (hoo.drewN _).drewN _ | exact ((hoo.drewN _).drewN _).drewN _

theorem powL_get {k : Nat} (hk : k < 9) : ∃ p, powL[k]? = some p ∧ 1 ≤ p ∧ p ≤ 26 ∧ (1 ≤ k → 3 ≤ p) := by
  rcases k with _ | _ | _ | _ | _ | _ | _ | _ | _ | k
  all_goals first | exact ⟨_, rfl, by decide, by decide, by decide⟩ | omega

theorem shiftR_at {w : World} {g d0 k : Nat} {dp z : Int} {neg : Bool} (hz : z = -(k : Int)) (hd : Dec w g dp d0 neg) (hdp : -10000000 ≤ dp ∧ dp ≤ 10000000) (hk : 1 ≤ k ∧ k ≤ 10000000) :
    Calls Tryz.prog 104 #[.pointer (some ⟨g, 0, none⟩), .int .i64 z] w (RShiftedD g dp d0 neg k w) := by
  subst hz
  exact shiftR_any hd hdp hk
theorem shiftL_at {W w : World} {g d0 k : Nat} {dp z : Int} {neg : Bool} (hz : z = (k : Int)) (hT : CheatTab W) (hb : Below W.heap.size W w) (hgW : W.heap.size ≤ g) (hd : Dec w g dp d0 neg) (hdp : -100000000 ≤ dp ∧ dp ≤ 100000000) (hk : 1 ≤ k ∧ k ≤ 60) :
    Calls Tryz.prog 104 #[.pointer (some ⟨g, 0, none⟩), .int .i64 z] w (LShifted g dp d0 neg w) := by
  subst hz
  exact shiftL_any hT hb hgW hd hdp hk
/-- A round of the first loop. -/
theorem fb_one {p gk h h2 : Nat} {dp1 dp2 E : Int} (hp1 : 3 ≤ p) (hp2 : p ≤ 27) (hpos : 0 < dp1) (hb : -330 ≤ dp1 ∧ dp1 ≤ 310 ∧ 0 ≤ E ∧ E + 27 * gk ≤ 18900 ∧ (0 < dp1 → 2 * dp1 + (if 8 ≤ h then 1 else 0) ≤ gk))
    (hr : dp1 - p ≤ dp2 ∧ dp2 ≤ dp1 ∧ (p ≤ 60 → dp2 = dp1 → 2 ^ p ≤ h ∧ h2 = h / 2 ^ p)) (hh : h ≤ 9) :
    -330 ≤ dp2 ∧ dp2 ≤ 310 ∧ 0 ≤ E + p ∧ E + p + 27 * ((gk - 1 : Nat) : Int) ≤ 18900 ∧ (0 < dp2 → 2 * dp2 + (if 8 ≤ h2 then 1 else 0) ≤ ((gk - 1 : Nat) : Int)) := by
  have h1 := hb.2.2.2.2 hpos
  have hgk : 2 ≤ gk := by split at h1 <;> omega
  refine ⟨by omega, by omega, by omega, by omega, ?_⟩
  intro h3
  by_cases e : dp2 = dp1
  · obtain ⟨h4, h5⟩ := hr.2.2 (by omega) e
    have h8 : 2 ^ 3 ≤ 2 ^ p := Nat.pow_le_pow_right (by decide) hp1
    have h9 : h / 2 ^ p ≤ h / 2 ^ 3 := Nat.div_le_div_left h8 (by decide)
    have h10 : h / 2 ^ 3 ≤ 1 := by omega
    rw [if_pos (by omega)] at h1
    rw [if_neg (by omega)]
    omega
  · split <;> split at h1 <;> omega

/-- A round of the second loop. -/
theorem fb_two {p gk h h2 D : Nat} {dp1 E : Int} (hp1 : 1 ≤ p) (hp2 : p ≤ 27) (hgo : dp1 < 0 ∨ dp1 = 0 ∧ h < 5) (hb : -330 ≤ dp1 ∧ dp1 ≤ 19 ∧ 27 * gk - 91800 ≤ E ∧ E ≤ 18900 ∧ ((dp1 < 0 ∨ dp1 = 0 ∧ h < 5) → 10 * (-dp1) + (10 - h) ≤ gk))
    (hr : D ≤ 19 ∧ (D = 0 → h < h2)) (hh : h ≤ 9) :
    -330 ≤ dp1 + D ∧ dp1 + D ≤ 19 ∧ 27 * ((gk - 1 : Nat) : Int) - 91800 ≤ E - p ∧ E - p ≤ 18900 ∧ ((dp1 + D < 0 ∨ dp1 + D = 0 ∧ h2 < 5) → 10 * (-(dp1 + D)) + (10 - h2) ≤ ((gk - 1 : Nat) : Int)) := by
  have h1 := hb.2.2.2.2 hgo
  have hgk : 1 ≤ gk := by omega
  refine ⟨by omega, by omega, by omega, by omega, ?_⟩
  intro h3
  by_cases e : D = 0
  · have := hr.2 e
    omega
  · omega

set_option maxRecDepth 4000 in
set_option maxHeartbeats 16000000 in
theorem floatBits_any {W w : World} {g d0 : Nat} {dp : Int} {neg : Bool} (hT : FloTab W) (hC : CheatTab W) (hb : Below W.heap.size W w) (hgW : W.heap.size ≤ g) (hd : Dec w g dp d0 neg) (hdp : -1000000 ≤ dp ∧ dp ≤ 1000000) :
    Calls Tryz.prog 87 #[.pointer (some ⟨g, 0, none⟩), .pointer (some ⟨5, 0, none⟩)] w (Bitted g w) := by
  have hTH := Lib.hid hT
  have hbH := Lib.hid hb
  have hdH := Lib.hid hd
  obtain ⟨nd, hnd, hnd1, hnd2⟩ := hd.nd
  have hdpc := hd.dp
  have hng := hd.neg
  have hn0 : ((nd : Int) == 0) = false := beq_eq_false_iff_ne.2 (by omega)
  have hWs := hb.size
  obtain ⟨⟨ad, c, t0, tp⟩, t1, t2, t3⟩ := hT.bel hb
  have tpH := Lib.hid tp
  have hCH := Lib.hid hC
  clear hT hb hd tp hC
  have hoo := Only.refl g w
  by_cases hbig : (310 : Int) < dp
  · go_enter Tryz.func87, Tryz.ntmps87
    go_wp2_with fail
    refine wp_scope_into ?_
    go_hide hQ
    go_wp2_with fail
    refine wp_goto ?_
    simp only [Exit.then, Exit.inBlock]
    subst hQ
    refine ⟨_, rfl, ?_⟩
    go_wp2_with fail
    go_quiet (fail)
    go_wp2_with fail
    refine wp_label ?_
    go_wp2_with fail
    go_quiet (fail)
    go_wp2_with fail
    · go_quiet (fail)
      go_wp2_with fail
      (try rw [Exit.noGoto_ret])
      go_ret2
      refine ⟨⟨_, _, rfl⟩, ?_⟩
      first | exact hoo | exact hoo.drewN _ | exact (hoo.drewN _).drewN _ | exact ((hoo.drewN _).drewN _).drewN _
    · (try rw [Exit.noGoto_ret])
      go_ret2
      refine ⟨⟨_, _, rfl⟩, ?_⟩
      first | exact hoo | exact hoo.drewN _ | exact (hoo.drewN _).drewN _ | exact ((hoo.drewN _).drewN _).drewN _
  by_cases hsmall : dp < (-330 : Int)
  · go_enter Tryz.func87, Tryz.ntmps87
    go_wp2_with fail
    refine wp_scope_into ?_
    go_hide hQ
    go_wp2_with fail
    refine wp_goto ?_
    simp only [Exit.then, Exit.inBlock]
    subst hQ
    refine ⟨_, rfl, ?_⟩
    go_wp2_with fail
    go_quiet (fail)
    go_wp2_with fail
    · go_quiet (fail)
      go_wp2_with fail
      (try rw [Exit.noGoto_ret])
      go_ret2
      refine ⟨⟨_, _, rfl⟩, ?_⟩
      first | exact hoo | exact hoo.drewN _ | exact (hoo.drewN _).drewN _ | exact ((hoo.drewN _).drewN _).drewN _
    · (try rw [Exit.noGoto_ret])
      go_ret2
      refine ⟨⟨_, _, rfl⟩, ?_⟩
      first | exact hoo | exact hoo.drewN _ | exact (hoo.drewN _).drewN _ | exact ((hoo.drewN _).drewN _).drewN _
  go_enter Tryz.func87, Tryz.ntmps87
  go_wp2_with fail
  refine wp_scope_into ?_
  go_hide hQ
  go_wp2_with fail
  go_loopg [6, 8] 700 (fun gk e6 _ wr => ∃ (dp1 E : Int) (h : Nat), e6 = .int .i64 E ∧ Hid (Dec wr g dp1 h neg) ∧ Hid (Only g w wr) ∧ Hid (-330 ≤ dp1 ∧ dp1 ≤ 310 ∧ 0 ≤ E ∧ E + 27 * gk ≤ 18900 ∧ (0 < dp1 → 2 * dp1 + (if 8 ≤ h then 1 else 0) ≤ gk)))
  case atStart => exact ⟨dp, 0, d0, rfl, hdH, Lib.hid hoo, Lib.hid ⟨by omega, by omega, by omega, by omega, fun _ => by split <;> omega⟩⟩
  case round =>
    clear hdpc hng hoo t0 t1 t2 t3 tpH hnd hbig hsmall
    obtain ⟨dp1, E, h, rfl, hdd, hoo, hbd⟩ := hrel
    have hbr : Below W.heap.size W wr := hbH.out.trans (hoo.out.below hgW hWs)
    obtain ⟨⟨ad, c, t0, tp⟩, t1, t2, t3⟩ := hTH.out.bel hbr
    have hbrH := Lib.hid hbr
    have tpH := Lib.hid tp
    have hdpc := hdd.out.dp
    have hE1 : 0 ≤ E := hbd.out.2.2.1
    have hE2 : E ≤ 18900 := by have := hbd.out; omega
    clear hbr tp
    by_cases hpos : 0 < dp1
    · obtain ⟨k, rfl⟩ : ∃ k : Nat, dp1 = (k : Int) := ⟨dp1.toNat, by omega⟩
      have hk1 : 1 ≤ k := by omega
      have hk2 : (k : Int) ≤ 310 := by have := hbd.out; omega
      by_cases hk9 : k < 9
      · obtain ⟨p, hp, hp1, hp2, hp3⟩ := powL_get hk9
        have hcell := tpH.out k p hp
        have hi9 : ¬ (9 : Int) ≤ (k : Int) := by omega
        have hi9' : (k : Int) < 9 := by omega
        have hp3' := hp3 hk1
        clear hp hp3
        go_wp2_with fail
        go_quiet (fail)
        go_wp2_with fail
        go_quiet (fail)
        go_wp2_with fail
        refine (shiftR_at (k := p) rfl (hdd.out.drewN _) ⟨by omega, by omega⟩ ⟨by omega, by omega⟩).mono ?_
        rintro e w2 ⟨rfl, dp2, h2, g1, g2, g3, g4, g5⟩
        have g1H := Lib.hid g1
        have g2H := Lib.hid ((hoo.out.drewN _).trans g2)
        have g3H := Lib.hid (And.intro g3 (And.intro g4 g5))
        clear g1 g2 g3 g4 g5
        go_wp2_with fail
        go_roundg (gk - 1)
        case measure => have := hbd.out.2.2.2.2 hpos; omega
        case rel => exact ⟨dp2, _, h2, rfl, g1H, g2H, Lib.hid (fb_one hp3' (by omega) hpos hbd.out g3H.out hdd.out.range.2)⟩
      · have hi9 : (9 : Int) ≤ (k : Int) := by omega
        go_wp2_with fail
        go_quiet (fail)
        go_wp2_with fail
        refine (shiftR_at (k := 27) rfl (hdd.out.drewN _) ⟨by omega, by omega⟩ ⟨by omega, by omega⟩).mono ?_
        rintro e w2 ⟨rfl, dp2, h2, g1, g2, g3, g4, g5⟩
        have g1H := Lib.hid g1
        have g2H := Lib.hid ((hoo.out.drewN _).trans g2)
        have g3H := Lib.hid (And.intro g3 (And.intro g4 g5))
        clear g1 g2 g3 g4 g5
        go_wp2_with fail
        go_roundg (gk - 1)
        case measure => have := hbd.out.2.2.2.2 hpos; omega
        case rel => exact ⟨dp2, _, h2, rfl, g1H, g2H, Lib.hid (fb_one (p := 27) (by omega) (by omega) hpos hbd.out g3H.out hdd.out.range.2)⟩
    · have hneg0 : dp1 ≤ 0 := by omega
      have hneg1 : -330 ≤ dp1 := hbd.out.1
      clear hpos
      go_wp2_with fail
      clear hdpc t0 t1 t2 t3 tpH hbrH
      go_loopg [6, 9] 3400 (fun gk e6 _ wr => ∃ (dp1 E : Int) (h : Nat), e6 = .int .i64 E ∧ Hid (Dec wr g dp1 h neg) ∧ Hid (Only g w wr) ∧ Hid (-330 ≤ dp1 ∧ dp1 ≤ 19 ∧ 27 * gk - 91800 ≤ E ∧ E ≤ 18900 ∧ ((dp1 < 0 ∨ dp1 = 0 ∧ h < 5) → 10 * (-dp1) + (10 - h) ≤ gk)))
      case atStart => exact ⟨dp1, E, h, rfl, hdd, hoo, Lib.hid ⟨by omega, by omega, by omega, by omega, fun _ => by omega⟩⟩
      case round =>
        clear hdd hoo hbd hneg0 hneg1 hE1 hE2
        obtain ⟨dp1, E, h, rfl, hdd, hoo, hbd⟩ := hrel
        have hbr : Below W.heap.size W wr := hbH.out.trans (hoo.out.below hgW hWs)
        obtain ⟨⟨ad, c, t0, tp⟩, t1, t2, t3⟩ := hTH.out.bel hbr
        have hbrH := Lib.hid hbr
        have tpH := Lib.hid tp
        have hdpc := hdd.out.dp
        have hd0c := hdd.out.d0
        have hh9 := hdd.out.range
        have hE1 : -91800 ≤ E := by have := hbd.out; omega
        have hE2 : E ≤ 18900 := by have := hbd.out; omega
        clear hbr tp
        by_cases hpos : 0 < dp1
        · have hi1 : ¬ dp1 < 0 := by omega
          have hi2 : (dp1 == 0) = false := beq_eq_false_iff_ne.2 (by omega)
          have hpp : dp1 ≤ 19 := hbd.out.2.1
          have hpm : -330 ≤ dp1 := hbd.out.1
          have hng := hdd.out.neg
          clear tpH t0 hh9 hbd
          by_cases hex : E - 1 < -1022
          · have hm1 : 1 ≤ (-1021 - E).toNat := by omega
            have hm2 : ((-1021 - E).toNat : Int) ≤ 100000 := by omega
            go_wp2_with fail
            refine (shiftR_at (z := -(-1022 - (E - 1))) (k := (-1021 - E).toNat) (by omega) hdd.out ⟨by omega, by omega⟩ ⟨by omega, by omega⟩).mono ?_
            rintro e w2 ⟨rfl, dp2, h2, g1, g2, g3, g4, -⟩
            have hoo2 := hoo.out.trans g2
            have hbr2 : Below W.heap.size W w2 := hbH.out.trans (hoo2.below hgW hWs)
            obtain ⟨-, s1, s2, s3⟩ := hTH.out.bel hbr2
            have hd1 : -200000 ≤ dp2 := by omega
            have hd2 : dp2 ≤ 20 := by omega
            clear t1 t2 t3 hoo hbrH hdd g2 g3 g4 hng hm1 hm2 hd0c hdpc
            have hng := g1.neg
            have hdd := Lib.hid g1
            have hbrH := Lib.hid hbr2
            have hoo := hoo2
            clear g1 hbr2 hoo2
            go_wp2_with fail
            go_quiet (fail)
            go_wp2_with fail
            rotate_left
            · refine (shiftL_at (k := 53) rfl hCH.out (below_drewN hbrH.out _) hgW (hdd.out.drewN _) ⟨by omega, by omega⟩ ⟨by omega, by omega⟩).mono ?_
              rintro e w3 ⟨rfl, D, h3, g1, g2, g3, g4⟩
              have hoo3 := (hoo.drewN _).trans g2
              clear hoo
              have hoo := hoo3
              clear hoo3
              have hbr3 : Below W.heap.size W w3 := hbH.out.trans (hoo.below hgW hWs)
              obtain ⟨-, s1, s2, s3⟩ := hTH.out.bel hbr3
              have hcall := rounded_any g1 ⟨by omega, by omega⟩
              have hng := g1.neg
              have hcH := Lib.hid hcall
              clear g1 g2 g3 g4 hcall hbr3 hbrH
              go_wp2_with fail
              refine hcH.out.mono ?_
              rintro e w4 ⟨rfl, z, rfl⟩
              clear hcH
              go_wp2_with fail
              · go_quiet (fail)
                go_wp2_with fail
                all_goals (as_aux_lemma =>
                  refine wp_goto ?_
                  simp only [Exit.then, Exit.inBlock]
                  subst hQ
                  refine ⟨_, rfl, ?_⟩
                  go_wp2_with fail
                  go_quiet (fail)
                  go_wp2_with fail
                  (try (refine wp_label ?_; go_wp2_with fail; go_quiet (fail); go_wp2_with fail))
                  · go_quiet (fail)
                    go_wp2_with fail
                    (try rw [Exit.noGoto_ret])
                    go_ret2
                    refine ⟨⟨_, _, rfl⟩, ?_⟩
                    first | exact hoo | exact hoo.drewN _ | exact (hoo.drewN _).drewN _ | exact ((hoo.drewN _).drewN _).drewN _
                  · (try rw [Exit.noGoto_ret])
                    go_ret2
                    refine ⟨⟨_, _, rfl⟩, ?_⟩
                    first | exact hoo | exact hoo.drewN _ | exact (hoo.drewN _).drewN _ | exact ((hoo.drewN _).drewN _).drewN _)
              all_goals (as_aux_lemma =>
                refine wp_goto ?_
                simp only [Exit.then, Exit.inBlock]
                subst hQ
                refine ⟨_, rfl, ?_⟩
                go_wp2_with fail
                go_quiet (fail)
                go_wp2_with fail
                (try (refine wp_label ?_; go_wp2_with fail; go_quiet (fail); go_wp2_with fail))
                · go_quiet (fail)
                  go_wp2_with fail
                  (try rw [Exit.noGoto_ret])
                  go_ret2
                  refine ⟨⟨_, _, rfl⟩, ?_⟩
                  first | exact hoo | exact hoo.drewN _ | exact (hoo.drewN _).drewN _ | exact ((hoo.drewN _).drewN _).drewN _
                · (try rw [Exit.noGoto_ret])
                  go_ret2
                  refine ⟨⟨_, _, rfl⟩, ?_⟩
                  first | exact hoo | exact hoo.drewN _ | exact (hoo.drewN _).drewN _ | exact ((hoo.drewN _).drewN _).drewN _)
          · have hoo2 := hoo.out
            clear hoo
            have hoo := hoo2
            clear hoo2
            go_wp2_with fail
            clear hd0c hdpc
            go_quiet (fail)
            go_wp2_with fail
            rotate_left
            · refine (shiftL_at (k := 53) rfl hCH.out (below_drewN hbrH.out _) hgW (hdd.out.drewN _) ⟨by omega, by omega⟩ ⟨by omega, by omega⟩).mono ?_
              rintro e w3 ⟨rfl, D, h3, g1, g2, g3, g4⟩
              have hoo3 := (hoo.drewN _).trans g2
              clear hoo
              have hoo := hoo3
              clear hoo3
              have hbr3 : Below W.heap.size W w3 := hbH.out.trans (hoo.below hgW hWs)
              obtain ⟨-, s1, s2, s3⟩ := hTH.out.bel hbr3
              have hcall := rounded_any g1 ⟨by omega, by omega⟩
              have hng := g1.neg
              have hcH := Lib.hid hcall
              clear g1 g2 g3 g4 hcall hbr3 hbrH
              go_wp2_with fail
              refine hcH.out.mono ?_
              rintro e w4 ⟨rfl, z, rfl⟩
              clear hcH
              go_wp2_with fail
              · go_quiet (fail)
                go_wp2_with fail
                all_goals (as_aux_lemma =>
                  refine wp_goto ?_
                  simp only [Exit.then, Exit.inBlock]
                  subst hQ
                  refine ⟨_, rfl, ?_⟩
                  go_wp2_with fail
                  go_quiet (fail)
                  go_wp2_with fail
                  (try (refine wp_label ?_; go_wp2_with fail; go_quiet (fail); go_wp2_with fail))
                  · go_quiet (fail)
                    go_wp2_with fail
                    (try rw [Exit.noGoto_ret])
                    go_ret2
                    refine ⟨⟨_, _, rfl⟩, ?_⟩
                    first | exact hoo | exact hoo.drewN _ | exact (hoo.drewN _).drewN _ | exact ((hoo.drewN _).drewN _).drewN _
                  · (try rw [Exit.noGoto_ret])
                    go_ret2
                    refine ⟨⟨_, _, rfl⟩, ?_⟩
                    first | exact hoo | exact hoo.drewN _ | exact (hoo.drewN _).drewN _ | exact ((hoo.drewN _).drewN _).drewN _)
              all_goals (as_aux_lemma =>
                refine wp_goto ?_
                simp only [Exit.then, Exit.inBlock]
                subst hQ
                refine ⟨_, rfl, ?_⟩
                go_wp2_with fail
                go_quiet (fail)
                go_wp2_with fail
                (try (refine wp_label ?_; go_wp2_with fail; go_quiet (fail); go_wp2_with fail))
                · go_quiet (fail)
                  go_wp2_with fail
                  (try rw [Exit.noGoto_ret])
                  go_ret2
                  refine ⟨⟨_, _, rfl⟩, ?_⟩
                  first | exact hoo | exact hoo.drewN _ | exact (hoo.drewN _).drewN _ | exact ((hoo.drewN _).drewN _).drewN _
                · (try rw [Exit.noGoto_ret])
                  go_ret2
                  refine ⟨⟨_, _, rfl⟩, ?_⟩
                  first | exact hoo | exact hoo.drewN _ | exact (hoo.drewN _).drewN _ | exact ((hoo.drewN _).drewN _).drewN _)
            · refine wp_goto ?_
              simp only [Exit.then, Exit.inBlock]
              subst hQ
              refine ⟨_, rfl, ?_⟩
              go_wp2_with fail
              go_quiet (fail)
              go_wp2_with fail
              (try (refine wp_label ?_; go_wp2_with fail; go_quiet (fail); go_wp2_with fail))
              · go_quiet (fail)
                go_wp2_with fail
                (try rw [Exit.noGoto_ret])
                go_ret2
                refine ⟨⟨_, _, rfl⟩, ?_⟩
                first | exact hoo | exact hoo.drewN _ | exact (hoo.drewN _).drewN _ | exact ((hoo.drewN _).drewN _).drewN _
              · (try rw [Exit.noGoto_ret])
                go_ret2
                refine ⟨⟨_, _, rfl⟩, ?_⟩
                first | exact hoo | exact hoo.drewN _ | exact (hoo.drewN _).drewN _ | exact ((hoo.drewN _).drewN _).drewN _
        · obtain ⟨k, rfl⟩ : ∃ k : Nat, dp1 = -(k : Int) := ⟨(-dp1).toNat, by omega⟩
          have hk330 : (k : Int) ≤ 330 := by have := hbd.out; omega
          rcases Nat.eq_zero_or_pos k with rfl | hk1
          · have hdpc0 : wr.cell? ⟨g, 801, none⟩ = some (.int .i64 0) := by simpa using hdpc
            clear hdpc
            have hdpc := hdpc0
            clear hdpc0
            by_cases h5 : h < 5
            · have hi1 : ((48 + h : Nat) : Int) < 53 := by omega
              obtain ⟨p, hp, hp1, hp2, hp3⟩ := powL_get (show 0 < 9 by omega)
              have hcell := tpH.out 0 p hp
              have hcell0 : wr.cell? ad = some (.int .i64 (p : Int)) := hcell
              have hgo : -((0 : Nat) : Int) < 0 ∨ -((0 : Nat) : Int) = 0 ∧ h < 5 := Or.inr ⟨by omega, h5⟩
              have hgoH := Lib.hid hgo
              clear hp hp3 hgo
              go_wp2_with fail
              go_quiet (fail)
              go_wp2_with fail
              go_quiet (fail)
              go_wp2_with fail
              refine (shiftL_at (k := p) rfl hCH.out (below_drewN hbrH.out _) hgW (hdd.out.drewN _) ⟨by omega, by omega⟩ ⟨by omega, by omega⟩).mono ?_
              rintro e w2 ⟨rfl, D, h2, g1, g2, g3, g4⟩
              have g1H := Lib.hid g1
              have g2H := Lib.hid ((hoo.out.drewN _).trans g2)
              have g3H := Lib.hid (And.intro g3 g4)
              clear g1 g2 g3 g4
              go_wp2_with fail
              go_roundg (gk - 1)
              case measure => have := hbd.out.2.2.2.2 hgoH.out; omega
              case rel => exact ⟨_, _, h2, rfl, g1H, g2H, Lib.hid (fb_two hp1 (by omega) hgoH.out hbd.out g3H.out hh9.2)⟩
            · have hi1 : ¬ ((48 + h : Nat) : Int) < 53 := by omega
              obtain ⟨dp1, hdpe⟩ : ∃ z : Int, z = -((0 : Nat) : Int) := ⟨_, rfl⟩
              rw [← hdpe] at hdd
              have hpp : dp1 ≤ 19 := by omega
              have hpm : -330 ≤ dp1 := by omega
              clear hdpe
              have hng := hdd.out.neg
              clear tpH t0 hh9 hbd
              by_cases hex : E - 1 < -1022
              · have hm1 : 1 ≤ (-1021 - E).toNat := by omega
                have hm2 : ((-1021 - E).toNat : Int) ≤ 100000 := by omega
                go_wp2_with fail
                refine (shiftR_at (z := -(-1022 - (E - 1))) (k := (-1021 - E).toNat) (by omega) hdd.out ⟨by omega, by omega⟩ ⟨by omega, by omega⟩).mono ?_
                rintro e w2 ⟨rfl, dp2, h2, g1, g2, g3, g4, -⟩
                have hoo2 := hoo.out.trans g2
                have hbr2 : Below W.heap.size W w2 := hbH.out.trans (hoo2.below hgW hWs)
                obtain ⟨-, s1, s2, s3⟩ := hTH.out.bel hbr2
                have hd1 : -200000 ≤ dp2 := by omega
                have hd2 : dp2 ≤ 20 := by omega
                clear t1 t2 t3 hoo hbrH hdd g2 g3 g4 hng hm1 hm2 hd0c hdpc
                have hng := g1.neg
                have hdd := Lib.hid g1
                have hbrH := Lib.hid hbr2
                have hoo := hoo2
                clear g1 hbr2 hoo2
                go_wp2_with fail
                go_quiet (fail)
                go_wp2_with fail
                rotate_left
                · refine (shiftL_at (k := 53) rfl hCH.out (below_drewN hbrH.out _) hgW (hdd.out.drewN _) ⟨by omega, by omega⟩ ⟨by omega, by omega⟩).mono ?_
                  rintro e w3 ⟨rfl, D, h3, g1, g2, g3, g4⟩
                  have hoo3 := (hoo.drewN _).trans g2
                  clear hoo
                  have hoo := hoo3
                  clear hoo3
                  have hbr3 : Below W.heap.size W w3 := hbH.out.trans (hoo.below hgW hWs)
                  obtain ⟨-, s1, s2, s3⟩ := hTH.out.bel hbr3
                  have hcall := rounded_any g1 ⟨by omega, by omega⟩
                  have hng := g1.neg
                  have hcH := Lib.hid hcall
                  clear g1 g2 g3 g4 hcall hbr3 hbrH
                  go_wp2_with fail
                  refine hcH.out.mono ?_
                  rintro e w4 ⟨rfl, z, rfl⟩
                  clear hcH
                  go_wp2_with fail
                  · go_quiet (fail)
                    go_wp2_with fail
                    all_goals (as_aux_lemma =>
                      refine wp_goto ?_
                      simp only [Exit.then, Exit.inBlock]
                      subst hQ
                      refine ⟨_, rfl, ?_⟩
                      go_wp2_with fail
                      go_quiet (fail)
                      go_wp2_with fail
                      (try (refine wp_label ?_; go_wp2_with fail; go_quiet (fail); go_wp2_with fail))
                      · go_quiet (fail)
                        go_wp2_with fail
                        (try rw [Exit.noGoto_ret])
                        go_ret2
                        refine ⟨⟨_, _, rfl⟩, ?_⟩
                        first | exact hoo | exact hoo.drewN _ | exact (hoo.drewN _).drewN _ | exact ((hoo.drewN _).drewN _).drewN _
                      · (try rw [Exit.noGoto_ret])
                        go_ret2
                        refine ⟨⟨_, _, rfl⟩, ?_⟩
                        first | exact hoo | exact hoo.drewN _ | exact (hoo.drewN _).drewN _ | exact ((hoo.drewN _).drewN _).drewN _)
                  all_goals (as_aux_lemma =>
                    refine wp_goto ?_
                    simp only [Exit.then, Exit.inBlock]
                    subst hQ
                    refine ⟨_, rfl, ?_⟩
                    go_wp2_with fail
                    go_quiet (fail)
                    go_wp2_with fail
                    (try (refine wp_label ?_; go_wp2_with fail; go_quiet (fail); go_wp2_with fail))
                    · go_quiet (fail)
                      go_wp2_with fail
                      (try rw [Exit.noGoto_ret])
                      go_ret2
                      refine ⟨⟨_, _, rfl⟩, ?_⟩
                      first | exact hoo | exact hoo.drewN _ | exact (hoo.drewN _).drewN _ | exact ((hoo.drewN _).drewN _).drewN _
                    · (try rw [Exit.noGoto_ret])
                      go_ret2
                      refine ⟨⟨_, _, rfl⟩, ?_⟩
                      first | exact hoo | exact hoo.drewN _ | exact (hoo.drewN _).drewN _ | exact ((hoo.drewN _).drewN _).drewN _)
              · have hoo2 := hoo.out
                clear hoo
                have hoo := hoo2
                clear hoo2
                go_wp2_with fail
                clear hd0c hdpc
                go_quiet (fail)
                go_wp2_with fail
                rotate_left
                · refine (shiftL_at (k := 53) rfl hCH.out (below_drewN hbrH.out _) hgW (hdd.out.drewN _) ⟨by omega, by omega⟩ ⟨by omega, by omega⟩).mono ?_
                  rintro e w3 ⟨rfl, D, h3, g1, g2, g3, g4⟩
                  have hoo3 := (hoo.drewN _).trans g2
                  clear hoo
                  have hoo := hoo3
                  clear hoo3
                  have hbr3 : Below W.heap.size W w3 := hbH.out.trans (hoo.below hgW hWs)
                  obtain ⟨-, s1, s2, s3⟩ := hTH.out.bel hbr3
                  have hcall := rounded_any g1 ⟨by omega, by omega⟩
                  have hng := g1.neg
                  have hcH := Lib.hid hcall
                  clear g1 g2 g3 g4 hcall hbr3 hbrH
                  go_wp2_with fail
                  refine hcH.out.mono ?_
                  rintro e w4 ⟨rfl, z, rfl⟩
                  clear hcH
                  go_wp2_with fail
                  · go_quiet (fail)
                    go_wp2_with fail
                    all_goals (as_aux_lemma =>
                      refine wp_goto ?_
                      simp only [Exit.then, Exit.inBlock]
                      subst hQ
                      refine ⟨_, rfl, ?_⟩
                      go_wp2_with fail
                      go_quiet (fail)
                      go_wp2_with fail
                      (try (refine wp_label ?_; go_wp2_with fail; go_quiet (fail); go_wp2_with fail))
                      · go_quiet (fail)
                        go_wp2_with fail
                        (try rw [Exit.noGoto_ret])
                        go_ret2
                        refine ⟨⟨_, _, rfl⟩, ?_⟩
                        first | exact hoo | exact hoo.drewN _ | exact (hoo.drewN _).drewN _ | exact ((hoo.drewN _).drewN _).drewN _
                      · (try rw [Exit.noGoto_ret])
                        go_ret2
                        refine ⟨⟨_, _, rfl⟩, ?_⟩
                        first | exact hoo | exact hoo.drewN _ | exact (hoo.drewN _).drewN _ | exact ((hoo.drewN _).drewN _).drewN _)
                  all_goals (as_aux_lemma =>
                    refine wp_goto ?_
                    simp only [Exit.then, Exit.inBlock]
                    subst hQ
                    refine ⟨_, rfl, ?_⟩
                    go_wp2_with fail
                    go_quiet (fail)
                    go_wp2_with fail
                    (try (refine wp_label ?_; go_wp2_with fail; go_quiet (fail); go_wp2_with fail))
                    · go_quiet (fail)
                      go_wp2_with fail
                      (try rw [Exit.noGoto_ret])
                      go_ret2
                      refine ⟨⟨_, _, rfl⟩, ?_⟩
                      first | exact hoo | exact hoo.drewN _ | exact (hoo.drewN _).drewN _ | exact ((hoo.drewN _).drewN _).drewN _
                    · (try rw [Exit.noGoto_ret])
                      go_ret2
                      refine ⟨⟨_, _, rfl⟩, ?_⟩
                      first | exact hoo | exact hoo.drewN _ | exact (hoo.drewN _).drewN _ | exact ((hoo.drewN _).drewN _).drewN _)
                · refine wp_goto ?_
                  simp only [Exit.then, Exit.inBlock]
                  subst hQ
                  refine ⟨_, rfl, ?_⟩
                  go_wp2_with fail
                  go_quiet (fail)
                  go_wp2_with fail
                  (try (refine wp_label ?_; go_wp2_with fail; go_quiet (fail); go_wp2_with fail))
                  · go_quiet (fail)
                    go_wp2_with fail
                    (try rw [Exit.noGoto_ret])
                    go_ret2
                    refine ⟨⟨_, _, rfl⟩, ?_⟩
                    first | exact hoo | exact hoo.drewN _ | exact (hoo.drewN _).drewN _ | exact ((hoo.drewN _).drewN _).drewN _
                  · (try rw [Exit.noGoto_ret])
                    go_ret2
                    refine ⟨⟨_, _, rfl⟩, ?_⟩
                    first | exact hoo | exact hoo.drewN _ | exact (hoo.drewN _).drewN _ | exact ((hoo.drewN _).drewN _).drewN _
          · have hi1 : -(k : Int) < 0 := by omega
            have hgo : -(k : Int) < 0 ∨ -(k : Int) = 0 ∧ h < 5 := Or.inl hi1
            have hgoH := Lib.hid hgo
            clear hgo
            by_cases hk9 : k < 9
            · obtain ⟨p, hp, hp1, hp2, hp3⟩ := powL_get hk9
              have hcell := tpH.out k p hp
              have hi9 : ¬ (9 : Int) ≤ (k : Int) := by omega
              have hi9' : (k : Int) < 9 := by omega
              clear hp hp3
              go_wp2_with fail
              go_quiet (fail)
              go_wp2_with fail
              go_quiet (fail)
              go_wp2_with fail
              refine (shiftL_at (k := p) rfl hCH.out (below_drewN hbrH.out _) hgW (hdd.out.drewN _) ⟨by omega, by omega⟩ ⟨by omega, by omega⟩).mono ?_
              rintro e w2 ⟨rfl, D, h2, g1, g2, g3, g4⟩
              have g1H := Lib.hid g1
              have g2H := Lib.hid ((hoo.out.drewN _).trans g2)
              have g3H := Lib.hid (And.intro g3 g4)
              clear g1 g2 g3 g4
              go_wp2_with fail
              go_roundg (gk - 1)
              case measure => have := hbd.out.2.2.2.2 hgoH.out; omega
              case rel => exact ⟨_, _, h2, rfl, g1H, g2H, Lib.hid (fb_two hp1 (by omega) hgoH.out hbd.out g3H.out hh9.2)⟩
            · have hi9 : (9 : Int) ≤ (k : Int) := by omega
              go_wp2_with fail
              go_quiet (fail)
              go_wp2_with fail
              refine (shiftL_at (k := 27) rfl hCH.out (below_drewN hbrH.out _) hgW (hdd.out.drewN _) ⟨by omega, by omega⟩ ⟨by omega, by omega⟩).mono ?_
              rintro e w2 ⟨rfl, D, h2, g1, g2, g3, g4⟩
              have g1H := Lib.hid g1
              have g2H := Lib.hid ((hoo.out.drewN _).trans g2)
              have g3H := Lib.hid (And.intro g3 g4)
              clear g1 g2 g3 g4
              go_wp2_with fail
              go_roundg (gk - 1)
              case measure => have := hbd.out.2.2.2.2 hgoH.out; omega
              case rel => exact ⟨_, _, h2, rfl, g1H, g2H, Lib.hid (fb_two (p := 27) (by omega) (by omega) hgoH.out hbd.out g3H.out hh9.2)⟩
end Go.Proofs.YthagnngckegekaaGreatDoor
