/-
  whereTold, the law's closure, slices.ContainsFunc at places. Conditions: none.
-/
import Derived.Test.YtpdcoipfpffhnaaPlace
namespace Go.Proofs.Ytpdcoipfpffhnaa
open Go.ChangeShapes Go.WideShapes Go.ChangeAt Go.RowKit
set_option linter.unusedVariables false

theorem whereTold_any (v : Value) (p : List Step) (B : Nat) (w : World) (h : FrOwn w B v (tof p)) : Calls Try.prog 21 #[v] w fun e w' => ∃ v', e = .returned v' ∧ FrOwn w B v' (p.map some) ∧ w = w' := by
  have h' := Lib.hid h
  cases p with
  | nil =>
    rcases h.form with ⟨_, h0⟩ | ⟨g, c, rfl, hB, hlt, hc⟩
    · exact absurd h0 (tof_ne _)
    · obtain ⟨n, _, hcf⟩ := hc 0 none rfl
      have k0 : w.cell? ⟨g, 0, none⟩ = some (.int .i64 5) := hcf 0 _ rfl
      clear hc hcf h
      show Calls _ _ #[.slice (some ⟨g, 0, none⟩) 1 c] w _
      go_enter Try.func21, Try.ntmps21
      go_wp2_with fail
      go_ret
      exact ⟨_, rfl, FrOwn.nil _ _, rfl⟩
  | cons s r =>
    have h2 : FrOwn w B v ((s :: r).map some) := h
    obtain ⟨A, c, rfl, hv⟩ := h2.view
    obtain ⟨g, An, mn, cn, rfl, hlt, _, hcells⟩ := hv 0 s rfl
    have k0 : w.cell? ⟨g, 0, none⟩ = some (.int .i64 (kd s)) := hcells 0 _ rfl
    have k1 : (kd s == 5) = false := by cases s <;> rfl
    have h2' := Lib.hid h2
    clear hv hcells h h2
    cases r with
    | nil =>
      dsimp only [List.length_cons, List.length_nil]
      go_enter Try.func21, Try.ntmps21
      go_wp2_with fail
      go_ret
      exact ⟨_, rfl, h2'.out, rfl⟩
    | cons t q =>
      dsimp only [List.length_cons] at h2' ⊢
      have hl : (((q.length + 1 + 1 : Nat) : Int) == 1) = false := beq_eq_false_iff_ne.2 (by omega)
      go_enter Try.func21, Try.ntmps21
      go_wp2_with fail
      go_ret
      exact ⟨_, rfl, h2'.out, rfl⟩

/-- The box of the row with the one place that was told. -/
def GotAt (w : World) (gb : Nat) (p : List Step) : Prop := ∃ g c v0, w.cell? ⟨gb, 0, none⟩ = some (.slice (some ⟨g, 0, none⟩) 1 c) ∧ w.cell? ⟨g, 0, none⟩ = some v0 ∧ FrOwn w 0 v0 (tof p)
theorem cell_lt {w : World} {b i : Nat} {u : Value} (h : w.cell? ⟨b, i, none⟩ = some u) : b < w.heap.size := by
  by_cases hh : b < w.heap.size
  · exact hh
  · have : w.heap[b]? = none := Array.getElem?_eq_none (by omega)
    simp [World.cell?, this] at h
theorem row_slice {w : World} {B size n : Nat} {e : TypeId} {v : Value} {xs : List Value} (h : w.ownsRow B e size v n xs) : ∃ A c, v = .slice A n c := by
  rcases h.2 with ⟨rfl, rfl⟩ | ⟨g, cap, cur, rfl, _⟩
  · exact ⟨_, _, rfl⟩
  · exact ⟨_, _, rfl⟩
theorem GotAt.bel {w w' : World} {gb : Nat} {p : List Step} (h : GotAt w gb p) (hb : Below w.heap.size w w') : GotAt w' gb p := by
  obtain ⟨g, c, v0, h1, h2, h3⟩ := h
  exact ⟨g, c, v0, (hb.cell (p := ⟨gb, 0, none⟩) (cell_lt h1)).trans h1, (hb.cell (p := ⟨g, 0, none⟩) (cell_lt h2)).trans h2, h3.keep (Keeps.of_below hb)⟩

theorem closure_any (x : Value) (p q : List Step) (gb : Nat) (w : World) (hx : FrOwn w 0 x (p.map some)) (hg : GotAt w gb q) (hpl : p.length ≤ 1000000) :
    Calls Try.prog 19 #[x, .pointer (some ⟨gb, 0, none⟩)] w (IffB (p = q) w) := by
  obtain ⟨g, c, v0, h1, h2, h3⟩ := hg
  obtain ⟨A, ca, rfl, _⟩ := hx.view
  have hx' := Lib.hid hx
  have h3' := Lib.hid h3
  have hf : (∃ A m c, v0 = .slice A m c) := by
    rcases h3.form with ⟨rfl, _⟩ | ⟨g, c, rfl, _⟩
    · exact ⟨_, _, _, rfl⟩
    · exact ⟨_, _, _, rfl⟩
  obtain ⟨A0, m0, c0, rfl⟩ := hf
  clear hx h3
  go_enter Try.func19, Try.ntmps19
  go_wp2_with fail
  refine (whereTold_any _ q 0 w h3'.out).mono ?_
  rintro e w' ⟨v', rfl, hv', rfl⟩
  obtain ⟨A1, c1, rfl, _⟩ := hv'.view
  have hv2 := Lib.hid hv'
  clear hv'
  go_wp2_with fail
  refine (samePlace_any p q _ _ 0 0 w hx'.out hv2.out hpl).mono ?_
  rintro e w2 ⟨r, rfl, hr, hb2⟩
  have hr' := Lib.hid hr
  clear hr
  go_wp2_with fail
  go_ret
  exact ⟨r, rfl, hr'.out, hb2⟩

/-- A list of places, its outer row of its own. -/
def WantOwn (w : World) (B : Nat) (v : Value) (ws : List (List Step)) : Prop := ∃ vs, vs.length = ws.length ∧ w.ownsRow B 41 1 v ws.length vs ∧ ∀ (i : Nat) x p, vs[i]? = some x → ws[i]? = some p → FrOwn w 0 x (p.map some)
theorem WantOwn.bel {w w' : World} {B : Nat} {v : Value} {ws : List (List Step)} (h : WantOwn w B v ws) (hb : Below w.heap.size w w') : WantOwn w' B v ws := by
  obtain ⟨vs, h1, h2, h3⟩ := h
  exact ⟨vs, h1, row_same h2 (fun g hg => hb.block g (h2.lt g hg).2), fun i x p hx hp => (h3 i x p hx hp).keep (Keeps.of_below hb)⟩
theorem eg_cl : ∀ args w, (callFunc 19 args).run Try.prog w = .ok (.enter 19 args) w := fun _ _ => by kernel_rfl

set_option maxHeartbeats 1000000 in
theorem indexPlace_any (v : Value) (ws : List (List Step)) (q : List Step) (gb : Nat) (w : World) (hw : WantOwn w 0 v ws) (hg : GotAt w gb q) (hl : ws.length ≤ 1000000) (hpl : ∀ p ∈ ws, p.length ≤ 1000000) :
    Calls Try.prog 47 #[v, .func (.func 19) #[] #[.pointer (some ⟨gb, 0, none⟩)]] w (SomeInt (fun r => q ∈ ws → 0 ≤ r) w) := by
  have eg := eg_cl
  obtain ⟨vs, hvs, ho, hfr⟩ := hw
  obtain ⟨A, c, hA⟩ := row_slice ho
  subst hA
  have hvs' := Lib.hid hvs
  have hfr' := Lib.hid hfr
  have hg' := Lib.hid hg
  have hpl' := Lib.hid hpl
  have hcell : Hid (∀ i x, vs[i]? = some x → ∃ g, A = some ⟨g, 0, none⟩ ∧ g < w.heap.size ∧ w.cell? ⟨g, i, none⟩ = some x) := fun i x hx => by
    have hi := (List.getElem?_eq_some_iff.1 hx).1
    rcases ho.2 with ⟨e, h0⟩ | ⟨g, cap, cur, e, h1, hb, h2, h3, h4, h5⟩
    · omega
    · simp only [Value.slice.injEq] at e
      rw [Nat.mul_one] at h5
      exact ⟨g, e.1, (Array.getElem?_eq_some_iff.1 hb).1, row_at hb h5 hx⟩
  clear hvs hfr hg ho hpl
  go_enter Try.func47, Try.ntmps47
  go_wp2_with fail
  go_loopw [5, 8] (fun _ i wr => ∃ (j : Nat), j ≤ ws.length ∧ i = .int .i64 j ∧ Hid (∀ k p, k < j → ws[k]? = some p → p ≠ q) ∧ Below w.heap.size w wr) (fun _ i _ => ws.length - (intOf i).toNat)
  case atStart => exact ⟨0, by simp, rfl, fun k p hk => by omega, Below.refl _ _⟩
  case round =>
    obtain ⟨j, hj, rfl, hno, hbel⟩ := hrel
    by_cases hlt : j < ws.length
    · obtain ⟨p, hp⟩ := get_lt hlt
      obtain ⟨x, hx⟩ : ∃ x, vs[j]? = some x := get_lt (by rw [hvs'.out]; exact hlt)
      obtain ⟨g, rfl, hglt, hc⟩ := hcell.out j x hx
      have hfx := (hfr'.out j x p hx hp).keep (Keeps.of_below hbel)
      obtain ⟨Ax, cx, rfl, _⟩ := hfx.view
      have q1 := (hbel.cell (p := ⟨g, j, none⟩) hglt).trans hc
      have hfx' := Lib.hid hfx
      have hp' := Lib.hid hp
      clear hx hc hfx hp hcell hfr'
      go_wp2_with fail
      refine (closure_any _ p q gb wr hfx'.out (hg'.out.bel hbel) (hpl'.out p (get_mem hp'.out))).mono ?_
      rintro e w2 ⟨r, rfl, hr, hb2⟩
      have hbel2 := hbel.trans (hb2.mono hbel.size)
      have hr' := Lib.hid hr
      clear q1 hr hb2
      cases r with
      | true =>
        go_wp2_with fail
        go_ret
        exact ⟨_, rfl, fun _ => by omega, hbel2⟩
      | false =>
        have hno2 : Hid (∀ k p, k < j + 1 → ws[k]? = some p → p ≠ q) := fun k p' hk hp2 => by
          by_cases hkj : k < j
          · exact hno.out k p' hkj hp2
          · obtain rfl : k = j := by omega
            obtain rfl := Option.some.inj (hp'.out.symm.trans hp2)
            intro e
            have := hr'.out.2 e
            cases this
        clear hno hr'
        go_wp2_with fail
        go_roundw
        case rel => exact ⟨j + 1, by omega, by go_num, hno2, hbel2⟩
        case measure => simp [intOf]; omega
    · have hfin : Hid (¬ q ∈ ws) := fun h => by
        obtain ⟨k, hk⟩ := List.getElem?_of_mem h
        exact hno.out k q (by have := (List.getElem?_eq_some_iff.1 hk).1; omega) hk rfl
      clear hno hcell
      go_wp2_with fail
      go_ret
      exact ⟨_, rfl, fun h => absurd h hfin.out, hbel⟩

theorem containsPlace_any (v : Value) (ws : List (List Step)) (q : List Step) (gb : Nat) (w : World) (hw : WantOwn w 0 v ws) (hg : GotAt w gb q) (hl : ws.length ≤ 1000000) (hpl : ∀ p ∈ ws, p.length ≤ 1000000) (hq : q ∈ ws) :
    Calls Try.prog 18 #[v, .func (.func 19) #[] #[.pointer (some ⟨gb, 0, none⟩)]] w (SomeBool (fun r => r = true) w) := by
  have H := Lib.hid (indexPlace_any v ws q gb w hw hg hl hpl)
  have hq' := Lib.hid hq
  obtain ⟨vs, _, ho, _⟩ := hw
  obtain ⟨A, c, hA⟩ := row_slice ho
  subst hA
  clear hg ho hq hpl
  go_enter Try.func18, Try.ntmps18
  go_wp2_with fail
  refine H.out.mono ?_
  rintro e w2 ⟨r, rfl, hr, hb2⟩
  have hr0 : 0 ≤ r := hr hq'.out
  clear hr
  go_wp2_with fail
  go_ret
  exact ⟨_, rfl, rfl, hb2⟩
end Go.Proofs.Ytpdcoipfpffhnaa
