/-
  slices.EqualFunc at steps, samePlace, whereTold. Conditions: none.
-/
import Derived.Test.YtpdcoipfpffhnaaSame
namespace Go.Proofs.Ytpdcoipfpffhnaa
open Go.ChangeShapes Go.WideShapes Go.ChangeAt Go.RowKit
set_option linter.unusedVariables false
attribute [local go_sem] store_float'

/-- Two steps as they are handed on. -/
theorem sameStep_at (s t : Step) (As At : Option Addr) (ms cs mt ct : Nat) (w : World) (hs : StepN w (some s) (.slice As ms cs)) (ht : StepN w (some t) (.slice At mt ct)) :
    Calls Try.prog 50 #[.agg #[.int .i64 (kd s), .string (stx s), .slice As ms cs, .slice none 0 0, .int .i64 0, .int .i64 0, .int .i64 0, .float .f64 0, .string ⟨#[]⟩, .slice none 0 0, .slice none 0 0, .slice none 0 0, .slice none 0 0],
      .agg #[.int .i64 (kd t), .string (stx t), .slice At mt ct, .slice none 0 0, .int .i64 0, .int .i64 0, .int .i64 0, .float .f64 0, .string ⟨#[]⟩, .slice none 0 0, .slice none 0 0, .slice none 0 0, .slice none 0 0]] w (IffB (s = t) w) := by
  have h := sameStep_any s t _ _ w hs ht
  cases s <;> cases t <;> exact h

def fragObj (s : Step) (A : Option Addr) (m c : Nat) : Obj := .cells #[.int .i64 (kd s), .string (stx s), .slice A m c, .slice none 0 0, .int .i64 0, .int .i64 0, .int .i64 0, .float .f64 0, .string ⟨#[]⟩, .slice none 0 0, .slice none 0 0, .slice none 0 0, .slice none 0 0] 64

set_option maxHeartbeats 4000000 in
theorem equalFrag_any (ps qs : List Step) (va vb : Value) (B B' : Nat) (w : World) (ha : FrOwn w B va (ps.map some)) (hb : FrOwn w B' vb (qs.map some)) (hpl : ps.length ≤ 1000000) :
    Calls Try.prog 48 #[va, vb, .func (.func 50) #[] #[]] w (IffB (ps = qs) w) := by
  obtain ⟨A, ca, rfl, hv⟩ := ha.view
  obtain ⟨A', ca', rfl, hv'⟩ := hb.view
  clear ha hb
  have hV := Lib.hid hv
  have hV' := Lib.hid hv'
  clear hv hv'
  by_cases hlen : ps.length = qs.length
  rotate_left
  · have hl1 : ((ps.length : Int) != (qs.length : Int)) = true := bne_iff_ne.2 (by omega)
    have hP : Hid ¬ (ps = qs) := fun h => hlen (by rw [h])
    clear hlen
    go_enter Try.func48, Try.ntmps48
    go_wp2_with fail
    go_ret
    exact ⟨false, rfl, not_iff _ hP.out, Below.refl _ _⟩
  have hl1 : ((ps.length : Int) != (qs.length : Int)) = false := by rw [hlen]; simp
  have hlen' := Lib.hid hlen
  clear hlen
  go_enter Try.func48, Try.ntmps48
  go_wp2_with fail
  go_loopw [17] (fun i wr => ∃ j : Nat, j ≤ ps.length ∧ i = .int .i64 j ∧ Hid (ps.take j = qs.take j) ∧ Below w.heap.size w wr) (fun i _ => ps.length - (intOf i).toNat)
  case atStart => exact ⟨0, Nat.zero_le _, rfl, rfl, Below.refl _ _⟩
  case round =>
    obtain ⟨j, hj, rfl, hg, hbel⟩ := hrel
    by_cases hlt : j < ps.length
    · obtain ⟨s, hs⟩ := get_lt hlt
      have hlt2 : j < qs.length := by have := hlen'.out; omega
      obtain ⟨t, ht⟩ := get_lt hlt2
      obtain ⟨g, An, mn, cn, hAe, hglt, hsn, hc⟩ := hV.out j s hs
      obtain ⟨g', An', mn', cn', hAe', hglt', hsn', hc'⟩ := hV'.out j t ht
      subst hAe hAe'
      have hbl : ∀ i u, (fragL (kd s) (stx s) (.slice An mn cn))[i]? = some u → wr.cell? ⟨g, j * 13 + i, none⟩ = some u := fun i u hu => by rw [Nat.mul_comm j 13]; exact (hbel.cell (p := ⟨g, 13 * j + i, none⟩) hglt).trans (hc i u hu)
      have hbel1 : Below wr.heap.size wr (wr.alloc (fragObj s An mn cn)) := below_alloc _ _
      have hbl' : ∀ i u, (fragL (kd t) (stx t) (.slice An' mn' cn'))[i]? = some u → (wr.alloc (fragObj s An mn cn)).cell? ⟨g', j * 13 + i, none⟩ = some u := fun i u hu => by rw [Nat.mul_comm j 13]; exact (hbel1.cell (p := ⟨g', 13 * j + i, none⟩) (Nat.lt_of_lt_of_le hglt' hbel.size)).trans ((hbel.cell (p := ⟨g', 13 * j + i, none⟩) hglt').trans (hc' i u hu))
      have e0 : wr.cell? ⟨g, j * 13, none⟩ = some (.int .i64 (kd s)) := hbl 0 _ rfl
      have e1 := hbl 1 _ rfl
      have e2 := hbl 2 _ rfl
      have e3 := hbl 3 _ rfl
      have e4 := hbl 4 _ rfl
      have e5 := hbl 5 _ rfl
      have e6 := hbl 6 _ rfl
      have e7 := hbl 7 _ rfl
      have e8 := hbl 8 _ rfl
      have e9 := hbl 9 _ rfl
      have e10 := hbl 10 _ rfl
      have e11 := hbl 11 _ rfl
      have e12 := hbl 12 _ rfl
      have f0 : (wr.alloc (fragObj s An mn cn)).cell? ⟨g', j * 13, none⟩ = some (.int .i64 (kd t)) := hbl' 0 _ rfl
      have f1 := hbl' 1 _ rfl
      have f2 := hbl' 2 _ rfl
      have f3 := hbl' 3 _ rfl
      have f4 := hbl' 4 _ rfl
      have f5 := hbl' 5 _ rfl
      have f6 := hbl' 6 _ rfl
      have f7 := hbl' 7 _ rfl
      have f8 := hbl' 8 _ rfl
      have f9 := hbl' 9 _ rfl
      have f10 := hbl' 10 _ rfl
      have f11 := hbl' 11 _ rfl
      have f12 := hbl' 12 _ rfl
      simp only [fragObj] at f0 f1 f2 f3 f4 f5 f6 f7 f8 f9 f10 f11 f12
      have hs' := Lib.hid hs
      have ht' := Lib.hid ht
      clear hs ht hbl hbl' hc hc' hV hV'
      go_wp2_with fail
      have hbel2 : Below wr.heap.size wr ((wr.alloc (fragObj s An mn cn)).alloc (fragObj t An' mn' cn')) := below_two _ _ _
      refine (sameStep_at s t An An' mn cn mn' cn' _ (hsn.keep ((Keeps.of_below (hbel.mono (Nat.le_refl _))).trans (Keeps.of_below hbel2))) (hsn'.keep ((Keeps.of_below (hbel.mono (Nat.le_refl _))).trans (Keeps.of_below hbel2)))).mono ?_
      rintro e w2 ⟨r, rfl, hr, hb3⟩
      have hbel3 := hbel.trans ((hbel2.trans (hb3.mono (by rw [alloc_size, alloc_size]; omega))).mono hbel.size)
      have hr' := Lib.hid hr
      clear hr hbel2 hbel1 e0 e1 e2 e3 e4 e5 e6 e7 e8 e9 e10 e11 e12 f0 f1 f2 f3 f4 f5 f6 f7 f8 f9 f10 f11 f12 hb3
      cases r with
      | false =>
        have hne : Hid (¬ ps = qs) := fun h => by
          have h1 := hs'.out
          rw [h, ht'.out] at h1
          have := hr'.out.2 (Option.some.inj h1).symm
          cases this
        go_wp2_with fail
        go_ret
        exact ⟨false, rfl, not_iff _ hne.out, hbel3⟩
      | true =>
        have hg' : Hid (ps.take (j + 1) = qs.take (j + 1)) := by
          show _ = _
          rw [take_get hs'.out, take_get ht'.out, hg.out, hr'.out.1 rfl]
        clear hg hr'
        go_wp2_with fail
        go_roundw
        case rel => exact ⟨j + 1, by omega, by go_num, hg', hbel3⟩
        case measure => simp [intOf]; omega
    · have hfin : Hid (ps = qs) := by
        have h := hg.out
        rw [List.take_of_length_le (by omega), List.take_of_length_le (by have := hlen'.out; omega)] at h
        exact h
      clear hg
      go_wp2_with fail
      go_ret
      exact ⟨true, rfl, ⟨fun _ => hfin.out, fun _ => rfl⟩, hbel⟩

theorem samePlace_any (ps qs : List Step) (va vb : Value) (B B' : Nat) (w : World) (ha : FrOwn w B va (ps.map some)) (hb : FrOwn w B' vb (qs.map some)) (hpl : ps.length ≤ 1000000) :
    Calls Try.prog 20 #[va, vb] w (IffB (ps = qs) w) := by
  obtain ⟨A, ca, rfl, _⟩ := ha.view
  obtain ⟨A', ca', rfl, _⟩ := hb.view
  have ha' := Lib.hid ha
  have hb' := Lib.hid hb
  clear ha hb
  go_enter Try.func20, Try.ntmps20
  go_wp2_with fail
  refine (unrooted_any _ ps B w ha'.out).mono ?_
  rintro e w' ⟨rfl, rfl⟩
  go_wp2_with fail
  refine (unrooted_any _ qs B' w hb'.out).mono ?_
  rintro e w' ⟨rfl, rfl⟩
  go_wp2_with fail
  refine (equalFrag_any ps qs _ _ B B' w ha'.out hb'.out hpl).mono ?_
  rintro e w2 ⟨r, rfl, hr, hb2⟩
  have hr' := Lib.hid hr
  clear hr
  go_wp2_with fail
  go_ret
  exact ⟨r, rfl, hr'.out, hb2⟩
end Go.Proofs.Ytpdcoipfpffhnaa
