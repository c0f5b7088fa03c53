/-
  FnDiscoverFound answers true at every input, and its arguments read afterwards as they read before: arrays and objects that are said, without apostrophes, backslashes and the character 127, among other text, are found as they stand there. Conditions: none.
-/
import Derived.Test.YtlebdceidmkddaaRows
import Derived.Test.YtlebdceidmkddaaDF
import Derived.Test.YtlebdceidmkddaaOpen2
import Derived.SizedLaws
namespace Go.Proofs.Ytlebdceidmkddaa
open Go.ChangeShapes Go.WideShapes Go.ChangeAt Go.RowKit
set_option linter.unusedVariables false

theorem one_slice {P : Program} {w : World} {r : Reach} {base : Nat} {t e : TypeId} {v u : Value} (ht : P.underlying t = some (.slice e)) (h : Value.okWide P w r base t v) (hc : v.cells.toList = [u]) : v = u := by
  obtain ⟨a, len, cap, rfl⟩ := okWide_slice ht h
  simpa [Value.cells] using hc
set_option maxRecDepth 100000 in
theorem found_lifted (os : Os) (started : os.Started) (H : Type) (enc : TypeId × Value → H) :
    ReturnsInHanded {} Try.checked os 3 .any (Rows.fnDiscoverFoundSpec.pre6 enc Try.prog Try.f3 Rows.fnDiscoverFoundRow.domain false) (Rows.fnDiscoverFoundSpec.post enc Try.prog Try.f3 false true false false) := by
  refine returnsInHanded_of_change_sized (C := Try.checked) own started (by kernel_rfl) Try.func3
    (ChangeSpec.witness6 (enc := enc) (C := Try.checked) false ⟨#[], #[.slice none 0 0, .slice none 0 0, .slice none 0 0], []⟩ 8 (by kernel_rfl) (by kernel_rfl) (by kernel_rfl) (by kernel_rfl)) ?_
  intro W base args ds gs before hval0 hW hcnd hsz _
  have hval : ∀ (j : Nat) t v, Try.f3.params[j]? = some t → args[j]? = some v → Value.okWide Try.prog W .any base t v := hval0
  have hW' := hW
  obtain ⟨p, q, hA0, hV, rfl, hfz, hnd⟩ := hW
  have hA : DataW.TrodAll enc Try.prog W 0 (fun _ => true) true Try.f3.params.toList args.toList ds p := hA0
  rw [Try.params3] at hA hval
  obtain ⟨v0, vs0, d0, ds0, p0, q0, ha0, rfl, rfl, h0, r0⟩ := trodAll_cons hA
  obtain ⟨v1, vs1, d1, ds1, p1, q1, rfl, rfl, rfl, h1, r1⟩ := trodAll_cons r0
  obtain ⟨v2, vs2, d2, ds2, p2, q2, rfl, rfl, rfl, h2, r2⟩ := trodAll_cons r1
  obtain ⟨rfl, rfl, rfl⟩ := trodAll_nil r2
  obtain rfl : args = #[v0, v1, v2] := by cases args; simp_all
  obtain ⟨rfl, rfl⟩ := trodVars_none hV
  have hs0 : ∀ n ∈ d0.weights Try.prog 22, n ≤ reachBytes := fun n hn => by
    have := List.all_eq_true.1 hsz n (DataW.weights_mem_each (j := 0) (t := 22) (d := d0) rfl rfl n hn)
    simpa using this
  have hs1 : ∀ n ∈ d1.weights Try.prog 23, n ≤ reachBytes := fun n hn => by
    have := List.all_eq_true.1 hsz n (DataW.weights_mem_each (j := 1) (t := 23) (d := d1) rfl rfl n hn)
    simpa using this
  have hs2 : ∀ n ∈ d2.weights Try.prog 24, n ≤ reachBytes := fun n hn => by
    have := List.all_eq_true.1 hsz n (DataW.weights_mem_each (j := 2) (t := 24) (d := d2) rfl rfl n hn)
    simpa using this
  obtain ⟨fu0, h0⟩ := h0
  obtain ⟨fu1, h1⟩ := h1
  obtain ⟨fu2, h2⟩ := h2
  obtain ⟨A, ca, xs, e0, hA1, hca, hca', hla⟩ := open_vals h0 hs0
  obtain ⟨B, cb, bs, e1, hB1, hcb, hcb', hlb⟩ := open_strs h1 hs1
  obtain ⟨C, n, c, e2, hC1, hcc, hcc', hlc⟩ := open_u8s h2 hs2
  have f0 := one_slice Try.underlying22 (hval 0 22 v0 rfl rfl) e0
  have f1 := one_slice Try.underlying23 (hval 1 23 v1 rfl rfl) e1
  have f2 := one_slice Try.underlying24 (hval 2 24 v2 rfl rfl) e2
  subst f0 f1 f2
  refine (found_any W xs A ca bs B cb C n c hA1 hB1 hC1 hca hca' hla hcb hcb' hlb hcc hcc' hlc).mono fun e W' ⟨r, he, hr, hb⟩ => ?_
  subst he
  subst hr
  exact ⟨_, rfl, post_law rfl rfl rfl Try.underlying4 laidOut (by
    intro t ht
    rw [Try.params3] at ht
    simp only [List.mem_cons, List.not_mem_nil, or_false] at ht
    rcases ht with rfl | rfl | rfl <;> exact ⟨by kernel_rfl, of_decide_eq_true (by kernel_rfl)⟩) hW' hb⟩

theorem found_holds : Rows.FnDiscoverFoundSaid :=
  OpenClaim.holds_of_wide 3 Try.f3 rfl rfl rfl rfl rfl rfl rfl ⟨rfl, rfl, rfl, rfl, rfl⟩ rfl rfl rfl rfl rfl (by kernel_rfl) Try.func3 (by kernel_rfl)
    (of_decide_eq_true (by kernel_rfl)) (by unfold Func.isWrapper; rw [if_neg (by decide +kernel)]; exact ⟨rfl, rfl⟩)
    (fun os started H enc _ => found_lifted os started H enc)
end Go.Proofs.Ytlebdceidmkddaa
