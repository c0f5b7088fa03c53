/-
  FnDiffFirst answers true at every input, and its arguments read afterwards as they read before: Compare tells one of the places at which two values differ, and none just if there is none. Conditions: none.
-/
import Derived.Test.YtpdcoipfpffhnaaRows
import Derived.Test.YtpdcoipfpffhnaaFnDiff
import Derived.Test.YtpdcoipfpffhnaaLaw
import Derived.SizedLaws
namespace Go.Proofs.Ytpdcoipfpffhnaa
open Go.ChangeShapes Go.WideShapes Go.ChangeAt Go.RowKit
set_option linter.unusedVariables false

set_option maxRecDepth 100000 in
theorem val_param {W : World} {r : Reach} {base : Nat} {v : Value} {t : V} (h : Value.okWide Try.prog W r base 26 v) (hr : Rep any W t v.cells.toList) :
    ∃ A ca B cb, v = .agg #[.int .i64 t.kind, .int .i64 t.n, .float .f64 t.f, .string t.s, .slice A t.l.length ca, .slice B t.keys.length cb] ∧ Bds t ca cb ∧ Strs any W B t.keys ∧ Vals any W A t.l := by
  obtain ⟨A, ca, B, cb, e, hb, hB, hA⟩ := hr.inv
  obtain ⟨cs, rfl, _⟩ := okWide_struct Try.underlying26 h
  refine ⟨A, ca, B, cb, ?_, hb, hB, hA⟩
  have : cs.toList = _ := e
  rw [← Array.toArray_toList (xs := cs), this]

set_option maxRecDepth 100000 in
theorem first_lifted (os : Os) (started : os.Started) (H : Type) (enc : TypeId × Value → H) :
    ReturnsInHanded {} Try.checked os 5 .any (Rows.fnDiffFirstSpec.pre6 enc Try.prog Try.f5 Rows.fnDiffFirstRow.domain false) (Rows.fnDiffFirstSpec.post enc Try.prog Try.f5 false true false false) := by
  refine returnsInHanded_of_change_sized (C := Try.checked) own started (by kernel_rfl) Try.func5
    (ChangeSpec.witness6 (enc := enc) (C := Try.checked) false ⟨#[], #[.agg #[.int .i64 0, .int .i64 0, .float .f64 0, .string ⟨#[]⟩, .slice none 0 0, .slice none 0 0], .agg #[.int .i64 0, .int .i64 0, .float .f64 0, .string ⟨#[]⟩, .slice none 0 0, .slice none 0 0]], []⟩ 8 (by kernel_rfl) (by kernel_rfl) (by kernel_rfl) (by kernel_rfl)) ?_
  intro W base args ds gs before hval0 hW hcnd hsz _
  have hval : ∀ (j : Nat) t v, Try.f5.params[j]? = some t → args[j]? = some v → Value.okWide Try.prog W .any base t v := hval0
  have hW' := hW
  obtain ⟨p, q, hA0, hV, rfl, hfz, hnd⟩ := hW
  have hA : DataW.TrodAll enc Try.prog W 0 (fun _ => true) true Try.f5.params.toList args.toList ds p := hA0
  rw [Try.params5] at hA hval
  obtain ⟨v0, vs0, d0, ds0, p0, q0, ha0, rfl, rfl, h0, r0⟩ := trodAll_cons hA
  obtain ⟨v1, vs1, d1, ds1, p1, q1, rfl, rfl, rfl, h1, r1⟩ := trodAll_cons r0
  obtain ⟨rfl, rfl, rfl⟩ := trodAll_nil r1
  obtain rfl : args = #[v0, v1] := by cases args; simp_all
  obtain ⟨rfl, rfl⟩ := trodVars_none hV
  have hs0 : ∀ n ∈ d0.weights Try.prog 26, n ≤ reachBytes := fun n hn => by
    have := List.all_eq_true.1 hsz n (DataW.weights_mem_each (j := 0) (t := 26) (d := d0) rfl rfl n hn)
    simpa using this
  have hs1 : ∀ n ∈ d1.weights Try.prog 26, n ≤ reachBytes := fun n hn => by
    have := List.all_eq_true.1 hsz n (DataW.weights_mem_each (j := 1) (t := 26) (d := d1) rfl rfl n hn)
    simpa using this
  obtain ⟨fu0, h0⟩ := h0
  obtain ⟨fu1, h1⟩ := h1
  obtain ⟨f, hf⟩ := open_val fu0 h0 hs0
  obtain ⟨t, ht⟩ := open_val fu1 h1 hs1
  obtain ⟨A, ca, B, cb, f0, hb, hB, hA1⟩ := val_param (hval 0 26 v0 rfl rfl) hf
  obtain ⟨A', ca', B', cb', f1, hb', hB', hA1'⟩ := val_param (hval 1 26 v1 rfl rfl) ht
  subst f0 f1
  refine (fnDiff_any f t A B A' B' ca cb ca' cb' W hb hB hA1 hb' hB' hA1').mono fun e W' ⟨r, he, hr, hb⟩ => ?_
  subst he
  subst hr
  exact ⟨_, rfl, post_law rfl rfl rfl Try.underlying4 laidOut (by
    intro t ht
    rw [Try.params5] at ht
    simp only [List.mem_cons, List.not_mem_nil, or_false] at ht
    rcases ht with rfl | rfl <;> exact ⟨by kernel_rfl, of_decide_eq_true (by kernel_rfl)⟩) hW' hb⟩

theorem first_holds : Rows.FnDiffFirstSaid :=
  OpenClaim.holds_of_wide 5 Try.f5 rfl rfl rfl rfl rfl rfl rfl ⟨rfl, rfl, rfl, rfl, rfl⟩ rfl rfl rfl rfl rfl (by kernel_rfl) Try.func5 (by kernel_rfl)
    (of_decide_eq_true (by kernel_rfl)) (by unfold Func.isWrapper; rw [if_neg (by decide +kernel)]; exact ⟨rfl, rfl⟩)
    (fun os started H enc _ => first_lifted os started H enc)
end Go.Proofs.Ytpdcoipfpffhnaa
