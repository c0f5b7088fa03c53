/-
  FnTidy answers true at every input, and its arguments read afterwards as they read before: a value comes back from Decompose, and from Alter, as it is, but that members of objects are left out that are null or empty, by definition. Conditions: none.
-/
import Derived.Test.YtpdcoipfpffhnaaGreatRows
import Derived.Test.YtpdcoipfpffhnaaGreatFnTidy
import Derived.Test.YtpdcoipfpffhnaaGreatLaw
import Derived.SizedLaws
namespace Go.Proofs.YtpdcoipfpffhnaaGreat
open Go.ChangeShapes Go.WideShapes Go.ChangeAt Go.RowKit
set_option linter.unusedVariables false

set_option maxRecDepth 100000 in
theorem val_param {W : World} {r : Reach} {base : Nat} {v : Value} {t : V} (h : Value.okWide Tryz.prog W r base 26 v) (hr : Rep any W t v.cells.toList) :
    ∃ A ca B cb, v = .agg #[.int .i64 t.kind, .int .i64 t.n, .float .f64 t.f, .string t.s, .slice A t.l.length ca, .slice B t.keys.length cb] ∧ Bds t ca cb ∧ Strs any W B t.keys ∧ Vals any W A t.l := by
  obtain ⟨A, ca, B, cb, e, hb, hB, hA⟩ := hr.inv
  obtain ⟨cs, rfl, _⟩ := okWide_struct Tryz.underlying26 h
  refine ⟨A, ca, B, cb, ?_, hb, hB, hA⟩
  have : cs.toList = _ := e
  rw [← Array.toArray_toList (xs := cs), this]

set_option maxRecDepth 100000 in
theorem tidy_lifted (os : Os) (started : os.Started) (H : Type) (enc : TypeId × Value → H) :
    ReturnsInHanded {} Tryz.checked os 3 .any (Rows.fnTidySpec.pre6 enc Tryz.prog Tryz.f3 Rows.fnTidyRow.domain false) (Rows.fnTidySpec.post enc Tryz.prog Tryz.f3 false true false false) := by
  refine returnsInHanded_of_change_sized (C := Tryz.checked) own started (by kernel_rfl) Tryz.func3
    (ChangeSpec.witness6 (enc := enc) (C := Tryz.checked) false ⟨#[], #[.agg #[.int .i64 0, .int .i64 0, .float .f64 0, .string ⟨#[]⟩, .slice none 0 0, .slice none 0 0], .bool false, .bool false, .bool false], []⟩ 8 (by kernel_rfl) (by kernel_rfl) (by kernel_rfl) (by kernel_rfl)) ?_
  intro W base args ds gs before hval0 hW hcnd hsz _
  have hval : ∀ (j : Nat) t v, Tryz.f3.params[j]? = some t → args[j]? = some v → Value.okWide Tryz.prog W .any base t v := hval0
  have hW' := hW
  obtain ⟨p, q, hA0, hV, rfl, hfz, hnd⟩ := hW
  have hA : DataW.TrodAll enc Tryz.prog W 0 (fun _ => true) true Tryz.f3.params.toList args.toList ds p := hA0
  rw [Tryz.params3] at hA hval
  obtain ⟨v0, vs0, d0, ds0, p0, q0, ha0, rfl, rfl, h0, r0⟩ := trodAll_cons hA
  obtain ⟨v1, vs1, d1, ds1, p1, q1, rfl, rfl, rfl, h1, r1⟩ := trodAll_cons r0
  obtain ⟨v2, vs2, d2, ds2, p2, q2, rfl, rfl, rfl, h2, r2⟩ := trodAll_cons r1
  obtain ⟨v3, vs3, d3, ds3, p3, q3, rfl, rfl, rfl, h3, r3⟩ := trodAll_cons r2
  obtain ⟨rfl, rfl, rfl⟩ := trodAll_nil r3
  obtain rfl : args = #[v0, v1, v2, v3] := by cases args; simp_all
  obtain ⟨rfl, rfl⟩ := trodVars_none hV
  have hs0 : ∀ n ∈ d0.weights Tryz.prog 26, n ≤ reachBytes := fun n hn => by
    have := List.all_eq_true.1 hsz n (DataW.weights_mem_each (j := 0) (t := 26) (d := d0) rfl rfl n hn)
    simpa using this
  obtain ⟨on, rfl⟩ := okWide_bool Tryz.underlying4 (hval 1 4 v1 rfl rfl)
  obtain ⟨oe, rfl⟩ := okWide_bool Tryz.underlying4 (hval 2 4 v2 rfl rfl)
  obtain ⟨inp, rfl⟩ := okWide_bool Tryz.underlying4 (hval 3 4 v3 rfl rfl)
  obtain ⟨fu0, h0⟩ := h0
  obtain ⟨f, hf⟩ := open_val fu0 h0 hs0
  obtain ⟨A, ca, B, cb, f0, hb, hB, hA1⟩ := val_param (hval 0 26 v0 rfl rfl) hf
  subst f0
  refine (fnTidy_any f on oe inp A B ca cb W hb hB hA1).mono fun e W' ⟨r, he, hr, hb⟩ => ?_
  subst he
  subst hr
  exact ⟨_, rfl, post_law rfl rfl rfl Tryz.underlying4 laidOut (by
    intro t ht
    rw [Tryz.params3] at ht
    simp only [List.mem_cons, List.not_mem_nil, or_false] at ht
    rcases ht with rfl | rfl | rfl | rfl <;> exact ⟨by kernel_rfl, of_decide_eq_true (by kernel_rfl)⟩) hW' hb⟩

theorem tidy_holds : Rows.FnTidySaid :=
  OpenClaim.holds_of_wide 3 Tryz.f3 rfl rfl rfl rfl rfl rfl rfl ⟨rfl, rfl, rfl, rfl, rfl⟩ rfl rfl rfl rfl rfl (by kernel_rfl) Tryz.func3 (by kernel_rfl)
    (of_decide_eq_true (by kernel_rfl)) (by unfold Func.isWrapper; rw [if_neg (by decide +kernel)]; exact ⟨rfl, rfl⟩)
    (fun os started H enc _ => tidy_lifted os started H enc)
end Go.Proofs.YtpdcoipfpffhnaaGreat
