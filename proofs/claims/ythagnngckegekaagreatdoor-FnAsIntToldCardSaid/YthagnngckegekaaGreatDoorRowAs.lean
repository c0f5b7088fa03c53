/-
  FnAsIntTold answers true at every input, and its arguments read afterwards as they read before: AsInt by kinds. Conditions: none.
-/
import Derived.Test.YthagnngckegekaaGreatDoorRows
import Derived.Test.YthagnngckegekaaGreatDoorTie
import Derived.Test.YthagnngckegekaaGreatDoorCards
import Derived.Test.YthagnngckegekaaGreatDoorTbs
import Derived.Test.YthagnngckegekaaGreatDoorLaw
import Derived.SizedLaws
import Derived.ProofKit
import Derived.OpenShut
import Derived.LaidMore
import Derived.Lay
import Derived.SevenTiedAt
import Derived.Stop.Joined
namespace Go.Proofs.YthagnngckegekaaGreatDoor
open Go.ChangeShapes Go.WideShapes Go.ChangeAt Go.RowKit
set_option linter.unusedVariables false

set_option maxRecDepth 100000 in
theorem val_param {W : World} {r : Reach} {base : Nat} {v : Value} {t : V} (h : Value.okWide Tryz.prog W r base 26 v) (hr : Rep any W t v.cells.toList) :
    ∃ A ca B cb, v = .agg #[.int .i64 t.kind, .int .i64 t.n, .float .f64 t.f, .string t.s, .slice A t.l.length ca, .slice B t.keys.length cb] ∧ Bds t ca cb ∧ Strs any W B t.keys ∧ Vals any W A t.l := by
  obtain ⟨A, ca, B, cb, e, hb, hB, hA⟩ := hr.inv
  obtain ⟨cs, rfl, _⟩ := okWide_struct Tryz.underlying26 h
  refine ⟨A, ca, B, cb, ?_, hb, hB, hA⟩
  have : cs.toList = _ := e
  rw [← Array.toArray_toList (xs := cs), this]

theorem tabs_of {W : World} (h : laidMet Tryz.prog Rows.fnAsIntToldRow.laid W) : Tabs W ∧ ErrsAt W := by
  have h1 := laidMet.tail (show laidMet Tryz.prog (_ :: _) W from h)
  have h2 := laidMet.tail h1
  have h3 := laidMet.tail h2
  have h4 := laidMet.tail h3
  have h5 := laidMet.tail h4
  have h6 := laidMet.tail h5
  have h7 := laidMet.tail h6
  have h8 := laidMet.tail h7
  have h9 := laidMet.tail h8
  have h10 := laidMet.tail h9
  have h11 := laidMet.tail h10
  have h12 := laidMet.tail h11
  obtain ⟨-, -, -, b3⟩ := info_of (g := 3) (a := 23) (b := 8) (c := -127) h2 (by kernel_rfl) (by kernel_rfl)
  obtain ⟨i0, i1, i2, b5⟩ := info_of (g := 5) (a := 52) (b := 11) (c := -1023) h3 (by kernel_rfl) (by kernel_rfl)
  exact ⟨⟨⟨pow_of h5, i0, i1, i2⟩, cheat_of h11, ten_of h12, ften_of h6, opt_of h4, b5, b3⟩, err_of (g := 1) h10 (by kernel_rfl) (by kernel_rfl), err_of (g := 2) h9 (by kernel_rfl) (by kernel_rfl)⟩

set_option maxRecDepth 100000 in
theorem as_lifted (os : Os) (started : os.Started) (H : Type) (enc : TypeId × Value → H) :
    ReturnsInHanded {} Tryz.checked os 3 .any (fun w args => (Rows.fnAsIntToldSpec.pre enc Tryz.prog Tryz.f3 Rows.fnAsIntToldRow.domain false w args ∧ laidMetH Tryz.prog Rows.fnAsIntToldRow.laid w) ∧ sizedMet enc Tryz.prog Tryz.f3 (OpenSpec.ofChange Rows.fnAsIntToldSpec) false w args)
      (Rows.fnAsIntToldSpec.post enc Tryz.prog Tryz.f3 false true false false) := by
  refine returnsInHanded_of_change_and (C := Tryz.checked) (X := fun w _ => laidMetH Tryz.prog Rows.fnAsIntToldRow.laid w) (fun _ _ _ hh h => h.of_heap hh) own started (by kernel_rfl) Tryz.func3
    (ChangeSpec.witness_shaped (enc := enc) (C := Tryz.checked) (os := os) (X := fun w _ => laidMetH Tryz.prog Rows.fnAsIntToldRow.laid w) false (World.laidAll Tryz.prog os Rows.fnAsIntToldRow.laid) #[.agg #[.int .i64 0,.int .i64 0,.float .f64 0,.string ⟨#[]⟩,.slice none 0 0,.slice none 0 0], .slice none 0 0] 8 (World.laidAll_os _ _ _)
      (World.shaped_of_ZipB (by kernel_rfl) (by kernel_rfl)) (by kernel_rfl) (by kernel_rfl) (by kernel_rfl)
      (by rw [MakeChecks.laidMetH_plain _ _ _ (by kernel_rfl)]; exact laidMet_laidAll _ (by kernel_rfl) (by kernel_rfl))) ?_
  intro W base args ds gs before hval0 hW hcnd hsz hL _
  have hval : ∀ (j : Nat) t v, Tryz.f3.params[j]? = some t → args[j]? = some v → Value.okWide Tryz.prog W .any base t v := hval0
  have hW' := hW
  obtain ⟨p, q, hA0, hV, rfl, hfz, hnd⟩ := hW
  have hA : DataW.TrodAll enc Tryz.prog W 0 (fun _ => true) true Tryz.f3.params.toList args.toList ds p := hA0
  rw [Tryz.params3] at hA hval
  obtain ⟨v0, vs0, d0, ds0, p0, q0, ha0, rfl, rfl, h0, r0⟩ := trodAll_cons hA
  obtain ⟨v1, vs1, d1, ds1, p1, q1, rfl, rfl, rfl, h1, r1⟩ := trodAll_cons r0
  obtain ⟨rfl, rfl, rfl⟩ := trodAll_nil r1
  obtain rfl : args = #[v0, v1] := by cases args; simp_all
  obtain ⟨rfl, rfl⟩ := trodVars_none hV
  have hs0 : ∀ n ∈ d0.weights Tryz.prog 26, n ≤ reachBytes := fun n hn => by
    have := List.all_eq_true.1 hsz n (DataW.weights_mem_each (j := 0) (t := 26) (d := d0) rfl rfl n hn)
    simpa using this
  obtain ⟨fu0, h0⟩ := h0
  obtain ⟨fu1, h1⟩ := h1
  obtain ⟨f, hf⟩ := open_val fu0 h0 hs0
  obtain ⟨A, ca, B, cb, f0, hb, hB, hA1⟩ := val_param (hval 0 26 v0 rfl rfl) hf
  obtain ⟨zs, D, cd, f1, hD⟩ := ints_param (hval 1 27 v1 rfl rfl) h1
  subst f0 f1
  have hL' : laidMet Tryz.prog Rows.fnAsIntToldRow.laid W := by
    have := hL
    rwa [MakeChecks.laidMetH_plain _ _ _ (by kernel_rfl)] at this
  obtain ⟨hT, hE⟩ := tabs_of hL'
  refine (fnAs_any f zs A B D ca cb cd W hb hB hA1 hD hT hE).mono fun e W' ⟨r, he, hr, hb⟩ => ?_
  subst he
  subst hr
  exact ⟨_, rfl, post_law rfl rfl rfl Tryz.underlying4 laidOut (by
    intro t ht
    rw [Tryz.params3] at ht
    simp only [List.mem_cons, List.not_mem_nil, or_false] at ht
    rcases ht with rfl | rfl <;> exact ⟨by kernel_rfl, of_decide_eq_true (by kernel_rfl)⟩) hW' hb⟩

theorem as_holds : Rows.FnAsIntToldSaid :=
  OpenClaim.holds_of_wide 3 Tryz.f3 rfl rfl rfl rfl rfl rfl rfl ⟨rfl, rfl, rfl, rfl, rfl⟩ rfl rfl rfl rfl rfl (by kernel_rfl) Tryz.func3 (by kernel_rfl)
    (of_decide_eq_true (by kernel_rfl)) (by unfold Func.isWrapper; rw [if_neg (by decide +kernel)]; exact ⟨rfl, rfl⟩)
    (fun os started H enc _ => as_lifted os started H enc)
theorem as_card : Rows.FnAsIntToldCardSaid :=
  Claim7.holds_tied_plain_at .later [] [.data, .data, .widerDeep, .widerDeep, .data, .data, .data, .data, .data, .sentinel, .sentinel, .pinned, .pinned] true (true, "c4f9aa1605ef9438f9b70c3b82f7af5df6d08d641893c6be2400a9912a1bfb47") true as_holds (fun _ h => by cases h) (by kernel_rfl) (fun _ h => by cases h) fnAsIntTold_row_tie rfl ⟨rfl, rfl⟩ (by kernel_rfl) rfl
    (fun f fn hf hfn => by
      obtain rfl : f = 3 := Option.some.inj ((show Tryz.prog.funcNamed "pub-hodometer/laws.FnAsIntTold" = some 3 by kernel_rfl).symm.trans hf) |>.symm
      obtain rfl : fn = Tryz.f3 := (Option.some.inj (Tryz.func3.symm.trans hfn)).symm
      exact ⟨by kernel_rfl, fun j t ht => by
        rw [Tryz.params3] at ht
        have hm : t ∈ [26, 27] := by simpa using Array.mem_of_getElem? ht
        have hall : ([26, 27].all fun u => !Tryz.prog.wantsStandIn u) = true := by kernel_rfl
        exact (show Tryz.prog.wantsStandIn t = false by simpa using List.all_eq_true.1 hall t hm)⟩)
    (by kernel_rfl)
#print axioms as_card
end Go.Proofs.YthagnngckegekaaGreatDoor
