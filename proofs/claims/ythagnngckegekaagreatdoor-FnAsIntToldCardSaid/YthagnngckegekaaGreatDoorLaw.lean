/-
  What a law's row asks, out of its walk: the answer is true and below the heap's old size nothing has turned. Conditions: none.
-/
import Derived.Test.YthagnngckegekaaGreatDoorRows
import Derived.WalkKit
import Derived.ProofKit
import Derived.OpenShut
import Derived.SizedLaws
namespace Go.Proofs.YthagnngckegekaaGreatDoor
open Go.ChangeShapes Go.WideShapes Go.ChangeAt Go.RowKit
set_option linter.unusedVariables false

theorem own : ownKnob Tryz.prog.godebug = none := by kernel_rfl
theorem laidOut : laidOutB Tryz.prog = true := by kernel_rfl

section
variable {H : Type} {enc : TypeId × Value → H} {P : Program}

theorem trodAll_stays {W W' : World} {sp : Nat → Bool} (hl : laidOutB P = true) (hb : Below W.heap.size W W') : ∀ {ts : List TypeId} {vs : List Value} {ds : List (DataW H)} {ps : List MemPlace},
    (∀ t ∈ ts, P.readableRec t = true ∧ t < P.types.size) → DataW.TrodAll enc P W 0 (fun _ => true) true ts vs ds ps → (∀ p ∈ ps, p.block < W.heap.size) → (∀ p ∈ ps, sp p.block = true) →
    DataW.TrodAll enc P W' 0 sp true ts vs ds ps
  | [], vs, ds, ps, _, h, _, _ => by
    obtain ⟨rfl, rfl, rfl⟩ := trodAll_nil h
    exact rfl
  | t :: ts, vs, ds, ps, hr, h, hlt, hsp => by
    obtain ⟨v, vs1, d, ds1, p, q, rfl, rfl, rfl, h1, h2⟩ := trodAll_cons h
    obtain ⟨r1, r2⟩ := hr t (by simp)
    exact ⟨p, q, WideElems.Trod_stays hl r1 r2 h1 (fun x hx => hb.same (hlt x (by simp [hx]))) (fun x hx => hsp x (by simp [hx])),
      trodAll_stays hl hb (fun t ht => hr t (by simp [ht])) h2 (fun x hx => hlt x (by simp [hx])) (fun x hx => hsp x (by simp [hx])), rfl⟩

theorem post_law {f : Func} {s : ChangeSpec} {apart fresh handsOn again : Bool} {W W' : World} {args : Array Value} {ds gs : List (DataW H)} {before : List MemPlace} {tb : TypeId}
    (hs : s.vars = []) (hfn : s.fn H (ds ++ gs) = { results := [.lit (.bool true)], args := ds }) (hrt : f.resultTypes = #[tb]) (htb : P.underlying tb = some .bool) (hl : laidOutB P = true)
    (hread : ∀ t ∈ f.params.toList, P.readableRec t = true ∧ t < P.types.size)
    (hW : DataW.Whole enc P f.params.toList s.vars apart W args.toList ds gs before) (hb : Below W.heap.size W W') :
    s.post enc P f apart fresh handsOn again W args (.bool true) W' := by
  have hlt := hW.lt
  have hW0 := hW
  obtain ⟨p, q, hA, hV, rfl, hfz, hnd⟩ := hW
  have hV' : DataW.TrodVars enc P W (fun _ => true) [] gs q := by rw [← hs]; exact hV
  obtain ⟨rfl, rfl⟩ := trodVars_none hV'
  simp only [List.append_nil] at hlt hfz hnd hfn
  have hargs : ∀ sp : Nat → Bool, (∀ x ∈ p, sp x.block = true) → DataW.TrodAll enc P W' 0 sp true f.params.toList args.toList ds p := fun sp h => trodAll_stays hl hb hread hA hlt h
  have hres : ∀ (b : Nat) (sp : Nat → Bool) (hd : Bool), DataW.TrodAll enc P W' b sp hd f.resultTypes.toList ((Value.bool true).resultList f.resultTypes.size) [.lit (.bool true)] [] := by
    intro b sp hd
    rw [hrt]
    exact trodAll_mk1 (shut_bool htb _)
  refine ⟨ds, [], p ++ [], [], p, [], hW0, ?_, ?_, ?_, ?_, fun _ => ?_⟩
  · rw [List.append_nil, hfn]; exact hres _ _ _
  · rw [List.append_nil, hfn]; exact hargs _ (fun x hx => by simpa using hlt x hx)
  · rw [List.append_nil, hfn, hs]; exact rfl
  · exact hb.frame _
  · refine ⟨ok_one hrt rfl (okWide_bool_mk htb _), _, [], ([] ++ p) ++ [], ⟨[] ++ p, [], trodAll_append (hargs _ (fun _ _ => rfl)) (hres _ _ _), ?_, rfl, ?_, ?_⟩, ?_⟩
    · rw [hs]; exact rfl
    · intro b off hp
      have hp' : MemPlace.cell b off ∈ p := by simpa using hp
      rw [hb.frozen (p := ⟨b, off, none⟩) (hlt _ hp')]
      exact hfz b off hp'
    · intro ha
      simpa using hnd ha
    · intro x hx _
      simpa using hx
end

end Go.Proofs.YthagnngckegekaaGreatDoor
