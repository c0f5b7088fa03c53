/-
  When data match a filter, and alt.match whole. Conditions: none.
-/
import Derived.Test.YtpdcoipfpffhnaaMatchF
namespace Go.Proofs.Ytpdcoipfpffhnaa
open Go.ChangeShapes Go.WideShapes Go.ChangeAt Go.RowKit
set_option linter.unusedVariables false

/-- A filter in memory: nodes are alt.Filter maps. -/
inductive FR (w : World) (hi : Nat) : V → Value → Prop
  | leaf (v : V) (x : Value) (lo hi' : Nat) (h : PT w lo hi' v x) (h7 : v.kind ≠ 7) (h8 : v.kind ≠ 8) : FR w hi v x
  | node (v : V) (h : v.kind = 8) (b : Nat) (ps : List (ByteArray × Value)) (hlt : b < hi) (hb : HasMap w b ps) (hkeys : ps.map (·.1) = v.keys) (hn : ps.length = v.l.length)
      (hk : ∀ (i : Nat) x p, v.l[i]? = some x → ps[i]? = some p → FR w hi x p.2) : FR w hi v (.iface 56 (.map (some b)))

theorem PT.leaf_move {w w1 : World} {lo hi : Nat} {v : V} {x : Value} (h : PT w lo hi v x) (h7 : v.kind ≠ 7) (h8 : v.kind ≠ 8) : PT w1 lo hi v x := by
  cases h with
  | null _ _ _ h => exact .null _ _ _ h
  | bool _ _ _ h => exact .bool _ _ _ h
  | int _ _ _ h => exact .int _ _ _ h
  | float _ _ _ h => exact .float _ _ _ h
  | str _ _ _ h => exact .str _ _ _ h
  | arr _ _ _ h => exact absurd h h7
  | obj _ _ _ h => exact absurd h h8
theorem FR.bel {w w1 : World} {hi : Nat} {v : V} {x : Value} (h : FR w hi v x) (hb : Below hi w w1) : FR w1 hi v x := by
  induction h with
  | leaf v x lo hi' h h7 h8 => exact .leaf v x lo hi' (h.leaf_move h7 h8) h7 h8
  | node v h b ps hlt hm hkeys hn hk ih => exact .node v h b ps hlt (hm.same (hb.block b hlt)) hkeys hn ih

inductive M : V → V → Prop
  | obj (f v : V) (hf : f.kind = 8) (hv : v.kind = 8) (h : ∀ (i : Nat) k x, f.keys[i]? = some k → f.l[i]? = some x → M x (v.member k)) : M f v
  | arr (f v : V) (hv : v.kind = 7) (i : Nat) (y : V) (hy : v.l[i]? = some y) (h : M f y) : M f v
  | leaf (f v : V) (h7 : v.kind ≠ 7) (h8 : v.kind ≠ 8) (hf : f.kind ≠ 8) (h : LAlike f v) : M f v
theorem m_obj {f v : V} (hf : f.kind = 8) (hv : v.kind = 8) : M f v ↔ ∀ (i : Nat) k x, f.keys[i]? = some k → f.l[i]? = some x → M x (v.member k) := by
  constructor
  · intro h
    cases h with
    | obj _ _ _ _ h => exact h
    | arr _ _ h => omega
    | leaf _ _ _ h => omega
  · intro h; exact .obj f v hf hv h
theorem m_arr {f v : V} (hv : v.kind = 7) : M f v ↔ ∃ i : Nat, i < v.l.length ∧ ∀ y, v.l[i]? = some y → M f y := by
  constructor
  · intro h
    cases h with
    | obj _ _ _ h => omega
    | arr _ _ _ i y hy h => exact ⟨i, (List.getElem?_eq_some_iff.1 hy).1, fun y' hy' => by obtain rfl := Option.some.inj (hy.symm.trans hy'); exact h⟩
    | leaf _ _ h => omega
  · rintro ⟨i, hi, h⟩
    obtain ⟨y, hy⟩ := get_lt hi
    exact .arr f v hv i y hy (h y hy)
theorem m_leaf {f v : V} (h7 : v.kind ≠ 7) (h8 : v.kind ≠ 8) : M f v ↔ f.kind ≠ 8 ∧ LAlike f v := by
  constructor
  · intro h
    cases h with
    | obj _ _ _ h => omega
    | arr _ _ h => omega
    | leaf _ _ _ _ hf h => exact ⟨hf, h⟩
  · rintro ⟨hf, h⟩; exact .leaf f v h7 h8 hf h

theorem FR.other {w : World} {hi : Nat} {f : V} {x : Value} {T : TypeId} (h : FR w hi f x) (hT : (f.kind = 2 → 4 ≠ T) ∧ (f.kind = 3 → 2 ≠ T) ∧ (f.kind = 4 → 22 ≠ T) ∧ (f.kind = 5 → 9 ≠ T) ∧ (f.kind = 8 → 56 ≠ T)) : Other T x := by
  cases h with
  | leaf _ _ _ _ h h7 h8 => exact h.other ⟨hT.1, hT.2.1, hT.2.2.1, hT.2.2.2.1, fun h => absurd h h7, fun h => absurd h h8⟩
  | node _ h => exact Or.inr ⟨_, _, rfl, hT.2.2.2.2 h⟩

/-- Of data that are a leaf. -/
theorem fmatch_leaf (f v : V) (x y : Value) (w : World) {hi lo' hi' : Nat} (hx : FR w hi f x) (hy : PT w lo' hi' v y) (hfo : f.Ok) (hvo : v.Ok) (h7 : v.kind ≠ 7) (h8 : v.kind ≠ 8) (v4 : v.kind ≠ 4) (f4 : f.kind ≠ 4) :
    Calls Try.prog 68 #[x, y] w (IffBool (M f v) w) := by
  have hm := m_leaf (f := f) h7 h8
  have f7 : f.kind = 8 ∨ (f.kind ≠ 7 ∧ f.kind ≠ 8) := by
    cases hx with
    | leaf _ _ _ _ h h7 h8 => exact Or.inr ⟨h7, h8⟩
    | node _ h => exact Or.inl h
  rw [hm]
  cases hy with
  | null _ _ _ h =>
    refine fmatch_nil x w _ ?_
    cases hx with
    | leaf _ _ lo hi' hp p7 p8 =>
      cases hp with
      | null _ _ _ h' => exact Or.inl ⟨rfl, by omega, by unfold LAlike; exact ⟨by omega, by omega, by omega, by omega⟩⟩
      | bool _ _ _ h' => exact Or.inr ⟨_, _, rfl, fun hl => by have := hl.2.1; omega⟩
      | int _ _ _ h' => exact Or.inr ⟨_, _, rfl, fun hl => by have := hl.2.1; omega⟩
      | float _ _ _ h' => exact Or.inr ⟨_, _, rfl, fun hl => by have := hl.2.1; omega⟩
      | str _ _ _ h' => exact Or.inr ⟨_, _, rfl, fun hl => by have := hl.2.1; omega⟩
      | arr _ _ _ h' => exact absurd h' p7
      | obj _ _ _ h' => exact absurd h' p8
    | node _ h' => exact Or.inr ⟨_, _, rfl, fun hl => hl.1 h'⟩
  | bool _ _ _ h =>
    refine fmatch_bool _ x w _ ?_
    by_cases ht : f.kind = 2
    · cases hx with
      | leaf _ _ lo hi' hp p7 p8 =>
        cases hp with
        | bool _ _ _ h' =>
          refine Or.inl ⟨_, rfl, ?_⟩
          have bf : f.n = 0 ∨ f.n = 1 := by cases hfo <;> first | assumption | omega
          have bt : v.n = 0 ∨ v.n = 1 := by cases hvo <;> first | assumption | omega
          unfold LAlike
          constructor
          · intro he
            refine ⟨by omega, by omega, fun _ => ?_, by omega, by omega⟩
            rcases bf with bf | bf <;> rcases bt with bt | bt <;> rw [bf, bt] at he ⊢ <;> simp at he
          · rintro ⟨_, _, h2, _⟩
            rw [h2 (Or.inl h')]
        | _ => omega
      | node _ h' => omega
    · exact Or.inr ⟨hx.other ⟨by omega, fun _ => by decide, fun _ => by decide, fun _ => by decide, fun _ => by decide⟩, fun hl => ht (by have := hl.2.1; omega)⟩
  | int _ _ _ h =>
    refine fmatch_int _ x w _ ?_
    by_cases ht : f.kind = 3
    · cases hx with
      | leaf _ _ lo hi' hp p7 p8 =>
        cases hp with
        | int _ _ _ h' =>
          refine Or.inl ⟨_, rfl, ?_⟩
          unfold LAlike
          exact ⟨fun he => ⟨by omega, by omega, fun _ => he, by omega, by omega⟩, fun hl => hl.2.2.1 (Or.inr h')⟩
        | _ => omega
      | node _ h' => omega
    · refine Or.inr ⟨?_, fun hl => ht (by have := hl.2.1; omega)⟩
      cases hx with
      | leaf _ _ lo hi' hp p7 p8 => exact Or.inl (hp.noNum ht f4)
      | node _ h' b => exact Or.inr ⟨_, rfl⟩
  | float _ _ _ h => exact absurd h v4
  | str _ _ _ h =>
    refine fmatch_str _ x w _ ?_
    by_cases ht : f.kind = 5
    · cases hx with
      | leaf _ _ lo hi' hp p7 p8 =>
        cases hp with
        | str _ _ _ h' =>
          refine Or.inl ⟨_, rfl, ?_⟩
          unfold LAlike
          exact ⟨fun he => ⟨by omega, by omega, by omega, by omega, fun _ => he⟩, fun hl => hl.2.2.2.2 (Or.inl h')⟩
        | _ => omega
      | node _ h' => omega
    · exact Or.inr ⟨hx.other ⟨fun _ => by decide, fun _ => by decide, fun _ => by decide, by omega, fun _ => by decide⟩, fun hl => ht (by have := hl.2.1; omega)⟩
  | arr _ _ _ h => exact absurd h h7
  | obj _ _ _ h => exact absurd h h8

def MatchFAt (f v : V) : Prop := ∀ (x y : Value) (w : World) {hi lo' hi' : Nat} (hx : FR w hi f x) (hy : PT w lo' hi' v y) (h1 : hi ≤ w.heap.size) (h2 : hi' ≤ w.heap.size) (hfo : f.Ok) (hvo : v.Ok) (f4 : f.No 4) (v4 : v.No 4) (hvw : v.wt ≤ 1000000),
    Calls Try.prog 68 #[x, y] w (IffB (M f v) w)

theorem matchF_any (f : V) : ∀ v, MatchFAt f v := by
  induction f using V.ind with
  | h f ihf =>
  intro v
  induction v using V.ind with
  | h v ihv =>
  intro x y w hi lo' hi' hx hy h1 h2 hfo hvo f4 v4 hvw
  by_cases h7 : v.kind = 7
  · cases hy with
    | arr _ _ _ h' g' cap' cur' ys cut' hlo' hg' hhi' hb' hn' hc1' hc2' hs' ht' hm' hk' =>
      have hcm' := cut_mono hm'
      have hlm : v.l.length ≤ 1000000 := by have := wt_len v; omega
      refine (fmatch_arr x w g' cap' cur' ys v.l.length hb' ht' hn' hlm (fun i => ∀ y, v.l[i]? = some y → M f y) (fun i Y hY wr hbel => ?_)).mono ?_
      · have hi1 : i < v.l.length := by rw [← hn']; exact (List.getElem?_eq_some_iff.1 hY).1
        obtain ⟨y1, hy1⟩ := get_lt hi1
        have e2 : cut' (i + 1) ≤ w.heap.size := by have := hcm' (i + 1) v.l.length (by omega) (by omega); omega
        refine (ihv y1 (get_mem hy1) x Y wr (hx.bel (hbel.mono h1)) ((hk' i y1 Y hy1 hY).bel (hbel.mono e2)) (Nat.le_trans h1 hbel.size) (Nat.le_trans e2 hbel.size) hfo (hvo.kids _ (get_mem hy1)) f4 (v4.kids hvo _ (get_mem hy1)) (by have := wt_kid (get_mem hy1); omega)).mono ?_
        rintro e w' ⟨r, rfl, hr, hb5⟩
        refine ⟨r, rfl, hr.trans ⟨fun h y hy => ?_, fun h => h y1 hy1⟩, hb5⟩
        obtain rfl := Option.some.inj (hy1.symm.trans hy)
        exact h
      · rintro e w' ⟨r, rfl, hr, hb5⟩
        exact ⟨r, rfl, hr.trans (m_arr h7).symm, hb5⟩
    | _ => omega
  by_cases h8 : v.kind = 8
  · cases hx with
    | leaf _ _ lo hi0 hp p7 p8 =>
      cases hy with
      | obj _ _ _ h' b' ps' =>
        exact fmatch_obj_no _ _ _ _ (fun hM => by
          cases hM with
          | obj _ _ hf => exact p8 hf
          | arr _ _ h => omega
          | leaf _ _ _ h => omega) (hp.other ⟨fun _ => by decide, fun _ => by decide, fun _ => by decide, fun _ => by decide, fun _ => by decide, fun _ => by decide⟩)
      | _ => omega
    | node _ hf8 b ps hlt hb hkeys hn hk =>
      cases hy with
      | obj _ _ _ h' b' ps' cut' hlo' hg' hhi' hb' hkeys' hn' hm' hk' =>
        obtain ⟨es, clock, hbe, hst, hen⟩ := hb
        refine (fmatch_obj w b b' es clock ps hbe hst hen (fun i => ∀ k x, f.keys[i]? = some k → f.l[i]? = some x → M x (v.member k)) (fun i s z hp wr hbel => ?_)).mono ?_
        · have hi1 : i < f.l.length := by rw [← hn]; exact (List.getElem?_eq_some_iff.1 hp).1
          obtain ⟨x1, hx1⟩ := get_lt hi1
          have p1 := (hk i x1 (s, z) hx1 hp).bel (hbel.mono h1)
          have hki : f.keys[i]? = some s := by rw [← hkeys]; simp [hp]
          have hy2 : PT wr lo' hi' v (.iface 54 (.map (some b'))) := (PT.obj _ _ _ h' b' ps' cut' hlo' hg' hhi' hb' hkeys' hn' hm' hk').bel (hbel.mono h2)
          cases hy2 with
          | obj _ _ _ _ _ qs cut2 hlo2 hg2 hhi2 hb2 hkeys2 hn2 hm2 hk2 =>
          obtain ⟨Z, hz, pz⟩ := PT.lookup hb2 hkeys2 hn2 hlo2 hg2 hhi2 hm2 hk2 s
          refine ⟨Z, hz, (ihf x1 (get_mem hx1) (v.member s) z Z wr p1 pz (Nat.le_trans h1 hbel.size) (Nat.le_trans h2 hbel.size) (hfo.kids _ (get_mem hx1)) (hvo.member s) (f4.kids hfo _ (get_mem hx1)) (no_member v4 hvo s) ?_).mono ?_⟩
          · rcases V.member_cases v s with e | e
            · rw [e]; simp [V.null, V.wt, V.wts, sumS]; (show 1 + 0 ≤ 1000000); omega
            · have := wt_kid e; omega
          · rintro e w' ⟨r, rfl, hr, hb5⟩
            refine ⟨r, rfl, hr.trans ⟨fun h k x hk hx => ?_, fun h => h s x1 hki hx1⟩, hb5⟩
            obtain rfl := Option.some.inj (hx1.symm.trans hx)
            obtain rfl := Option.some.inj (hki.symm.trans hk)
            exact h
        · rintro e w' ⟨r, rfl, hr, hb5⟩
          refine ⟨r, rfl, hr.trans ?_, hb5⟩
          rw [m_obj hf8 h8]
          exact ⟨fun h i k x hk hx => h i (by rw [hn]; exact (List.getElem?_eq_some_iff.1 hx).1) k x hk hx, fun h i hi k x hk hx => h i k x hk hx⟩
      | _ => omega
  · refine (fmatch_leaf f v x y w hx hy hfo hvo h7 h8 (no_of v4) (no_of f4)).mono ?_
    intro e w' h
    exact h.below
end Go.Proofs.Ytpdcoipfpffhnaa
