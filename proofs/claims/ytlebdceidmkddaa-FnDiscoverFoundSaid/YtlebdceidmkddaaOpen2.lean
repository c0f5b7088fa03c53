/-
  From the reading of a []impl.Value to the trees that it holds. Conditions: none.
-/
import Derived.Test.YtlebdceidmkddaaOpen
namespace Go.Proofs.Ytlebdceidmkddaa
open Go.ChangeShapes Go.WideShapes Go.ChangeAt Go.RowKit
set_option linter.unusedVariables false
section
variable {H : Type} {enc : TypeId × Value → H} {W : World} {sp : Nat → Bool} {held : Bool}

theorem open_vals {fuel : Nat} {cs : List Value} {x : DataW H × List MemPlace} (h : DataW.trod enc Try.prog W 0 sp held fuel 22 cs = some x) (hw : ∀ n ∈ x.1.weights Try.prog 22, n ≤ reachBytes) :
    ∃ A ca l, cs = [.slice A l.length ca] ∧ Vals any W A l ∧ l.length ≤ ca ∧ ca ≤ 9223372036854775807 ∧ l.length ≤ 140737488351232 := by
  rcases DataW.trod_slice Try.underlying22 h with ⟨e4, _⟩ | ⟨a, len, cap, elems, rest, n', _, e4, e4', hb, hl, hm, hlen, hel, _, _⟩
  · exact ⟨none, 0, [], e4, fun h => absurd rfl h, by simp, by simp, by simp⟩
  · subst e4
    have hg : ∀ i, i < len → ∃ v, ∃ cs, Rep any W v cs ∧ ∀ j u, cs[j]? = some u → W.cell? (a.add (i * 6 + j)) = some u := fun i hi => by
      have h1 := hel i hi
      rw [cells_val, List.getElem?_eq_getElem (by omega)] at h1
      obtain ⟨cs', h2, h3⟩ := Option.bind_eq_some_iff.1 h1
      obtain ⟨v, hv⟩ := open_val n' h3 (fun n hn => hw n (by
        rw [e4']
        simp only [DataW.weights, Try.underlying22, List.mem_cons, List.mem_append]
        exact Or.inr (Or.inl (weights_all (List.mem_map.2 ⟨elems[i]'(by omega), List.getElem_mem _, rfl⟩) n hn))))
      exact ⟨v, cs', hv, fun j u hj => by rw [← add_add']; exact cells_at h2 j u hj⟩
    have hc : ∀ i, ∃ v, i < len → ∃ cs, Rep any W v cs ∧ ∀ j u, cs[j]? = some u → W.cell? (a.add (i * 6 + j)) = some u := fun i => by
      by_cases hi : i < len
      · obtain ⟨v, hv⟩ := hg i hi
        exact ⟨v, fun _ => hv⟩
      · exact ⟨⟨0, 0, 0, ⟨#[]⟩, [], []⟩, fun h => absurd h hi⟩
    have hs := fun i => Classical.choose_spec (hc i)
    refine ⟨some a, cap, (List.range len).map (fun i => Classical.choose (hc i)), by simp, fun _ => ⟨a, rfl, trivial, fun i v hi => ?_⟩, by simpa using hl, by unfold maxLen at hm; omega, ?_⟩
    · rw [List.getElem?_map] at hi
      obtain ⟨j, hj, rfl⟩ := Option.map_eq_some_iff.1 hi
      obtain ⟨hj1, hj2⟩ := List.getElem?_eq_some_iff.1 hj
      have : i = j := by simpa using hj2
      subst this
      exact hs i (by simpa using hj1)
    · have := hw ((elems.length + rest.length) * 88) (by
        rw [e4']
        simp only [DataW.weights, Try.underlying22, bytes_val, List.length_map, List.mem_cons, true_or])
      unfold reachBytes at this
      simp
      omega

theorem bytes_u8 : Try.prog.bytesOf 5 = 1 := by kernel_rfl
theorem cells_u8 : Try.prog.cellsOf 5 = 1 := by kernel_rfl
theorem open_u8s {fuel : Nat} {cs : List Value} {x : DataW H × List MemPlace} (h : DataW.trod enc Try.prog W 0 sp held fuel 24 cs = some x) (hw : ∀ n ∈ x.1.weights Try.prog 24, n ≤ reachBytes) :
    ∃ C n c, cs = [.slice C n c] ∧ (0 < n → ∃ ad, C = some ad ∧ ∀ i, i < n → ∃ x : Int, W.cell? (ad.add i) = some (.int .u8 x) ∧ 0 ≤ x ∧ x ≤ 255) ∧ n ≤ c ∧ c ≤ 9223372036854775807 ∧ n ≤ 140737488351232 := by
  rcases open_ints Try.underlying24 Try.underlying5 cells_u8 h with ⟨rfl, _⟩ | ⟨a, len, cap, zs, rfl, _, hl, hm, hz, hx, hc, hwf⟩
  · exact ⟨none, 0, 0, rfl, fun h => absurd h (by omega), by omega, by omega, by omega⟩
  · have hzl : len ≤ zs.length := by rw [hz]; split <;> omega
    refine ⟨some a, len, cap, rfl, fun _ => ⟨a, rfl, fun i hi => ⟨_, hc i (by omega), ?_⟩⟩, hl, by unfold maxLen at hm; omega, ?_⟩
    · have hmem : zs.getD i 0 ∈ zs := by
        rw [List.getD_eq_getElem?_getD, List.getElem?_eq_getElem (by omega)]
        exact List.getElem_mem _
      have := hwf _ hmem
      simpa [Lit.wf, IntKind.min, IntKind.max, IntKind.signed, IntKind.bits] using this
    · have := hw (((lits (H := H) .u8 (zs.take len)).length + (lits (H := H) .u8 (zs.drop len)).length) * 1) (by
        rw [hx]
        simp only [DataW.weights, Try.underlying24, bytes_u8, List.mem_cons, true_or])
      unfold reachBytes at this
      simp [lits] at this
      omega
end
end Go.Proofs.Ytlebdceidmkddaa
