/-
  From the reading of an argument to the tree that its cells hold. Conditions: none.
-/
import Derived.Test.YthagnngckegekaaGreatDoorV
import Derived.Test.YthagnngckegekaaGreatDoorProg
import Derived.WalkKit
import Derived.ProofKit
import Derived.OpenShut
import Derived.SizedLaws
namespace Go.Proofs.YthagnngckegekaaGreatDoor
open Go.ChangeShapes Go.WideShapes Go.ChangeAt Go.RowKit
set_option linter.unusedVariables false

def any (_ : Nat) : Prop := True

theorem bytes_val : Tryz.prog.bytesOf 26 = 88 := by kernel_rfl
theorem bytes_str : Tryz.prog.bytesOf 9 = 16 := by kernel_rfl
theorem cells_val : Tryz.prog.cellsOf 26 = 6 := by kernel_rfl
theorem cells_str : Tryz.prog.cellsOf 9 = 1 := by kernel_rfl
theorem cells_int : Tryz.prog.cellsOf 3 = 1 := by kernel_rfl
theorem cells_float : Tryz.prog.cellsOf 22 = 1 := by kernel_rfl
theorem cells_vals : Tryz.prog.cellsOf 23 = 1 := by kernel_rfl
theorem cells_strs : Tryz.prog.cellsOf 24 = 1 := by kernel_rfl

theorem data_size (s : ByteArray) : s.data.toList.length = s.size := by rw [Array.length_toList]; rfl
theorem i64_wf {n : Int} (h : (Lit.int .i64 n).wf = true) : I64 n := by
  simpa [I64, Lit.wf, IntKind.min, IntKind.max, IntKind.signed, IntKind.bits] using h

section
variable {H : Type} {enc : TypeId × Value → H} {W : World} {sp : Nat → Bool} {held : Bool}

theorem weights_all {e : TypeId} {d : DataW H} : ∀ {l : List (DataW H)}, d ∈ l → ∀ n ∈ d.weights Tryz.prog e, n ∈ DataW.weightsAll Tryz.prog e l
  | x :: r, h, n, hn => by
    simp only [DataW.weightsAll, List.mem_append]
    rcases List.mem_cons.1 h with rfl | h
    · exact Or.inl hn
    · exact Or.inr (weights_all h n hn)

theorem cells_at {a : Addr} {n : Nat} {cs : List Value} {base : Nat} (h : W.cells? base a n = some cs) : ∀ j u, cs[j]? = some u → W.cell? (a.add j) = some u := fun j u hj => by
  obtain ⟨_, hl, hc⟩ := World.cells?_some h
  rw [hc j (by rw [← hl]; exact (List.getElem?_eq_some_iff.1 hj).1)]
  exact hj

theorem add_add' (a : Addr) (i j : Nat) : (a.add i).add j = a.add (i + j) := by
  unfold Addr.add
  by_cases hi : i = 0 <;> by_cases hj : j = 0 <;> simp [hi, hj, Nat.add_assoc]

theorem open_strs {fuel : Nat} {cs : List Value} {x : DataW H × List MemPlace} (h : DataW.trod enc Tryz.prog W 0 sp held fuel 24 cs = some x) (hw : ∀ n ∈ x.1.weights Tryz.prog 24, n ≤ reachBytes) :
    ∃ A c xs, cs = [.slice A xs.length c] ∧ Strs any W A xs ∧ xs.length ≤ c ∧ c ≤ 9223372036854775807 ∧ xs.length ≤ 140737488351232 := by
  rcases DataW.trod_slice Tryz.underlying24 h with ⟨rfl, rfl⟩ | ⟨a, len, cap, elems, rest, n, _, rfl, rfl, hb, hl, hm, hlen, hel, _, _⟩
  · exact ⟨none, 0, [], rfl, fun h => absurd rfl h, by simp, by simp, by simp⟩
  · have hg : ∀ i, i < len → ∃ s : ByteArray, W.cell? (a.add i) = some (.string s) ∧ s.size ≤ 140737488351232 := fun i hi => by
      have h1 := hel i hi
      rw [cells_str, Nat.mul_one, List.getElem?_eq_getElem (by omega)] at h1
      obtain ⟨cs', h2, h3⟩ := Option.bind_eq_some_iff.1 h1
      obtain ⟨s, rfl, hx, _⟩ := DataW.trod_string Tryz.underlying9 h3
      refine ⟨s, by simpa [Addr.add] using cells_at h2 0 _ rfl, ?_⟩
      have := hw s.data.toList.length (by
        simp only [DataW.weights, Tryz.underlying24, List.mem_cons, List.mem_append]
        refine Or.inr (Or.inl (weights_all (d := .lit (.string s.data.toList)) ?_ _ (by simp [DataW.weights])))
        refine List.mem_map.2 ⟨elems[i]'(by omega), List.getElem_mem _, ?_⟩
        rw [hx])
      rw [data_size] at this
      exact Nat.le_trans this (by decide)
    have hc : ∀ i, ∃ s : ByteArray, i < len → W.cell? (a.add i) = some (.string s) ∧ s.size ≤ 140737488351232 := fun i => by
      by_cases hi : i < len
      · obtain ⟨s, hs⟩ := hg i hi
        exact ⟨s, fun _ => hs⟩
      · exact ⟨⟨#[]⟩, fun h => absurd h hi⟩
    have hs := fun i => Classical.choose_spec (hc i)
    refine ⟨some a, cap, (List.range len).map (fun i => Classical.choose (hc i)), by simp, fun _ => ⟨a, rfl, trivial, fun i s hi => ?_⟩, by simpa using hl, by unfold maxLen at hm; omega, ?_⟩
    · rw [List.getElem?_map] at hi
      obtain ⟨j, hj, rfl⟩ := Option.map_eq_some_iff.1 hi
      obtain ⟨hj1, hj2⟩ := List.getElem?_eq_some_iff.1 hj
      have : i = j := by simpa using hj2
      subst this
      exact hs i (by simpa using hj1)
    · have := hw ((elems.length + rest.length) * 16) (by
        simp only [DataW.weights, Tryz.underlying24, bytes_str, List.length_map, List.mem_cons, true_or])
      unfold reachBytes at this
      simp
      omega

set_option maxRecDepth 100000 in
theorem open_val : ∀ (fuel : Nat) {cs : List Value} {x : DataW H × List MemPlace}, DataW.trod enc Tryz.prog W 0 sp held fuel 26 cs = some x → (∀ n ∈ x.1.weights Tryz.prog 26, n ≤ reachBytes) →
    ∃ v, Rep any W v cs := by
  intro fuel
  induction fuel using Nat.strongRecOn with
  | ind fuel ih =>
  intro cs x h hw
  obtain ⟨xs, n, rfl, rfl, hl, hlen, hf⟩ := DataW.trod_struct Tryz.underlying26 h
  rw [cells_val] at hl
  match cs, hl with
  | [c0, c1, c2, c3, c4, c5], _ =>
  match xs, hlen with
  | [y0, y1, y2, y3, y4, y5], _ =>
  have f0 : DataW.trod enc Tryz.prog W 0 sp held n 3 (([c0, c1, c2, c3, c4, c5].drop 0).take (Tryz.prog.cellsOf 3)) = some y0 := hf 0 _ rfl
  have f1 : DataW.trod enc Tryz.prog W 0 sp held n 3 (([c0, c1, c2, c3, c4, c5].drop 1).take (Tryz.prog.cellsOf 3)) = some y1 := hf 1 _ rfl
  have f2 : DataW.trod enc Tryz.prog W 0 sp held n 22 (([c0, c1, c2, c3, c4, c5].drop 2).take (Tryz.prog.cellsOf 22)) = some y2 := hf 2 _ rfl
  have f3 : DataW.trod enc Tryz.prog W 0 sp held n 9 (([c0, c1, c2, c3, c4, c5].drop 3).take (Tryz.prog.cellsOf 9)) = some y3 := hf 3 _ rfl
  have f4 : DataW.trod enc Tryz.prog W 0 sp held n 23 (([c0, c1, c2, c3, c4, c5].drop 4).take (Tryz.prog.cellsOf 23)) = some y4 := hf 4 _ rfl
  have f5 : DataW.trod enc Tryz.prog W 0 sp held n 24 (([c0, c1, c2, c3, c4, c5].drop 5).take (Tryz.prog.cellsOf 24)) = some y5 := hf 5 _ rfl
  clear hf
  simp only [List.drop_zero, List.drop_succ_cons, cells_int, cells_float, cells_str, cells_vals, cells_strs, List.take_succ_cons, List.take_zero] at f0 f1 f2 f3 f4 f5
  have hw' : ∀ n, n ∈ y3.1.weights Tryz.prog 9 ∨ n ∈ y4.1.weights Tryz.prog 23 ∨ n ∈ y5.1.weights Tryz.prog 24 → n ≤ reachBytes := fun n hn => by
    apply hw n
    simp only [DataW.weights, Tryz.underlying26, List.map_cons, List.map_nil, DataW.weightsEach, List.mem_append]
    rcases hn with hn | hn | hn
    · exact Or.inr (Or.inr (Or.inr (Or.inl hn)))
    · exact Or.inr (Or.inr (Or.inr (Or.inr (Or.inl hn))))
    · exact Or.inr (Or.inr (Or.inr (Or.inr (Or.inr (Or.inl hn)))))
  clear hw
  obtain ⟨k, e0, _, w0⟩ := DataW.trod_int Tryz.underlying3 f0
  obtain ⟨m, e1, _, w1⟩ := DataW.trod_int Tryz.underlying3 f1
  have hfl : ∃ b, c2 = .float .f64 b ∧ b < 18446744073709551616 := by
    cases n with
    | zero => simp [DataW.trod] at f2
    | succ n =>
      unfold DataW.trod at f2
      rw [Tryz.underlying22] at f2
      cases c2 <;> simp at f2
      rename_i b _
      obtain ⟨⟨rfl, h2⟩, _⟩ := f2
      exact ⟨b, rfl, by simpa [Lit.wf] using h2⟩
  obtain ⟨b, rfl, hb⟩ := hfl
  obtain ⟨s, e3, e3', _⟩ := DataW.trod_string Tryz.underlying9 f3
  obtain ⟨B, cb, ks, e5, hB, hcb, hcb', hlb⟩ := open_strs f5 (fun n hn => hw' n (Or.inr (Or.inr hn)))
  simp only [List.cons.injEq, and_true] at e0 e1 e3 e5
  subst e0 e1 e3 e5
  have hs : s.size ≤ 140737488351232 := by
    have := hw' s.data.toList.length (Or.inl (by rw [e3']; simp [DataW.weights]))
    rw [data_size] at this
    exact Nat.le_trans this (by decide)
  have hvals : ∃ A ca l, c4 = .slice A l.length ca ∧ Vals any W A l ∧ l.length ≤ ca ∧ ca ≤ 9223372036854775807 ∧ l.length ≤ 140737488351232 := by
    rcases DataW.trod_slice Tryz.underlying23 f4 with ⟨e4, _⟩ | ⟨a, len, cap, elems, rest, n', rfl, e4, e4', hb, hl, hm, hlen, hel, _, _⟩
    · simp only [List.cons.injEq, and_true] at e4
      exact ⟨none, 0, [], e4, fun h => absurd rfl h, by simp, by simp, by simp⟩
    · simp only [List.cons.injEq, and_true] at e4
      subst e4
      have hg : ∀ i, i < len → ∃ v, ∃ cs, Rep any W v cs ∧ ∀ j u, cs[j]? = some u → W.cell? (a.add (i * 6 + j)) = some u := fun i hi => by
        have h1 := hel i hi
        rw [cells_val, List.getElem?_eq_getElem (by omega)] at h1
        obtain ⟨cs', h2, h3⟩ := Option.bind_eq_some_iff.1 h1
        obtain ⟨v, hv⟩ := ih n' (by omega) h3 (fun n hn => hw' n (Or.inr (Or.inl (by
          rw [e4']
          simp only [DataW.weights, Tryz.underlying23, List.mem_cons, List.mem_append]
          exact Or.inr (Or.inl (weights_all (List.mem_map.2 ⟨elems[i]'(by omega), List.getElem_mem _, rfl⟩) n hn))))))
        exact ⟨v, cs', hv, fun j u hj => by rw [← add_add']; exact cells_at h2 j u hj⟩
      have hc : ∀ i, ∃ v, i < len → ∃ cs, Rep any W v cs ∧ ∀ j u, cs[j]? = some u → W.cell? (a.add (i * 6 + j)) = some u := fun i => by
        by_cases hi : i < len
        · obtain ⟨v, hv⟩ := hg i hi
          exact ⟨v, fun _ => hv⟩
        · exact ⟨⟨0, 0, 0, ⟨#[]⟩, [], []⟩, fun h => absurd h hi⟩
      have hs := fun i => Classical.choose_spec (hc i)
      refine ⟨some a, cap, (List.range len).map (fun i => Classical.choose (hc i)), by simp, fun _ => ⟨a, rfl, trivial, fun i v hi => ?_⟩, by simpa using hl, by unfold maxLen at hm; omega, ?_⟩
      · rw [List.getElem?_map] at hi
        obtain ⟨j, hj, rfl⟩ := Option.map_eq_some_iff.1 hi
        obtain ⟨hj1, hj2⟩ := List.getElem?_eq_some_iff.1 hj
        have : i = j := by simpa using hj2
        subst this
        exact hs i (by simpa using hj1)
      · have := hw' ((elems.length + rest.length) * 88) (Or.inr (Or.inl (by
          rw [e4']
          simp only [DataW.weights, Tryz.underlying23, bytes_val, List.length_map, List.mem_cons, true_or])))
        unfold reachBytes at this
        simp
        omega
  obtain ⟨A, ca, l, rfl, hA, hca, hca', hla⟩ := hvals
  exact ⟨⟨k, m, b, s, l, ks⟩, Rep.intro (v := ⟨k, m, b, s, l, ks⟩) ⟨i64_wf w0, i64_wf w1, hb, hs, hca, hca', hcb, hcb', hla, hlb⟩ hB hA⟩
end

end Go.Proofs.YthagnngckegekaaGreatDoor
