/-
  Rows of values in memory, and what is laid behind them. Conditions: none.
-/
import Derived.Test.YtpdcoipfpffhnaaGreatAlt4
namespace Go.Proofs.YtpdcoipfpffhnaaGreat
open Go.ChangeShapes Go.WideShapes Go.ChangeAt Go.RowKit
set_option linter.unusedVariables false
set_option linter.unusedSimpArgs false

/-- Numbers and floats are within their kinds. -/
inductive V.Fin : V → Prop
  | mk (v : V) (hn : I64 v.n) (hf : v.f < 18446744073709551616) (hl : ∀ x ∈ v.l, V.Fin x) : V.Fin v
theorem V.Fin.n {v : V} (h : v.Fin) : I64 v.n := by cases h; assumption
theorem V.Fin.f {v : V} (h : v.Fin) : v.f < 18446744073709551616 := by cases h; assumption
theorem V.Fin.l {v : V} (h : v.Fin) : ∀ x ∈ v.l, x.Fin := by cases h; assumption
theorem fin_of {ok : Nat → Prop} {w : World} : ∀ (v : V) {A : Option Addr} {ca cb : Nat}, Bds v ca cb → Vals ok w A v.l → v.Fin := by
  intro v
  induction v using V.ind with
  | h v ih =>
  intro A ca cb hb hA
  refine .mk v hb.n hb.f (fun x hx => ?_)
  obtain ⟨i, hi⟩ := List.getElem?_of_mem hx
  obtain ⟨ad, Ai, ci, Bi, di, _, _, _, hbx, _, hAx⟩ := hA.at_ hi
  exact ih x hx hbx hAx
theorem V.Fin.tidy {on oe : Bool} : ∀ v : V, v.Fin → (v.tidy on oe).Fin := by
  intro v
  induction v using V.ind with
  | h v ih =>
  intro hf
  rw [tidy_eq]
  refine .mk _ hf.n hf.f (fun x hx => ?_)
  dsimp only at hx
  by_cases h8 : v.kind = 8
  · rw [if_pos h8] at hx
    obtain ⟨j, hj⟩ := List.getElem?_of_mem hx
    obtain ⟨k, hk⟩ : ∃ k, (V.tidyK on oe v.keys v.l)[j]? = some k := get_lt (by rw [tidyK_len]; exact (List.getElem?_eq_some_iff.1 hj).1)
    obtain ⟨i, y, h1, h2, h3, h4⟩ := tidy_zip on oe _ _ j k hk
    obtain rfl := Option.some.inj (hj.symm.trans h4)
    exact ih y (get_mem h2) (hf.l y (get_mem h2))
  · rw [if_neg h8, tidyA_map] at hx
    obtain ⟨y, hy, rfl⟩ := List.mem_map.1 hx
    exact ih y hy (hf.l y hy)

/-- The cells of a row of values. -/
def VOwn (w : World) (ok : Nat → Prop) (B : Nat) (sv : Value) (l : List V) : Prop := ∃ css : List (List Value), css.length = l.length ∧ w.ownsRow B 26 6 sv l.length css.flatten ∧ ∀ (i : Nat) v cs, l[i]? = some v → css[i]? = some cs → Rep ok w v cs

theorem flat_len (css : List (List Value)) (h : ∀ cs ∈ css, cs.length = 6) : css.flatten.length = css.length * 6 := by
  induction css with
  | nil => rfl
  | cons c r ih =>
    rw [List.flatten_cons, List.length_append, h c (List.mem_cons_self ..), ih (fun cs hcs => h cs (List.mem_cons_of_mem _ hcs)), List.length_cons]
    omega
theorem flat_get : ∀ (css : List (List Value)) (i j : Nat) (cs : List Value), (∀ cs ∈ css, cs.length = 6) → css[i]? = some cs → j < 6 → css.flatten[i * 6 + j]? = cs[j]?
  | [], i, j, cs, _, h, _ => by simp at h
  | c :: r, 0, j, cs, hl, h, hj => by
    simp at h
    subst h
    rw [List.flatten_cons, List.getElem?_append_left (by rw [hl c (List.mem_cons_self ..)]; omega)]
    simp
  | c :: r, i + 1, j, cs, hl, h, hj => by
    have hc := hl c (List.mem_cons_self ..)
    rw [List.flatten_cons, List.getElem?_append_right (by rw [hc]; omega), hc, show (i + 1) * 6 + j - 6 = i * 6 + j by omega]
    exact flat_get r i j cs (fun cs hcs => hl cs (List.mem_cons_of_mem _ hcs)) (by simpa using h) hj

section
variable {w w' : World} {ok ok' : Nat → Prop} {B : Nat} {sv : Value} {l : List V}
theorem VOwn.nil (w : World) (ok : Nat → Prop) (B : Nat) : VOwn w ok B (.slice none 0 0) [] := ⟨[], rfl, World.ownsRow_nil _ _ _ _, fun i v cs h => by simp at h⟩
theorem VOwn.form (h : VOwn w ok B sv l) : ∃ A c, sv = .slice A l.length c := by
  obtain ⟨css, _, ho, _⟩ := h
  exact row_slice ho
theorem VOwn.move (h : VOwn w ok B sv l) (hs : ∀ g, sv.ownBlock = some g → w'.heap[g]? = w.heap[g]?) (hm : ∀ k, ok k → w'.heap[k]? = w.heap[k]?) : VOwn w' ok B sv l := by
  obtain ⟨css, h1, h2, h3⟩ := h
  exact ⟨css, h1, row_same h2 hs, fun i v cs hv hc => (h3 i v cs hv hc).move hm⟩
theorem VOwn.mono (h : VOwn w ok B sv l) (hm : ∀ k, ok k → ok' k) : VOwn w ok' B sv l := by
  obtain ⟨css, h1, h2, h3⟩ := h
  exact ⟨css, h1, h2, fun i v cs hv hc => (h3 i v cs hv hc).mono hm⟩
/-- Read as a list of values. -/
theorem VOwn.vals {A : Option Addr} {n c : Nat} (h : VOwn w ok B (.slice A n c) l) (hm : ∀ k, ok k → ok' k) (hB : ∀ k, B ≤ k → ok' k) : Vals ok' w A l := by
  obtain ⟨css, h1, h2, h3⟩ := h
  intro hne
  have hcs6 : ∀ cs ∈ css, cs.length = 6 := fun cs hcs => by
    obtain ⟨i, hi⟩ := List.getElem?_of_mem hcs
    obtain ⟨v, hv⟩ : ∃ v, l[i]? = some v := get_lt (by rw [← h1]; exact (List.getElem?_eq_some_iff.1 hi).1)
    exact (h3 i v cs hv hi).len
  rcases row_form h2 with ⟨_, h0⟩ | ⟨g, c', cur, e, hB', hb, hxs⟩
  · exact absurd (List.eq_nil_of_length_eq_zero h0) hne
  · simp only [Value.slice.injEq] at e
    refine ⟨⟨g, 0, none⟩, e.1, hB g hB', fun i v hv => ?_⟩
    obtain ⟨cs, hcs⟩ : ∃ cs, css[i]? = some cs := get_lt (by rw [h1]; exact (List.getElem?_eq_some_iff.1 hv).1)
    refine ⟨cs, (h3 i v cs hv hcs).mono hm, fun j u hj => ?_⟩
    have hj6 : j < 6 := by have := (List.getElem?_eq_some_iff.1 hj).1; rw [hcs6 cs (List.mem_of_getElem? hcs)] at this; exact this
    have hadd : (⟨g, 0, none⟩ : Addr).add (i * 6 + j) = ⟨g, i * 6 + j, none⟩ := by unfold Addr.add; split <;> simp_all
    rw [hadd]
    refine row_at hb hxs ?_
    rw [flat_get css i j cs hcs6 hcs hj6]
    exact hj
end

theorem info_val : (Tryz.prog.info? 26).map (fun i => (i.zero, i.size, i.bytes)) = some (some (.agg #[.int .i64 0, .int .i64 0, .float .f64 0, .string ⟨#[]⟩, .slice none 0 0, .slice none 0 0]), 6, 88) := by kernel_rfl
theorem valCells_one (v : V) (A : Option Addr) (ca : Nat) (B : Option Addr) (cb : Nat) : ∀ u ∈ valCells v A ca B cb, u.oneCell' = true := by
  intro u hu
  simp only [valCells, List.mem_cons, List.not_mem_nil, or_false] at hu
  rcases hu with rfl | rfl | rfl | rfl | rfl | rfl <;> rfl

/-- A row of values with one that was just built behind it. -/
theorem run_app_val (w : World) (sv : Value) (B : Nat) (l : List V) (v : V) (A B' : Option Addr) (ca cb : Nat) (ty : TypeId) {ok ok2 : Nat → Prop} (ho : VOwn w ok B sv l) (hok : ∀ k, ok k → k < w.heap.size ∧ some k ≠ sv.ownBlock) (hok2 : ∀ k, ok2 k → k < w.heap.size ∧ some k ≠ sv.ownBlock) (hb : Bds v ca cb) (hB : Strs ok2 w B' v.keys) (hA : Vals ok2 w A v.l) (hl : l.length ≤ 1000000) (hBs : B ≤ w.heap.size) :
    ∃ A' c' w', (Builtin.append_ #[23, 23] ty #[sv, .slice (some ⟨w.heap.size, 0, none⟩) 1 1]).run Tryz.prog (w.alloc (valObj v A ca B' cb)) = .ok (.slice A' (l.length + 1) c') w' ∧ VOwn w' (fun k => ok k ∨ ok2 k) B (.slice A' (l.length + 1) c') (l ++ [v]) ∧ (w.alloc (valObj v A ca B' cb)).grownBy w' sv.ownBlock ∧ ((Value.slice A' (l.length + 1) c').ownBlock = sv.ownBlock ∨ (Value.slice A' (l.length + 1) c').ownBlock = some (w.heap.size + 1)) := by
  obtain ⟨i0, hi, hz0, hz1, hz2⟩ := info_parts info_val
  obtain ⟨css, h1, h2, h3⟩ := ho
  have hnew : ∀ j u, (valCells v A ca B' cb)[j]? = some u → (w.alloc (valObj v A ca B' cb)).cell? ((⟨w.heap.size, 0, none⟩ : Addr).add j) = some u := by
    intro j u hu
    have hadd : (⟨w.heap.size, 0, none⟩ : Addr).add j = ⟨w.heap.size, j, none⟩ := by unfold Addr.add; split <;> simp_all
    rw [hadd]
    have := cells_new w #[.int .i64 v.kind, .int .i64 v.n, .float .f64 v.f, .string v.s, .slice A v.l.length ca, .slice B' v.keys.length cb] 26 j
    refine this.trans ?_
    simpa [valCells] using hu
  obtain ⟨v', w', hr, h4, h5, _, h6⟩ := run_append_own_at (P := Tryz.prog) (w.alloc (valObj v A ca B' cb)) B 23 ty 26 i0 (.agg #[.int .i64 0, .int .i64 0, .float .f64 0, .string ⟨#[]⟩, .slice none 0 0, .slice none 0 0]) 6 88 Tryz.underlying23 hi hz0 hz1 hz2 rfl (by decide) sv l.length css.flatten (h2.alloc _) ⟨w.heap.size, 0, none⟩ 1 1 (valCells v A ca B' cb) rfl hnew (valCells_one v A ca B' cb) (by unfold maxLen; omega) (by omega) (by rw [alloc_size]; omega)
  obtain ⟨A', c', hv⟩ := row_slice h4
  subst hv
  have hblk : ∀ k, k < w.heap.size → some k ≠ sv.ownBlock → w'.heap[k]? = w.heap[k]? := fun k k1 k2 => (h5.block k (by rw [alloc_size]; omega) k2).trans (Below.heap_alloc _ _ _ k1)
  refine ⟨A', c', w', hr, ⟨css ++ [valCells v A ca B' cb], by simp [h1], ?_, fun i x cs hx hcs => ?_⟩, h5, by rw [alloc_size] at h6; exact h6⟩
  · rw [List.length_append, List.flatten_append, List.flatten_cons, List.flatten_nil, List.append_nil]
    exact h4
  · by_cases hil : i < l.length
    · rw [List.getElem?_append_left hil] at hx
      rw [List.getElem?_append_left (by omega)] at hcs
      exact ((h3 i x cs hx hcs).move (fun k hk => hblk k (hok k hk).1 (hok k hk).2)).mono (fun k hk => Or.inl hk)
    · have hi2 : i = l.length := by have := (List.getElem?_eq_some_iff.1 hx).1; simp at this; omega
      subst hi2
      rw [List.getElem?_append_right (Nat.le_refl _)] at hx
      rw [← h1, List.getElem?_append_right (Nat.le_refl _)] at hcs
      simp at hx hcs
      subst hx hcs
      have hmv : ∀ k, ok2 k → w'.heap[k]? = w.heap[k]? := fun k hk => hblk k (hok2 k hk).1 (hok2 k hk).2
      exact (Rep.intro hb (hB.move hmv) (hA.move hmv)).mono (fun k hk => Or.inr hk)
end Go.Proofs.YtpdcoipfpffhnaaGreat
