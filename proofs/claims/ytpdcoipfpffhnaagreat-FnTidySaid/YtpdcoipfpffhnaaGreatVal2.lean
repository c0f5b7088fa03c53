/-
  A value that is being built: its box, its rows. Conditions: none.
-/
import Derived.Test.YtpdcoipfpffhnaaGreatVal1
namespace Go.Proofs.YtpdcoipfpffhnaaGreat
open Go.ChangeShapes Go.WideShapes Go.ChangeAt Go.RowKit
set_option linter.unusedVariables false
set_option linter.unusedSimpArgs false

theorem info_strK5 : (Tryz.prog.info? 9).map (fun i => (i.zero, i.size, i.bytes)) = some (some (.string ⟨#[]⟩), 1, 16) := by kernel_rfl
/-- The result's block, the box, and the rows of values and of keys. -/
structure BSt (n0 : Nat) (wS : World) (hd : V) (w : World) (s4 s5 sv kv : Value) (l2 : List V) (ks : List ByteArray) (ok : Nat → Prop) : Prop where
  blk : w.heap[n0 + 1]? = some (.cells #[.int .i64 hd.kind, .int .i64 hd.n, .float .f64 hd.f, .string hd.s, s4, s5] 26 (0, 0))
  zero : Zero6 w n0
  vown : VOwn w ok (n0 + 2) sv l2
  kown : Own w (n0 + 2) kv ks
  okb : ∀ k, ok k → n0 + 2 ≤ k ∧ k < w.heap.size ∧ some k ≠ sv.ownBlock ∧ some k ≠ kv.ownBlock
  apart : ∀ g, sv.ownBlock = some g → kv.ownBlock ≠ some g
  bel : Below n0 wS w

section
variable {n0 : Nat} {wS : World} {hd : V} {w w2 : World} {s4 s5 sv kv : Value} {l2 : List V} {ks : List ByteArray} {ok : Nat → Prop}
theorem BSt.lt (h : BSt n0 wS hd w s4 s5 sv kv l2 ks ok) : n0 + 2 ≤ w.heap.size := (Array.getElem?_eq_some_iff.1 h.blk).1
theorem VOwn.lt {B : Nat} (h : VOwn w ok B sv l2) : ∀ g, sv.ownBlock = some g → B ≤ g ∧ g < w.heap.size := by
  obtain ⟨css, _, h2, _⟩ := h
  exact h2.lt
/-- While other blocks are made. -/
theorem BSt.same (h : BSt n0 wS hd w s4 s5 sv kv l2 ks ok) (hw : ∀ k, n0 ≤ k → k < w.heap.size → w2.heap[k]? = w.heap[k]?) (hs : w.heap.size ≤ w2.heap.size) (hb : Below n0 wS w2) : BSt n0 wS hd w2 s4 s5 sv kv l2 ks ok := by
  have hlt := h.lt
  refine ⟨(hw _ (by omega) (by omega)).trans h.blk, ?_, h.vown.move (fun g hg => hw g (by have := (h.vown.lt g hg).1; omega) (h.vown.lt g hg).2) (fun k hk => hw k (by have := (h.okb k hk).1; omega) (h.okb k hk).2.1), row_same h.kown (fun g hg => hw g (by have := (h.kown.lt g hg).1; omega) (h.kown.lt g hg).2), fun k hk => by obtain ⟨a, b, c, d⟩ := h.okb k hk; exact ⟨a, by omega, c, d⟩, h.apart, hb⟩
  have hz := h.zero
  have hc : ∀ j, w2.cell? ⟨n0, j, none⟩ = w.cell? ⟨n0, j, none⟩ := fun j => World.cell?_of_block (a := ⟨n0, j, none⟩) (hw _ (Nat.le_refl _) (by show n0 < _; omega))
  have hf : ∀ j, w2.frozen? ⟨n0, j, none⟩ = w.frozen? ⟨n0, j, none⟩ := fun j => World.frozen?_of_block (a := ⟨n0, j, none⟩) (hw _ (Nat.le_refl _) (by show n0 < _; omega))
  exact ⟨(hc 0).trans hz.c0, (hc 1).trans hz.c1, (hc 2).trans hz.c2, (hc 3).trans hz.c3, (hc 4).trans hz.c4, (hc 5).trans hz.c5, (hf 0).trans hz.f0, (hf 1).trans hz.f1, (hf 2).trans hz.f2, (hf 3).trans hz.f3, (hf 4).trans hz.f4, (hf 5).trans hz.f5⟩
theorem BSt.below (h : BSt n0 wS hd w s4 s5 sv kv l2 ks ok) (hb : Below w.heap.size w w2) : BSt n0 wS hd w2 s4 s5 sv kv l2 ks ok :=
  h.same (fun k _ hk => hb.block k hk) hb.size (h.bel.trans (hb.mono (by have := h.lt; omega)))
theorem BSt.drew (h : BSt n0 wS hd w s4 s5 sv kv l2 ks ok) : BSt n0 wS hd w.drew s4 s5 sv kv l2 ks ok := h.below (below_drew (Below.refl _ _))
theorem BSt.alloc (h : BSt n0 wS hd w s4 s5 sv kv l2 ks ok) (o : Obj) : BSt n0 wS hd (w.alloc o) s4 s5 sv kv l2 ks ok := h.below (below_alloc _ _)
theorem BSt.c4 (h : BSt n0 wS hd w s4 s5 sv kv l2 ks ok) : w.cell? ⟨n0 + 1, 4, none⟩ = some s4 ∧ w.frozen? ⟨n0 + 1, 4, none⟩ = false := by
  constructor <;> simp [World.cell?, World.frozen?, h.blk]
theorem BSt.c5 (h : BSt n0 wS hd w s4 s5 sv kv l2 ks ok) : w.cell? ⟨n0 + 1, 5, none⟩ = some s5 ∧ w.frozen? ⟨n0 + 1, 5, none⟩ = false := by
  constructor <;> simp [World.cell?, World.frozen?, h.blk]
/-- Stores into the box. -/
theorem BSt.set4 (h : BSt n0 wS hd w s4 s5 sv kv l2 ks ok) (v : Value) : BSt n0 wS hd (w.setCell ⟨n0 + 1, 4, none⟩ v) v s5 sv kv l2 ks ok := by
  have hlt := h.lt
  have hfar : ∀ k, k ≠ n0 + 1 → (w.setCell ⟨n0 + 1, 4, none⟩ v).heap[k]? = w.heap[k]? := fun k hk => set_far _ _ _ hk
  have h1 : (w.setCell ⟨n0 + 1, 4, none⟩ v).heap.size = w.heap.size := set_size _ _ _
  refine ⟨?_, ?_, h.vown.move (fun g hg => hfar g (by have := (h.vown.lt g hg).1; omega)) (fun k hk => hfar k (by have := (h.okb k hk).1; omega)), row_same h.kown (fun g hg => hfar g (by have := (h.kown.lt g hg).1; omega)), fun k hk => by rw [h1]; exact h.okb k hk, h.apart, h.bel.setCell (by show n0 ≤ n0 + 1; omega) v⟩
  · rw [blk_set h.blk]; rfl
  · have hz := h.zero
    have hc : ∀ j, (w.setCell ⟨n0 + 1, 4, none⟩ v).cell? ⟨n0, j, none⟩ = w.cell? ⟨n0, j, none⟩ := fun j => World.cell?_of_block (a := ⟨n0, j, none⟩) (hfar _ (by show n0 ≠ _; omega))
    have hf : ∀ j, (w.setCell ⟨n0 + 1, 4, none⟩ v).frozen? ⟨n0, j, none⟩ = w.frozen? ⟨n0, j, none⟩ := fun j => World.frozen?_of_block (a := ⟨n0, j, none⟩) (hfar _ (by show n0 ≠ _; omega))
    exact ⟨(hc 0).trans hz.c0, (hc 1).trans hz.c1, (hc 2).trans hz.c2, (hc 3).trans hz.c3, (hc 4).trans hz.c4, (hc 5).trans hz.c5, (hf 0).trans hz.f0, (hf 1).trans hz.f1, (hf 2).trans hz.f2, (hf 3).trans hz.f3, (hf 4).trans hz.f4, (hf 5).trans hz.f5⟩
theorem BSt.set5 (h : BSt n0 wS hd w s4 s5 sv kv l2 ks ok) (v : Value) : BSt n0 wS hd (w.setCell ⟨n0 + 1, 5, none⟩ v) s4 v sv kv l2 ks ok := by
  have hlt := h.lt
  have hfar : ∀ k, k ≠ n0 + 1 → (w.setCell ⟨n0 + 1, 5, none⟩ v).heap[k]? = w.heap[k]? := fun k hk => set_far _ _ _ hk
  have h1 : (w.setCell ⟨n0 + 1, 5, none⟩ v).heap.size = w.heap.size := set_size _ _ _
  refine ⟨?_, ?_, h.vown.move (fun g hg => hfar g (by have := (h.vown.lt g hg).1; omega)) (fun k hk => hfar k (by have := (h.okb k hk).1; omega)), row_same h.kown (fun g hg => hfar g (by have := (h.kown.lt g hg).1; omega)), fun k hk => by rw [h1]; exact h.okb k hk, h.apart, h.bel.setCell (by show n0 ≤ n0 + 1; omega) v⟩
  · rw [blk_set h.blk]; rfl
  · have hz := h.zero
    have hc : ∀ j, (w.setCell ⟨n0 + 1, 5, none⟩ v).cell? ⟨n0, j, none⟩ = w.cell? ⟨n0, j, none⟩ := fun j => World.cell?_of_block (a := ⟨n0, j, none⟩) (hfar _ (by show n0 ≠ _; omega))
    have hf : ∀ j, (w.setCell ⟨n0 + 1, 5, none⟩ v).frozen? ⟨n0, j, none⟩ = w.frozen? ⟨n0, j, none⟩ := fun j => World.frozen?_of_block (a := ⟨n0, j, none⟩) (hfar _ (by show n0 ≠ _; omega))
    exact ⟨(hc 0).trans hz.c0, (hc 1).trans hz.c1, (hc 2).trans hz.c2, (hc 3).trans hz.c3, (hc 4).trans hz.c4, (hc 5).trans hz.c5, (hf 0).trans hz.f0, (hf 1).trans hz.f1, (hf 2).trans hz.f2, (hf 3).trans hz.f3, (hf 4).trans hz.f4, (hf 5).trans hz.f5⟩

/-- A value more in the row of values. -/
theorem BSt.stepL (h : BSt n0 wS hd w s4 s5 sv kv l2 ks ok) (hb : Below w.heap.size w w2) {v : V} {A B' : Option Addr} {ca cb : Nat} (hbd : Bds v ca cb) (hB : Strs (fun k => w.heap.size ≤ k) w2 B' v.keys) (hA : Vals (fun k => w.heap.size ≤ k) w2 A v.l) (hl : l2.length ≤ 1000000) (ty : TypeId) :
    ∃ A' c' w3, (Builtin.append_ #[23, 23] ty #[sv, .slice (some ⟨w2.heap.size, 0, none⟩) 1 1]).run Tryz.prog (w2.alloc (valObj v A ca B' cb)) = .ok (.slice A' (l2.length + 1) c') w3 ∧ ∃ ok', BSt n0 wS hd w3 s4 s5 (.slice A' (l2.length + 1) c') kv (l2 ++ [v]) ks ok' := by
  have h2 := h.below hb
  have hlt := h.lt
  have hwl : w.heap.size ≤ w2.heap.size := hb.size
  have hsvlt : ∀ g, sv.ownBlock = some g → g < w.heap.size := fun g hg => (h.vown.lt g hg).2
  have hkvlt : ∀ g, kv.ownBlock = some g → g < w.heap.size := fun g hg => (h.kown.lt g hg).2
  have hok2 : ∀ k, w.heap.size ≤ k ∧ k < w2.heap.size → k < w2.heap.size ∧ some k ≠ sv.ownBlock := fun k hk => ⟨hk.2, fun e => by have := hsvlt k e.symm; omega⟩
  obtain ⟨A', c', w3, hrun, hvo, hgr, hown⟩ := run_app_val w2 sv (n0 + 2) l2 v A B' ca cb ty h2.vown (fun k hk => ⟨(h2.okb k hk).2.1, (h2.okb k hk).2.2.1⟩) hok2 hbd hB.lt hA.lt hl (by omega)
  refine ⟨A', c', w3, hrun, fun k => ok k ∨ (w.heap.size ≤ k ∧ k < w2.heap.size), ?_⟩
  have hsz : w2.heap.size + 1 ≤ w3.heap.size := by have := hgr.size; rwa [alloc_size] at this
  have hblk : ∀ k, k < w2.heap.size → some k ≠ sv.ownBlock → w3.heap[k]? = w2.heap[k]? := fun k k1 k2 => (hgr.block k (by rw [alloc_size]; omega) k2).trans (Below.heap_alloc _ _ _ k1)
  have hne : ∀ k, k < n0 + 2 → some k ≠ sv.ownBlock := fun k hk e => by have := (h.vown.lt k e.symm).1; omega
  refine ⟨(hblk _ (by omega) (hne _ (by omega))).trans h2.blk, ?_, hvo, row_same h2.kown (fun g hg => hblk g (by have := hkvlt g hg; omega) (fun e => h.apart g e.symm hg)), fun k hk => ?_, fun g hg => ?_, ?_⟩
  · have hz := h2.zero
    have hc : ∀ j, w3.cell? ⟨n0, j, none⟩ = w2.cell? ⟨n0, j, none⟩ := fun j => World.cell?_of_block (a := ⟨n0, j, none⟩) (hblk _ (by show n0 < _; omega) (hne _ (by show n0 < _; omega)))
    have hf : ∀ j, w3.frozen? ⟨n0, j, none⟩ = w2.frozen? ⟨n0, j, none⟩ := fun j => World.frozen?_of_block (a := ⟨n0, j, none⟩) (hblk _ (by show n0 < _; omega) (hne _ (by show n0 < _; omega)))
    exact ⟨(hc 0).trans hz.c0, (hc 1).trans hz.c1, (hc 2).trans hz.c2, (hc 3).trans hz.c3, (hc 4).trans hz.c4, (hc 5).trans hz.c5, (hf 0).trans hz.f0, (hf 1).trans hz.f1, (hf 2).trans hz.f2, (hf 3).trans hz.f3, (hf 4).trans hz.f4, (hf 5).trans hz.f5⟩
  · have hk' : n0 + 2 ≤ k ∧ k < w2.heap.size ∧ some k ≠ sv.ownBlock ∧ some k ≠ kv.ownBlock := by
      rcases hk with hk | hk
      · obtain ⟨a, b, c, d⟩ := h.okb k hk
        exact ⟨a, by omega, c, d⟩
      · exact ⟨by omega, hk.2, (hok2 k hk).2, fun e => by have := hkvlt k e.symm; omega⟩
    refine ⟨hk'.1, by omega, ?_, hk'.2.2.2⟩
    rcases hown with e | e
    · rw [e]; exact hk'.2.2.1
    · rw [e]; simp only [ne_eq, Option.some.injEq]; omega
  · rcases hown with e | e
    · rw [e] at hg; exact h.apart g hg
    · rw [e] at hg
      simp only [Option.some.injEq] at hg
      intro hk
      have := hkvlt g hk
      omega
  · exact (h2.bel.alloc (by omega) _).grown hgr (by rw [alloc_size]; omega) (fun g hg => by have := (h.vown.lt g hg).1; omega)

/-- A key more in the row of keys. -/
theorem BSt.stepK (h : BSt n0 wS hd w s4 s5 sv kv l2 ks ok) (key : ByteArray) (hl : ks.length ≤ 1000000) (ty : TypeId) :
    ∃ A' c' w3, (Builtin.append_ #[24, 24] ty #[kv, .slice (some ⟨w.heap.size, 0, none⟩) 1 1]).run Tryz.prog (w.alloc (.cells #[.string key] 9)) = .ok (.slice A' (ks.length + 1) c') w3 ∧ BSt n0 wS hd w3 s4 s5 sv (.slice A' (ks.length + 1) c') l2 (ks ++ [key]) ok ∧ (∀ k, k < w.heap.size → k < n0 + 2 → w3.heap[k]? = w.heap[k]?) := by
  obtain ⟨i0, hi, hz0, hz1, hz2⟩ := info_parts info_strK5
  have hlt := h.lt
  obtain ⟨v', w3, hr, h4, hgr, _, hown⟩ := run_append_own_at (P := Tryz.prog) (w.alloc (.cells #[.string key] 9)) (n0 + 2) 24 ty 9 i0 (.string ⟨#[]⟩) 1 16 Tryz.underlying24 hi hz0 hz1 hz2 rfl (by decide) kv ks.length (strVs ks) (h.kown.alloc _) ⟨w.heap.size, 0, none⟩ 1 1 [.string key] rfl (fun j u hu => by
      have hj : j = 0 := by have := (List.getElem?_eq_some_iff.1 hu).1; simp at this; omega
      subst hj
      have h1 := cells_new w #[.string key] 9 0
      have h2 : Value.string key = u := by simpa using hu
      rw [← h2]
      exact h1) (fun u hu => by rw [List.mem_singleton.1 hu]; rfl) (by unfold maxLen; omega) (by omega) (by rw [alloc_size]; omega)
  obtain ⟨A', c', hv⟩ := row_slice h4
  subst hv
  have hown' : (Value.slice A' (ks.length + 1) c').ownBlock = kv.ownBlock ∨ (Value.slice A' (ks.length + 1) c').ownBlock = some (w.heap.size + 1) := by rw [alloc_size] at hown; exact hown
  have hsz : w.heap.size + 1 ≤ w3.heap.size := by have := hgr.size; rwa [alloc_size] at this
  have hsvlt : ∀ g, sv.ownBlock = some g → g < w.heap.size := fun g hg => (h.vown.lt g hg).2
  have hblk : ∀ k, k < w.heap.size → some k ≠ kv.ownBlock → w3.heap[k]? = w.heap[k]? := fun k k1 k2 => (hgr.block k (by rw [alloc_size]; omega) k2).trans (Below.heap_alloc _ _ _ k1)
  have hne : ∀ k, k < n0 + 2 → some k ≠ kv.ownBlock := fun k hk e => by have := (h.kown.lt k e.symm).1; omega
  refine ⟨A', c', w3, hr, ⟨(hblk _ (by omega) (hne _ (by omega))).trans h.blk, ?_, h.vown.move (fun g hg => hblk g (hsvlt g hg) (fun e => h.apart g hg e.symm)) (fun k hk => hblk k (h.okb k hk).2.1 (h.okb k hk).2.2.2), ?_, fun k hk => ?_, fun g hg => ?_, ?_⟩, fun k k1 k2 => hblk k k1 (hne k k2)⟩
  · have hz := h.zero
    have hc : ∀ j, w3.cell? ⟨n0, j, none⟩ = w.cell? ⟨n0, j, none⟩ := fun j => World.cell?_of_block (a := ⟨n0, j, none⟩) (hblk _ (by show n0 < _; omega) (hne _ (by show n0 < _; omega)))
    have hf : ∀ j, w3.frozen? ⟨n0, j, none⟩ = w.frozen? ⟨n0, j, none⟩ := fun j => World.frozen?_of_block (a := ⟨n0, j, none⟩) (hblk _ (by show n0 < _; omega) (hne _ (by show n0 < _; omega)))
    exact ⟨(hc 0).trans hz.c0, (hc 1).trans hz.c1, (hc 2).trans hz.c2, (hc 3).trans hz.c3, (hc 4).trans hz.c4, (hc 5).trans hz.c5, (hf 0).trans hz.f0, (hf 1).trans hz.f1, (hf 2).trans hz.f2, (hf 3).trans hz.f3, (hf 4).trans hz.f4, (hf 5).trans hz.f5⟩
  · have e1 : strVs (ks ++ [key]) = strVs ks ++ [.string key] := by simp [strVs]
    unfold Own
    rw [List.length_append, e1]
    exact h4
  · obtain ⟨a, b, c, d⟩ := h.okb k hk
    refine ⟨a, by omega, c, ?_⟩
    rcases hown' with e | e
    · rw [e]; exact d
    · rw [e]; simp only [ne_eq, Option.some.injEq]; omega
  · rcases hown' with e | e
    · rw [e]; exact h.apart g hg
    · rw [e]
      have := hsvlt g hg
      simp only [ne_eq, Option.some.injEq]
      omega
  · exact (h.bel.alloc (by omega) _).grown hgr (by rw [alloc_size]; omega) (fun g hg => by have := (h.kown.lt g hg).1; omega)
end
end Go.Proofs.YtpdcoipfpffhnaaGreat
