/-
  impl.items: an array's elements as values. Conditions: none.
-/
import Derived.Test.YtpdcoipfpffhnaaGreatVal2
namespace Go.Proofs.YtpdcoipfpffhnaaGreat
open Go.ChangeShapes Go.WideShapes Go.ChangeAt Go.RowKit
set_option linter.unusedVariables false
set_option linter.unusedSimpArgs false
attribute [local go_sem] store_float'

def EqLs (l2 tl : List V) : Prop := l2.length = tl.length ∧ ∀ (i : Nat) x y, l2[i]? = some x → tl[i]? = some y → EqV x y
theorem EqLs.snoc {l1 l : List V} {x y : V} (h : EqLs l1 l) (hx : EqV x y) : EqLs (l1 ++ [x]) (l ++ [y]) := by
  refine ⟨by simp [h.1], fun i a b ha hb => ?_⟩
  by_cases hi : i < l1.length
  · rw [List.getElem?_append_left hi] at ha
    rw [List.getElem?_append_left (by rw [← h.1]; exact hi)] at hb
    exact h.2 i a b ha hb
  · have h2 : i = l1.length := by have := (List.getElem?_eq_some_iff.1 ha).1; simp at this; omega
    subst h2
    rw [List.getElem?_append_right (Nat.le_refl _)] at ha
    rw [h.1, List.getElem?_append_right (Nat.le_refl _)] at hb
    simp at ha hb
    subst ha hb
    exact hx
def ItSt (w0 : World) (tl : List V) (w : World) (A : Option Addr) (c j : Nat) : Prop := ∃ l2 ok, BSt w0.heap.size w0 (V.lf 7 0 0 ⟨#[]⟩) w (.slice A j c) (.slice none 0 0) (.slice A j c) (.slice none 0 0) l2 [] ok ∧ EqLs l2 (tl.take j) ∧ l2.length = j
/-- One element more. -/
theorem ItSt.step {w0 w w2 : World} {tl : List V} {A : Option Addr} {c j : Nat} {tx v2 : V} {A2 B2 : Option Addr} {c2 d2 : Nat} (h : ItSt w0 tl w A c j) (hlen : tl.length ≤ 1000000) (htx : tl[j]? = some tx) (hb : Below w.heap.size w w2) (hbd : Bds v2 c2 d2) (hB : Strs (fun k => w.heap.size ≤ k) w2 B2 v2.keys) (hA : Vals (fun k => w.heap.size ≤ k) w2 A2 v2.l) (heq : EqV v2 tx) (ty : TypeId) :
    w2.cell? ⟨w0.heap.size + 1, 4, none⟩ = some (.slice A j c) ∧ (w2.alloc (valObj v2 A2 c2 B2 d2)).cell? ⟨w0.heap.size + 1, 4, none⟩ = some (.slice A j c) ∧ ∃ A3 c3 w3, (Builtin.append_ #[23, 23] ty #[.slice A j c, .slice (some ⟨w2.heap.size, 0, none⟩) 1 1]).run Tryz.prog (w2.alloc (valObj v2 A2 c2 B2 d2)) = .ok (.slice A3 (j + 1) c3) w3 ∧ w3.cell? ⟨w0.heap.size + 1, 4, none⟩ = some (.slice A j c) ∧ w3.frozen? ⟨w0.heap.size + 1, 4, none⟩ = false ∧ Hid (ItSt w0 tl (w3.setCell ⟨w0.heap.size + 1, 4, none⟩ (.slice A3 (j + 1) c3)) A3 c3 (j + 1)) := by
  obtain ⟨l2, ok, hst, he, hl⟩ := h
  have hjl := (List.getElem?_eq_some_iff.1 htx).1
  obtain ⟨A3, c3, w3, hrun, ok', hst3⟩ := hst.stepL hb hbd hB hA (by omega) ty
  rw [hl] at hrun hst3
  have hst2 := hst.below hb
  refine ⟨hst2.c4.1, (hst2.alloc _).c4.1, A3, c3, w3, hrun, hst3.c4.1, hst3.c4.2, ⟨l2 ++ [v2], ok', hst3.set4 _, ?_, by simp [hl]⟩⟩
  rw [take_get htx]
  exact he.snoc heq

def ItemsPost (tl : List V) (w : World) (e : Ending) (w' : World) : Prop := ∃ l2 A c, e = .returned (.agg #[.int .i64 7, .int .i64 0, .float .f64 0, .string ⟨#[]⟩, .slice A l2.length c, .slice none 0 0]) ∧ EqLs l2 tl ∧ l2.length ≤ c ∧ c ≤ 9223372036854775807 ∧ Vals (fun k => w.heap.size ≤ k) w' A l2 ∧ Below w.heap.size w w'

set_option maxRecDepth 100000 in
set_option maxHeartbeats 4000000 in
theorem items_any (tl : List V) (xs : List Value) (g0 c n : Nat) (w : World) (hn : n = tl.length) (hxl : xs.length = tl.length) (hlm : tl.length ≤ 1000000) (hcell : ∀ (i : Nat) y, xs[i]? = some y → w.cell? ⟨g0, i, none⟩ = some y) (hg0 : g0 < w.heap.size)
    (hcall : ∀ (i : Nat) tx y, tl[i]? = some tx → xs[i]? = some y → ∀ wr, Below w.heap.size w wr → Calls Tryz.prog 19 #[y] wr (ValPost tx wr)) :
    Calls Tryz.prog 33 #[.slice (some ⟨g0, 0, none⟩) n c] w (ItemsPost tl w) := by
  have hnH := Lib.hid hn
  have hxlH := Lib.hid hxl
  have hcellH := Lib.hid hcell
  have H := Lib.hid hcall
  have hnm : n ≤ 1000000 := by omega
  have hlmH := Lib.hid hlm
  clear hn hxl hcell hcall hlm
  go_enter Tryz.func33, Tryz.ntmps33
  go_wp2_with fail
  have hstart : Hid (ItSt w tl ((w.alloc (.cells #[.int .i64 0, .int .i64 0, .float .f64 0, .string ⟨#[]⟩, .slice none 0 0, .slice none 0 0] 26)).alloc (.cells #[.int .i64 7, .int .i64 0, .float .f64 0, .string ⟨#[]⟩, .slice none 0 0, .slice none 0 0] 26)) none 0 0) := by
    refine ⟨[], fun _ => False, ⟨?_, ?_, VOwn.nil _ _ _, World.ownsRow_nil _ _ _ _, fun k hk => hk.elim, fun g hg => by simp [Value.ownBlock] at hg, below_two _ _ _⟩, ⟨by simp, fun i x y hx => by simp at hx⟩, rfl⟩
    · have h := heap_alloc_new (w.alloc (.cells #[.int .i64 0, .int .i64 0, .float .f64 0, .string ⟨#[]⟩, .slice none 0 0, .slice none 0 0] 26)) (.cells #[.int .i64 7, .int .i64 0, .float .f64 0, .string ⟨#[]⟩, .slice none 0 0, .slice none 0 0] 26)
      rw [alloc_size] at h
      exact h
    · exact (zero_new w _).bel (below_alloc _ _) (by rw [alloc_size]; omega)
  go_loopw [9] (fun i wr => ∃ (j : Nat) (A : Option Addr) (cA : Nat), j ≤ n ∧ i = .int .i64 j ∧ Hid (ItSt w tl wr A cA j)) (fun i _ => n - (intOf i).toNat)
  case atStart => exact ⟨0, none, 0, by omega, rfl, hstart⟩
  case round =>
    clear hstart
    obtain ⟨j, A, cA, hj, rfl, hst⟩ := hrel
    by_cases hlt : j < n
    · obtain ⟨tx, htx⟩ : ∃ tx, tl[j]? = some tx := get_lt (by rw [← hnH.out]; exact hlt)
      obtain ⟨y, hy⟩ : ∃ y, xs[j]? = some y := get_lt (by rw [hxlH.out, ← hnH.out]; exact hlt)
      obtain ⟨b4, hbel⟩ : wr.cell? ⟨w.heap.size + 1, 4, none⟩ = some (.slice A j cA) ∧ Below w.heap.size w wr := by
        obtain ⟨l2, ok, h1, _⟩ := hst.out
        exact ⟨h1.c4.1, h1.bel⟩
      have q1 : wr.cell? ⟨g0, j, none⟩ = some y := (hbel.cell (p := ⟨g0, j, none⟩) hg0).trans (hcellH.out j y hy)
      have hca := Lib.hid (H.out j tx y htx hy wr.drew (below_drew hbel))
      have htx' := Lib.hid htx
      have j0 : (0 : Int) ≤ (j : Int) := by omega
      have j1 : (j : Int) < (n : Int) := by omega
      clear htx hy
      go_wp2_with fail
      go_region_law ((first
        | (refine step_append_is rfl (.tmp 14) (.tmp 17) 23 rfl (.slice A j cA) (.slice (some ⟨w2.heap.size, 0, none⟩) 1 1) (by simp [Act.eval, Act.put]) (by simp [Act.eval, Act.put]) (.slice A3 (j + 1) c3) w3 hrun.out ?_)
        | (go_simp; go_at_call 19; refine hca.out.mono ?_; rintro e w2 ⟨v2, A2, c2, B2, d2, rfl, hbd, hB2, hA2, hb2, heq⟩; obtain ⟨k1, k2, A3, c3, w3, hrun0, k3, k4, hnew⟩ := hst.out.step hlmH.out htx'.out (below_undrew hb2) hbd hB2 hA2 heq 23; have hrun := Lib.hid hrun0; clear hrun0; simp only [valObj] at k2)))
      all_goals
        clear hca hst b4 hbel q1 k1 k2 hb2 hbd hB2 hA2 heq hrun k3 k4
        go_wp2_with fail
        go_roundw
        case rel => exact ⟨j + 1, A3, c3, by omega, by go_num, hnew⟩
        case measure => simp [intOf]; omega
    · obtain rfl : j = n := by omega
      have hfin : ∃ l2, l2.length = j ∧ EqLs l2 tl ∧ j ≤ cA ∧ cA ≤ 9223372036854775807 ∧ wr.heap[w.heap.size + 1]? = some (.cells #[.int .i64 7, .int .i64 0, .float .f64 0, .string ⟨#[]⟩, .slice A j cA, .slice none 0 0] 26 (0, 0)) ∧ Zero6 wr w.heap.size ∧ Vals (fun k => w.heap.size + 2 ≤ k) wr A l2 ∧ Below w.heap.size w wr := by
        obtain ⟨l2, ok, h1, h2, h3⟩ := hst.out
        rw [List.take_of_length_le (by rw [← hnH.out]; exact Nat.le_refl _)] at h2
        have hc : j ≤ cA ∧ cA ≤ 9223372036854775807 := by
          obtain ⟨css, _, ho, _⟩ := h1.vown
          rcases ho.2 with ⟨e, e0⟩ | ⟨g, cap, cur, e, _, _, a1, a2, _⟩
          · simp only [Value.slice.injEq] at e; omega
          · simp only [Value.slice.injEq] at e; unfold maxLen at a2; omega
        exact ⟨l2, h3, h2, hc.1, hc.2, h1.blk, h1.zero, h1.vown.vals (fun k hk => (h1.okb k hk).1) (fun k hk => hk), h1.bel⟩
      obtain ⟨l2, hl2, heq, hc1, hc2, hblk, hz, hvals, hbel⟩ := hfin
      obtain ⟨z0, z1, z2, z3, z4, z5, f0, f1, f2, f3, f4, f5⟩ := hz
      have hc : ∀ (k : Nat) u, (#[.int .i64 7, .int .i64 0, .float .f64 0, .string ⟨#[]⟩, .slice A j cA, .slice none 0 0] : Array Value)[k]? = some u → wr.cell? ⟨w.heap.size + 1, k, none⟩ = some u := fun k u hu => by simp only [World.cell?, hblk]; exact hu
      have d0 := hc 0 _ rfl
      have d1 := hc 1 _ rfl
      have d2 := hc 2 _ rfl
      have d3 := hc 3 _ rfl
      have d4 := hc 4 _ rfl
      have d5 := hc 5 _ rfl
      have hsz : w.heap.size + 2 ≤ wr.heap.size := (Array.getElem?_eq_some_iff.1 hblk).1
      have heqH := Lib.hid heq
      have hl2H := Lib.hid hl2
      have hvH := Lib.hid hvals
      clear hc hblk hst heq hl2 hvals
      go_wp2_with fail
      have hbf := ((((((hbel.setCell (p := ⟨w.heap.size, 0, none⟩) (by simp) (.int .i64 7)).setCell (p := ⟨w.heap.size, 1, none⟩) (by simp) (.int .i64 0)).setCell (p := ⟨w.heap.size, 2, none⟩) (by simp) (.float .f64 0)).setCell (p := ⟨w.heap.size, 3, none⟩) (by simp) (.string ⟨#[]⟩)).setCell (p := ⟨w.heap.size, 4, none⟩) (by simp) (.slice A j cA)).setCell (p := ⟨w.heap.size, 5, none⟩) (by simp) (.slice none 0 0))
      have hfar : ∀ k, w.heap.size + 2 ≤ k → ((((((wr.setCell ⟨w.heap.size, 0, none⟩ (.int .i64 7)).setCell ⟨w.heap.size, 1, none⟩ (.int .i64 0)).setCell ⟨w.heap.size, 2, none⟩ (.float .f64 0)).setCell ⟨w.heap.size, 3, none⟩ (.string ⟨#[]⟩)).setCell ⟨w.heap.size, 4, none⟩ (.slice A j cA)).setCell ⟨w.heap.size, 5, none⟩ (.slice none 0 0)).heap[k]? = wr.heap[k]? := fun k hk => by
        have hk' : k ≠ w.heap.size := by omega
        rw [set_far _ _ _ hk', set_far _ _ _ hk', set_far _ _ _ hk', set_far _ _ _ hk', set_far _ _ _ hk', set_far _ _ _ hk']
      exact bodyPost_ret (v := .agg #[.int .i64 7, .int .i64 0, .float .f64 0, .string ⟨#[]⟩, .slice A j cA, .slice none 0 0]) (by simp [results, Tryz.results33, go_sem, z0, z1, z2, z3, z4, z5]) rfl
        ⟨l2, A, cA, by rw [hl2H.out], heqH.out, by rw [hl2H.out]; exact hc1, hc2, (hvH.out.move hfar).mono (fun k hk => by omega), hbf⟩
end Go.Proofs.YtpdcoipfpffhnaaGreat
