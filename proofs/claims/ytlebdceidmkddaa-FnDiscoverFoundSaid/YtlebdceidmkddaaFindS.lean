/-
  The state of find, and what each of its stores leaves of it. Conditions: none.
-/
import Derived.Test.YtlebdceidmkddaaCb
import Derived.Test.YtlebdceidmkddaaTab
namespace Go.Proofs.Ytlebdceidmkddaa
open Go.ChangeShapes Go.WideShapes Go.ChangeAt Go.RowKit
set_option linter.unusedVariables false

def ofL (l : List UInt8) : ByteArray := ⟨l.toArray⟩
def Found (gl : Nat) (segs : List (List UInt8)) (w : World) (e : Ending) (w' : World) : Prop :=
  ∃ lv, e = .returned (.tuple #[]) ∧ w'.heap[gl]? = some (.cells #[lv] 23 (0, 0)) ∧ w'.ownsRow w.heap.size 9 1 lv segs.length (strVals (segs.map ofL)) ∧ Step gl w w'

/-- The stack as its row has it, the top last. -/
noncomputable def stackVals (st : List M) : List Value := strVals (st.reverse.map tabOf)
/-- The variable i of a world. -/
def iOf (B : Nat) (w : World) : Nat := match w.cell? ⟨B + 1 + 1, 0, none⟩ with | some (.int _ n) => n.toNat | _ => 0
/-- The state of find: its four variables' blocks, the stack's row, the list's row. -/
structure FS (w : World) (gl : Nat) (wr : World) (start i : Int) (mv : Value) (md : M) (st : List M) (lv : Value) (got : List ByteArray) : Prop where
  s : wr.heap[w.heap.size]? = some (.cells #[.int .i64 start] 3 (0, 0))
  m : wr.heap[w.heap.size + 1]? = some (.cells #[mv] 23 (0, 0))
  i : wr.heap[w.heap.size + 1 + 1]? = some (.cells #[.int .i64 i] 3 (0, 0))
  d : wr.heap[w.heap.size + 1 + 1 + 1]? = some (.cells #[.string (tabOf md)] 9 (0, 0))
  l : wr.heap[gl]? = some (.cells #[lv] 23 (0, 0))
  om : wr.ownsRow (w.heap.size + 4) 9 1 mv st.length (stackVals st)
  ol : wr.ownsRow (w.heap.size + 4) 9 1 lv got.length (strVals got)
  sep : mv.ownBlock = none ∨ mv.ownBlock ≠ lv.ownBlock
  old : Step gl w wr
  g : gl < w.heap.size

theorem iOf_eq {w wr : World} {gl : Nat} {start i : Int} {mv lv : Value} {md : M} {st : List M} {got : List ByteArray} (h : FS w gl wr start i mv md st lv got) : iOf w.heap.size wr = i.toNat := by
  have := blk_cell h.i 0
  simp only [List.getElem?_toArray, List.getElem?_cons_zero] at this
  simp [iOf, this]

section
variable {w wr : World} {gl : Nat} {start i : Int} {mv lv : Value} {md : M} {st : List M} {got : List ByteArray}

/-- A store into a block of find's own that is none of its rows. -/
theorem FS.other (h : FS w gl wr start i mv md st lv got) {b : Nat} (hb : w.heap.size ≤ b) (hb4 : b < w.heap.size + 4) (u : Value) :
    (wr.setCell ⟨b, 0, none⟩ u).ownsRow (w.heap.size + 4) 9 1 mv st.length (stackVals st) ∧ (wr.setCell ⟨b, 0, none⟩ u).ownsRow (w.heap.size + 4) 9 1 lv got.length (strVals got) ∧
    Step gl w (wr.setCell ⟨b, 0, none⟩ u) ∧ ∀ k, k ≠ b → (wr.setCell ⟨b, 0, none⟩ u).heap[k]? = wr.heap[k]? := by
  have hk : ∀ k, k ≠ b → (wr.setCell ⟨b, 0, none⟩ u).heap[k]? = wr.heap[k]? := fun k hk => Below.heap_setCell wr ⟨b, 0, none⟩ u k hk
  exact ⟨ownsRow_setCell_below h.om (a := ⟨b, 0, none⟩) hb4 u, ownsRow_setCell_below h.ol (a := ⟨b, 0, none⟩) hb4 u,
    ⟨h.old.os, h.old.tape, h.old.output, Nat.le_trans h.old.size (by simp [World.setCell]), fun k hk1 hk2 => (hk k (by omega)).trans (h.old.block k hk1 hk2)⟩, hk⟩
theorem FS.setI (h : FS w gl wr start i mv md st lv got) (j : Int) : FS w gl (wr.setCell ⟨w.heap.size + 1 + 1, 0, none⟩ (.int .i64 j)) start j mv md st lv got := by
  obtain ⟨h1, h2, h3, h4⟩ := h.other (b := w.heap.size + 1 + 1) (by omega) (by omega) (.int .i64 j)
  have := h.g
  exact ⟨(h4 _ (by omega)).trans h.s, (h4 _ (by omega)).trans h.m, blk_set h.i 0 _, (h4 _ (by omega)).trans h.d, (h4 _ (by omega)).trans h.l, h1, h2, h.sep, h3, h.g⟩
theorem FS.setS (h : FS w gl wr start i mv md st lv got) (j : Int) : FS w gl (wr.setCell ⟨w.heap.size, 0, none⟩ (.int .i64 j)) j i mv md st lv got := by
  obtain ⟨h1, h2, h3, h4⟩ := h.other (b := w.heap.size) (by omega) (by omega) (.int .i64 j)
  have := h.g
  exact ⟨blk_set h.s 0 _, (h4 _ (by omega)).trans h.m, (h4 _ (by omega)).trans h.i, (h4 _ (by omega)).trans h.d, (h4 _ (by omega)).trans h.l, h1, h2, h.sep, h3, h.g⟩
theorem FS.setD (h : FS w gl wr start i mv md st lv got) (md' : M) {t : ByteArray} (ht : t = tabOf md') : FS w gl (wr.setCell ⟨w.heap.size + 1 + 1 + 1, 0, none⟩ (.string t)) start i mv md' st lv got := by
  subst ht
  obtain ⟨h1, h2, h3, h4⟩ := h.other (b := w.heap.size + 1 + 1 + 1) (by omega) (by omega) (.string (tabOf md'))
  have := h.g
  exact ⟨(h4 _ (by omega)).trans h.s, (h4 _ (by omega)).trans h.m, (h4 _ (by omega)).trans h.i, blk_set h.d 0 _, (h4 _ (by omega)).trans h.l, h1, h2, h.sep, h3, h.g⟩

theorem own_slice {w : World} {base n : Nat} {e : TypeId} {size : Nat} {v : Value} {xs : List Value} (h : w.ownsRow base e size v n xs) : ∃ A c, v = .slice A n c := by
  rcases h.2 with ⟨rfl, rfl⟩ | ⟨g, cap, cur, rfl, _⟩
  · exact ⟨_, _, rfl⟩
  · exact ⟨_, _, rfl⟩
theorem own_take {w : World} {base n m c : Nat} {e : TypeId} {g : Nat} {xs : List Value} (h : w.ownsRow base e 1 (.slice (some ⟨g, 0, none⟩) n c) n xs) (hm : m ≤ n) : w.ownsRow base e 1 (.slice (some ⟨g, 0, none⟩) m c) m (xs.take m) := by
  obtain ⟨h1, h2⟩ := h
  refine ⟨by rw [List.length_take, h1]; omega, Or.inr ?_⟩
  rcases h2 with ⟨h2, _⟩ | ⟨g', cap, cur, h2, hb, hh, hn, hc, hs, ht⟩
  · cases h2
  · cases h2
    refine ⟨g, c, cur, rfl, hb, hh, by omega, hc, hs, ?_⟩
    rw [← ht, List.take_take]
    congr 1
    omega

theorem FS.pop {x : M} {g c n : Nat} (h : FS w gl wr start i (.slice (some ⟨g, 0, none⟩) n c) md (x :: st) lv got) :
    FS w gl (wr.setCell ⟨w.heap.size + 1, 0, none⟩ (.slice (some ⟨g, 0, none⟩) st.length c)) start i (.slice (some ⟨g, 0, none⟩) st.length c) md st lv got := by
  obtain ⟨h1, h2, h3, h4⟩ := h.other (b := w.heap.size + 1) (by omega) (by omega) (.slice (some ⟨g, 0, none⟩) st.length c)
  have := h.g
  have hn : n = st.length + 1 := by
    rcases h.om.2 with ⟨e, _⟩ | ⟨g', cap, cur, e, _⟩
    · cases e
    · cases e; rfl
  subst hn
  have ho := own_take (m := st.length) h1 (by simp)
  have e : (stackVals (x :: st)).take st.length = stackVals st := by
    simp [stackVals, strVals]
  rw [e] at ho
  refine ⟨(h4 _ (by omega)).trans h.s, blk_set h.m 0 _, (h4 _ (by omega)).trans h.i, (h4 _ (by omega)).trans h.d, (h4 _ (by omega)).trans h.l, ho, h2, ?_, h3, h.g⟩
  exact h.sep

theorem new_blk (w : World) (o : Obj) : (w.alloc o).heap[w.heap.size]? = some o := by
  show (w.heap.push o)[w.heap.size]? = some o
  simp
theorem new_blk' {w : World} {o : Obj} {k : Nat} (h : k = w.heap.size) : (w.alloc o).heap[k]? = some o := by subst h; exact new_blk w o
theorem FS.first {w : World} {gl : Nat} {t : ByteArray} (hl : w.heap[gl]? = some (.cells #[.slice none 0 0] 23 (0, 0))) (ht : t = tabOf .scan) :
    FS w gl ((((w.alloc (Obj.cells #[Value.int IntKind.i64 0] 3)).alloc (Obj.cells #[Value.slice none 0 0] 23)).alloc (Obj.cells #[Value.int IntKind.i64 0] 3)).alloc (Obj.cells #[Value.string t] 9)) 0 0 (.slice none 0 0) .scan [] (.slice none 0 0) [] := by
  subst ht
  have hlt := blk_lt hl
  have ho : ∀ W : World, W.ownsRow (w.heap.size + 4) 9 1 (.slice none 0 0) 0 [] := fun W => ⟨rfl, Or.inl ⟨rfl, rfl⟩⟩
  refine ⟨?_, ?_, ?_, ?_, ?_, ho _, ho _, Or.inl rfl, ?_, hlt⟩
  · rw [Below.heap_alloc _ _ _ (by simp only [alloc_size]; omega), Below.heap_alloc _ _ _ (by simp only [alloc_size]; omega), Below.heap_alloc _ _ _ (by simp only [alloc_size]; omega)]; exact new_blk' (by simp only [alloc_size])
  · rw [Below.heap_alloc _ _ _ (by simp only [alloc_size]; omega), Below.heap_alloc _ _ _ (by simp only [alloc_size]; omega)]; exact new_blk' (by simp only [alloc_size])
  · rw [Below.heap_alloc _ _ _ (by simp only [alloc_size]; omega)]; exact new_blk' (by simp only [alloc_size])
  · exact new_blk' (by simp only [alloc_size])
  · rw [Below.heap_alloc _ _ _ (by simp only [alloc_size]; omega), Below.heap_alloc _ _ _ (by simp only [alloc_size]; omega), Below.heap_alloc _ _ _ (by simp only [alloc_size]; omega), Below.heap_alloc _ _ _ hlt]; exact hl
  · refine ⟨rfl, rfl, rfl, by simp only [alloc_size]; omega, fun k hk1 hk2 => ?_⟩
    rw [Below.heap_alloc _ _ _ (by simp only [alloc_size]; omega), Below.heap_alloc _ _ _ (by simp only [alloc_size]; omega), Below.heap_alloc _ _ _ (by simp only [alloc_size]; omega), Below.heap_alloc _ _ _ hk1]
theorem row_mono {w : World} {base base' : Nat} {e : TypeId} {size : Nat} {v : Value} {n : Nat} {xs : List Value} (h : w.ownsRow base e size v n xs) (hb : base' ≤ base) : w.ownsRow base' e size v n xs :=
  ⟨h.1, h.2.imp id fun ⟨g, cap, cur, h1, h2, h3⟩ => ⟨g, cap, cur, h1, Nat.le_trans hb h2, h3⟩⟩
theorem row_cap {w : World} {base n c m : Nat} {e : TypeId} {size : Nat} {A : Option Addr} {xs : List Value} (h : w.ownsRow base e size (.slice A m c) n xs) : n ≤ c := by
  rcases h.2 with ⟨h1, rfl⟩ | ⟨g, cap, cur, h1, _, _, h2, _⟩
  · exact Nat.zero_le _
  · cases h1; exact h2
/-- Bytes that are read, as a string. -/
theorem conv_at {W : World} {a : Addr} {n c : Nat} {l : List UInt8} (hn : l.length = n) (h : ∀ j x, l[j]? = some x → W.cell? (a.add j) = some (.int .u8 x.toNat)) :
    (convert 24 9 (.slice (some a) n c)).run Try.prog W = .ok (.string (ofL l)) W := by
  rw [run_convert_bytes_string _ _ _ 5 _ _ _ Try.underlying24 Try.underlying5 Try.underlying9]
  rw [run_bytesToString _ _ _ _ (l.map fun x => (x.toNat : Int))]
  · congr 1
    have key : ∀ (l : List UInt8) (acc : ByteArray), (l.map fun x => (x.toNat : Int)).foldl (fun r n => r.push (UInt8.ofNat n.toNat)) acc = ⟨(acc.data.toList ++ l).toArray⟩ := by
      intro l
      induction l with
      | nil => intro acc; simp
      | cons x r ih =>
        intro acc
        simp only [List.map_cons, List.foldl_cons, ih]
        congr 1
        simp [ByteArray.push]
    rw [key]
    rfl
  · have := run_loadCells_list (P := Try.prog) W a (l.map fun x => Value.int .u8 x.toNat) (fun j v hj => by
      rw [List.getElem?_map] at hj
      obtain ⟨x, hx, rfl⟩ := Option.map_eq_some_iff.1 hj
      exact h j x hx)
    rw [List.length_map, hn] at this
    rw [this]
    simp

theorem FS.lvlt (h : FS w gl wr start i mv md st lv got) : ∀ k, lv.ownBlock = some k → w.heap.size + 4 ≤ k ∧ k < wr.heap.size := h.ol.lt
theorem FS.mvlt (h : FS w gl wr start i mv md st lv got) : ∀ k, mv.ownBlock = some k → w.heap.size + 4 ≤ k ∧ k < wr.heap.size := h.om.lt
theorem FS.size (h : FS w gl wr start i mv md st lv got) : w.heap.size + 4 ≤ wr.heap.size := by have := blk_lt h.d; omega

/-- append(modes, t): a block for t, the row grown, the variable stored. -/
theorem FS.push (h : FS w gl wr start i mv md st lv got) {w1 : World} {v : Value} {o : Obj} (x : M) {t : ByteArray} (ht : t = tabOf x)
    (hown : w1.ownsRow (w.heap.size + 4) 9 1 v (st.length + 1) (stackVals st ++ [.string t])) (hgr : (wr.alloc o).grownBy w1 mv.ownBlock) (hat : v.ownBlock = mv.ownBlock ∨ v.ownBlock = some (wr.heap.size + 1)) (hv : ∃ k, v.ownBlock = some k) :
    FS w gl (w1.setCell ⟨w.heap.size + 1, 0, none⟩ v) start i v md (x :: st) lv got := by
  subst ht
  have hg := h.g
  have hsz := h.size
  have hk : ∀ k, k < wr.heap.size → some k ≠ mv.ownBlock → w1.heap[k]? = wr.heap[k]? := fun k hk1 hk2 => (hgr.block k (by simp; omega) hk2).trans (Below.heap_alloc _ _ _ hk1)
  have hm : ∀ k, k < w.heap.size + 4 → some k ≠ mv.ownBlock := fun k hk1 e => by have := (h.mvlt k e.symm).1; omega
  have hs : ∀ k, k ≠ w.heap.size + 1 → (w1.setCell ⟨w.heap.size + 1, 0, none⟩ v).heap[k]? = w1.heap[k]? := fun k hk => Below.heap_setCell w1 ⟨w.heap.size + 1, 0, none⟩ v k hk
  have hsz1 := hgr.size
  rw [alloc_size] at hsz1
  have hol : w1.ownsRow (w.heap.size + 4) 9 1 lv got.length (strVals got) := by
    refine (h.ol.alloc o).kept hgr ?_
    rcases h.sep with h0 | h0
    · rw [h0]
      cases hlv : lv.ownBlock with
      | none => exact Or.inl rfl
      | some k => exact Or.inr (by simp)
    · exact Or.inr (Ne.symm h0)
  refine ⟨(hs _ (by omega)).trans ((hk _ (by omega) (hm _ (by omega))).trans h.s), blk_set ((hk _ (by omega) (hm _ (by omega))).trans h.m) 0 _, (hs _ (by omega)).trans ((hk _ (by omega) (hm _ (by omega))).trans h.i),
    (hs _ (by omega)).trans ((hk _ (by omega) (hm _ (by omega))).trans h.d), (hs _ (by omega)).trans ((hk _ (by omega) (hm _ (by omega))).trans h.l), ?_, ownsRow_setCell_below hol (a := ⟨w.heap.size + 1, 0, none⟩) (show w.heap.size + 1 < w.heap.size + 4 by omega) v, ?_, ?_, hg⟩
  · have e : stackVals (x :: st) = stackVals st ++ [.string (tabOf x)] := by simp [stackVals, strVals]
    rw [e]
    exact ownsRow_setCell_below hown (a := ⟨w.heap.size + 1, 0, none⟩) (show w.heap.size + 1 < w.heap.size + 4 by omega) v
  · rcases hat with h0 | h0
    · rw [h0]; exact h.sep
    · refine Or.inr (fun e => ?_)
      rw [h0] at e
      have := (h.lvlt _ e.symm).2
      omega
  · have h3 := h.old
    exact ⟨hgr.os.trans h3.os, hgr.tape.trans h3.tape, hgr.output.trans h3.output, by have := h3.size; simp [World.setCell]; omega, fun k hk1 hk2 => (hs k (by omega)).trans ((hk k (by omega) (hm k (by omega))).trans (h3.block k hk1 hk2))⟩

/-- The four variables behind the append. -/
theorem FS.vars (h : FS w gl wr start i mv md st lv got) {w1 : World} {o : Obj} (hgr : (wr.alloc o).grownBy w1 mv.ownBlock) :
    (w1.cell? ⟨w.heap.size, 0, none⟩ = some (.int .i64 start) ∧ w1.cell? ⟨w.heap.size + 1, 0, none⟩ = some mv ∧ w1.cell? ⟨w.heap.size + 1 + 1, 0, none⟩ = some (.int .i64 i) ∧ w1.cell? ⟨w.heap.size + 1 + 1 + 1, 0, none⟩ = some (.string (tabOf md))) ∧
    w1.frozen? ⟨w.heap.size, 0, none⟩ = false ∧ w1.frozen? ⟨w.heap.size + 1, 0, none⟩ = false ∧ w1.frozen? ⟨w.heap.size + 1 + 1, 0, none⟩ = false ∧ w1.frozen? ⟨w.heap.size + 1 + 1 + 1, 0, none⟩ = false := by
  have hsz := h.size
  have hm : ∀ k, k < w.heap.size + 4 → w1.heap[k]? = wr.heap[k]? := fun k hk1 => (hgr.block k (by simp; omega) (fun e => by have := (h.mvlt k e.symm).1; omega)).trans (Below.heap_alloc _ _ _ (by omega))
  have h1 := (hm _ (by omega)).trans h.s
  have h2 := (hm _ (by omega)).trans h.m
  have h3 := (hm _ (by omega)).trans h.i
  have h4 := (hm _ (by omega)).trans h.d
  exact ⟨⟨blk_cell h1 0, blk_cell h2 0, blk_cell h3 0, blk_cell h4 0⟩, blk_frozen h1 0, blk_frozen h2 0, blk_frozen h3 0, blk_frozen h4 0⟩
theorem news_one {W0 : World} {x : Value} {t : TypeId} {g : Nat} (hg : g = W0.heap.size) : ∀ j u, [x][j]? = some u → (W0.alloc (.cells #[x] t)).cell? ((⟨g, 0, none⟩ : Addr).add j) = some u := by
  subst hg; exact Go.cell_one_new _ _ _
theorem one_cell {s : ByteArray} : ∀ u ∈ [Value.string s], u.oneCell' = true := by intro u hu; rw [List.mem_singleton.1 hu]; rfl

/-- Behind the callback. -/
theorem FS.call (h : FS w gl wr start i mv md st lv got) {w1 : World} {v : Value} {s : ByteArray} (h1 : w1.heap[gl]? = some (.cells #[v] 23 (0, 0))) (h2 : w1.ownsRow (w.heap.size + 4) 9 1 v (got.length + 1) (strVals got ++ [.string s]))
    (h3 : v.ownBlock = lv.ownBlock ∨ ∃ k, v.ownBlock = some k ∧ wr.heap.size ≤ k) (h4 : w1.os = wr.os ∧ w1.tape = wr.tape ∧ w1.output = wr.output ∧ wr.heap.size ≤ w1.heap.size) (h5 : ∀ k, k < wr.heap.size → k ≠ gl → some k ≠ lv.ownBlock → w1.heap[k]? = wr.heap[k]?) :
    FS w gl w1 start i mv md st v (got ++ [s]) := by
  have hg := h.g
  have hsz := h.size
  have hm : ∀ k, k < w.heap.size + 4 → some k ≠ lv.ownBlock := fun k hk1 e => by have := (h.lvlt k e.symm).1; omega
  refine ⟨(h5 _ (by omega) (by omega) (hm _ (by omega))).trans h.s, (h5 _ (by omega) (by omega) (hm _ (by omega))).trans h.m, (h5 _ (by omega) (by omega) (hm _ (by omega))).trans h.i, (h5 _ (by omega) (by omega) (hm _ (by omega))).trans h.d, h1, ?_, ?_, ?_, ?_, hg⟩
  · obtain ⟨q1, q2⟩ := h.om
    refine ⟨q1, ?_⟩
    rcases q2 with q2 | ⟨g, cap, cur, rfl, hb, hh, r⟩
    · exact Or.inl q2
    · refine Or.inr ⟨g, cap, cur, rfl, hb, (h5 g (blk_lt hh) (by omega) (fun e => ?_)).trans hh, r⟩
      rcases h.sep with h0 | h0
      · simp [Value.ownBlock] at h0
      · exact h0 e
  · have e : strVals (got ++ [s]) = strVals got ++ [.string s] := by simp [strVals]
    rw [e, List.length_append]
    exact h2
  · rcases h3 with h0 | ⟨k, h0, hk⟩
    · rw [h0]; exact h.sep
    · cases hmv : mv.ownBlock with
      | none => exact Or.inl rfl
      | some q => refine Or.inr (fun e => ?_); rw [h0] at e; injection e with e; have := (h.mvlt q hmv).2; omega
  · have h6 := h.old
    exact ⟨h4.1.trans h6.os, h4.2.1.trans h6.tape, h4.2.2.1.trans h6.output, Nat.le_trans h6.size h4.2.2.2, fun k hk1 hk2 => (h5 k (by omega) hk2 (hm k (by omega))).trans (h6.block k hk1 hk2)⟩
end

section
variable {P : Program} {ops : Array Oper} {rest : List Oper} {o : Oper} {a : Act} {Q : Exit → Act → World → Prop} {w : World}
/-- Two strings compared, the answer known. -/
theorem wpList_eq_str (hw : Region.wanted o (yielded ops a.tmps) = true) (x y : Operand) (t ty : TypeId) (ho : o.op = .binOp .eql t x y ty) (s u : ByteArray) (hx : a.eval x = .string s) (hy : a.eval y = .string u)
    (r : Bool) (hr : (s.data.toList == u.data.toList) = r) (h : wpList P ops Q rest (a.put o.dst (.bool r)) w) : wpList P ops Q (o :: rest) a w := by
  refine wpList_step fun K hK => ?_
  rw [if_pos hw]
  unfold Oper.wp execOp
  simp only [ho, hx, hy, binOp_string_eql, Sem.run_bind, Sem.run_pure]
  rw [ByteArray.toList_eq, ByteArray.toList_eq, hr]
  exact hK _ _ h
end

section
variable {P : Program} {ops : Array Oper} {rest : List Oper} {o : Oper} {a : Act} {Q : Exit → Act → World → Prop} {w : World}
/-- A string indexed, the answer known. -/
theorem wpList_index_str (hw : Region.wanted o (yielded ops a.tmps) = true) (x y : Operand) (t : TypeId) (ho : o.op = .index t x y) (ht : P.underlying t = some .string) (s : ByteArray) (k : IntKind) (n : Nat) (hx : a.eval x = .string s) (hy : a.eval y = .int k n)
    (hn : n < s.size) (r : Int) (hr : ((s[n]'hn).toNat : Int) = r) (h : wpList P ops Q rest (a.put o.dst (.int .u8 r)) w) : wpList P ops Q (o :: rest) a w := by
  refine wpList_step fun K hK => ?_
  rw [if_pos hw]
  have hs : s[n]? = some (s[n]'hn) := by simp [hn]
  have hrun : (Instr.index t (.string s) (.int k n)).run P w = .ok (.int .u8 r) w := by
    subst hr
    simp [Instr.index, asIntOf, run_underlying ht, hs, Sem.run_pure]
  unfold Oper.wp execOp
  simp only [ho, hx, hy, Sem.run_bind, hrun, Result.andThen]
  exact hK _ _ h
end
/-- What run says of the next byte. -/
def Nx (b : UInt8) (md' : M) (st st' : List M) (cur tl : List UInt8) (rest : List (List UInt8)) : Prop :=
  (st' = [] ∧ st = [] ∧ run b md' [] [] tl = some rest) ∨ (st' = [] ∧ st ≠ [] ∧ ∃ rest', run b md' [] [] tl = some rest' ∧ rest = (cur ++ [b]) :: rest') ∨ (st' ≠ [] ∧ run b md' st' (if st = [] then [b] else cur ++ [b]) tl = some rest)
theorem nx_found {b : UInt8} {md' x : M} {st : List M} {cur tl : List UInt8} {rest : List (List UInt8)} (h : Nx b md' (x :: st) [] cur tl rest) : ∃ rest', run b md' [] [] tl = some rest' ∧ rest = (cur ++ [b]) :: rest' := by
  rcases h with ⟨_, h, _⟩ | ⟨_, _, h⟩ | ⟨h, _⟩
  · cases h
  · exact h
  · exact absurd rfl h
/-- What is being read. -/
def CurOk (bs : List UInt8) (i : Nat) (start : Int) (st : List M) (cur : List UInt8) : Prop := st ≠ [] → 0 ≤ start ∧ start ≤ i ∧ cur = (bs.drop start.toNat).take (i - start.toNat)
/-- Where the loop stands. -/
def At1 (w : World) (gl : Nat) (bs : List UInt8) (segs : List (List UInt8)) (i : Nat) (wr : World) : Prop :=
  ∃ (start : Int) (mv lv : Value) (md : M) (st : List M) (cur : List UInt8) (got : List ByteArray) (rest : List (List UInt8)), FS w gl wr start i mv md st lv got ∧ run ((0 :: bs)[i]?.getD 0) md st cur (bs.drop i) = some rest ∧
    strVals (segs.map ofL) = strVals got ++ strVals (rest.map ofL) ∧ CurOk bs i start st cur ∧ got.length ≤ i ∧ st.length ≤ i

theorem drop_cons {bs : List UInt8} {i : Nat} {b : UInt8} (h : bs[i]? = some b) : bs.drop i = b :: bs.drop (i + 1) := by
  obtain ⟨h1, rfl⟩ := List.getElem?_eq_some_iff.1 h
  rw [List.drop_eq_getElem_cons h1]
theorem cur_snoc {bs : List UInt8} {i k : Nat} {b : UInt8} (h : bs[i]? = some b) (hk : k ≤ i) : (bs.drop k).take (i - k) ++ [b] = (bs.drop k).take (i + 1 - k) := by
  rw [show i + 1 - k = (i - k) + 1 by omega, List.take_add_one, List.getElem?_drop, show k + (i - k) = i by omega, h]
  rfl

/-- The next round's head, where nothing was found. -/
theorem at1_next {w W : World} {gl : Nat} {bs : List UInt8} {segs : List (List UInt8)} {i : Nat} {start start' : Int} {mv lv : Value} {md' : M} {st st' : List M} {cur : List UInt8} {got : List ByteArray} {rest : List (List UInt8)} {b : UInt8}
    (hF : FS w gl W start' ((i : Int) + 1) mv md' st' lv got) (hb : bs[i]? = some b)
    (hnx : Nx b md' st st' cur (bs.drop (i + 1)) rest)
    (hseg : strVals (segs.map ofL) = strVals got ++ strVals (rest.map ofL)) (hcur : CurOk bs i start st cur)
    (hne : st' = [] → st = []) (hs1 : st = [] → st' ≠ [] → start' = i) (hs2 : st ≠ [] → start' = start) (hgl : got.length ≤ i) (hsl : st.length ≤ i) (hsl' : st'.length ≤ st.length + 1) : At1 w gl bs segs (i + 1) W := by
  have hp : (0 :: bs)[i + 1]?.getD 0 = b := by simp [hb]
  by_cases h0 : st' = []
  · have h1 := hne h0
    subst h0 h1
    have hr : run b md' [] [] (bs.drop (i + 1)) = some rest := by
      rcases hnx with ⟨_, _, h⟩ | ⟨_, h, _⟩ | ⟨h, _⟩
      · exact h
      · exact absurd rfl h
      · exact absurd rfl h
    exact ⟨start', mv, lv, md', [], [], got, rest, hF, by rw [hp]; exact hr, hseg, fun h => absurd rfl h, by omega, by simp⟩
  · have hr : run b md' st' (if st = [] then [b] else cur ++ [b]) (bs.drop (i + 1)) = some rest := by
      rcases hnx with ⟨h, _⟩ | ⟨h, _⟩ | ⟨_, h⟩
      · exact absurd h h0
      · exact absurd h h0
      · exact h
    refine ⟨start', mv, lv, md', st', _, got, rest, hF, by rw [hp]; exact hr, hseg, fun _ => ?_, by omega, by omega⟩
    by_cases h1 : st = []
    · rw [hs1 h1 h0, if_pos h1]
      refine ⟨by omega, by omega, ?_⟩
      have := cur_snoc hb (Nat.le_refl i)
      rw [Nat.sub_self] at this
      simpa using this
    · obtain ⟨h2, h3, h4⟩ := hcur h1
      rw [hs2 h1, if_neg h1]
      exact ⟨h2, by omega, by rw [h4, cur_snoc hb (by omega)]⟩

/-- The next round's head, where something was found. -/
theorem at1_found {w W : World} {gl : Nat} {bs : List UInt8} {segs : List (List UInt8)} {i : Nat} {start' : Int} {mv lv : Value} {md' : M} {cur : List UInt8} {got : List ByteArray} {rest : List (List UInt8)} {b : UInt8} {s : ByteArray}
    (hF : FS w gl W start' ((i : Int) + 1) mv md' [] lv (got ++ [s])) (hb : bs[i]? = some b)
    (hnx : ∃ rest', run b md' [] [] (bs.drop (i + 1)) = some rest' ∧ rest = (cur ++ [b]) :: rest')
    (hseg : strVals (segs.map ofL) = strVals got ++ strVals (rest.map ofL)) (hs : s = ofL (cur ++ [b])) (hgl : got.length ≤ i) : At1 w gl bs segs (i + 1) W := by
  have hp : (0 :: bs)[i + 1]?.getD 0 = b := by simp [hb]
  obtain ⟨rest', hr, rfl⟩ := hnx
  exact ⟨start', mv, lv, md', [], [], got ++ [s], rest', hF, by rw [hp]; exact hr, by rw [hseg, hs]; simp [strVals], fun h => absurd rfl h, by simp; omega, by simp⟩
end Go.Proofs.Ytlebdceidmkddaa
