/-
  A decimal in memory: its digits, their number, the point's place, the sign and the mark of what was cut off. Conditions: none.
-/
import Derived.Test.YthagnngckegekaaGreatDoorDl
import Derived.WalkSpells
import Derived.OwnWalk
import Derived.Lib.SmallJoins
namespace Go.Proofs.YthagnngckegekaaGreatDoor
open Go.ChangeShapes Go.WideShapes Go.ChangeAt Go.RowKit Go.Joins
set_option linter.unusedVariables false
set_option linter.unusedSimpArgs false

def decL (cur : List Nat) (nd : Nat) (dp : Int) (neg tr : Bool) : List Value := (cur.map fun b : Nat => Value.int .u8 (b : Int)) ++ [.int .i64 nd, .int .i64 dp, .bool neg, .bool tr]

/-- The decimal of block g. -/
structure DM (w : World) (g : Nat) (cur : List Nat) (nd : Nat) (dp : Int) (neg tr : Bool) : Prop where
  blk : w.heap[g]? = some (.cells (decL cur nd dp neg tr).toArray 130 (0, 0))
  len : cur.length = 800
  byt : ∀ b ∈ cur, b < 256

/-- But for block g nothing has turned. -/
structure Only (g : Nat) (w w' : World) : Prop where
  os : w'.os = w.os
  tape : w'.tape = w.tape
  output : w'.output = w.output
  size : w.heap.size ≤ w'.heap.size
  block : ∀ k, k ≠ g → k < w.heap.size → w'.heap[k]? = w.heap[k]?

theorem Only.refl (g : Nat) (w : World) : Only g w w := ⟨rfl, rfl, rfl, Nat.le_refl _, fun _ _ _ => rfl⟩
theorem Only.trans {g : Nat} {a b c : World} (h : Only g a b) (k : Only g b c) : Only g a c :=
  ⟨k.os.trans h.os, k.tape.trans h.tape, k.output.trans h.output, Nat.le_trans h.size k.size, fun i hi hl => (k.block i hi (Nat.lt_of_lt_of_le hl h.size)).trans (h.block i hi hl)⟩
theorem Only.drew {g : Nat} {a b : World} (h : Only g a b) : Only g a b.drew := ⟨h.os, h.tape, h.output, h.size, h.block⟩
theorem Only.drewN {g : Nat} {a b : World} (h : Only g a b) (n : Nat) : Only g a (b.drewN n) := ⟨h.os, h.tape, h.output, h.size, h.block⟩
theorem Only.from_drew {g : Nat} {a b : World} (h : Only g a.drew b) : Only g a b := ⟨h.os, h.tape, h.output, h.size, h.block⟩
theorem Only.below {g B : Nat} {a b : World} (h : Only g a b) (hB : B ≤ g) (hs : B ≤ a.heap.size) : Below B a b := ⟨h.os, h.tape, h.output, h.size, fun k hk => h.block k (by omega) (by omega)⟩
theorem Only.of_below {g : Nat} {a b : World} (h : Below a.heap.size a b) : Only g a b := ⟨h.os, h.tape, h.output, h.size, fun k _ hl => h.block k hl⟩
theorem Only.cell {g : Nat} {a b : World} (h : Only g a b) {p : Addr} {v : Value} (hp : p.block ≠ g) (hc : a.cell? p = some v) : b.cell? p = some v := by
  rw [World.cell?_of_block (w := a) (h.block p.block hp (World.block_lt_of_cell? _ _ hc))]
  exact hc
theorem only_set (w : World) (g i : Nat) (v : Value) : Only g w (w.setCell ⟨g, i, none⟩ v) :=
  ⟨rfl, rfl, rfl, by simp [World.setCell], fun k hk _ => Below.heap_setCell _ _ _ _ hk⟩

section
variable {w : World} {g : Nat} {cur : List Nat} {nd : Nat} {dp : Int} {neg tr : Bool}

theorem DM.lt (h : DM w g cur nd dp neg tr) : g < w.heap.size := by
  have := h.blk
  apply Decidable.byContradiction
  intro hn
  rw [Array.getElem?_eq_none (by omega)] at this
  cases this
theorem DM.drew (h : DM w g cur nd dp neg tr) : DM w.drew g cur nd dp neg tr := ⟨h.blk, h.len, h.byt⟩
theorem DM.drewN (h : DM w g cur nd dp neg tr) (n : Nat) : DM (w.drewN n) g cur nd dp neg tr := ⟨h.blk, h.len, h.byt⟩
theorem DM.bel {w' : World} {B : Nat} (h : DM w g cur nd dp neg tr) (hb : Below B w w') (hg : g < B) : DM w' g cur nd dp neg tr := ⟨(hb.block g hg).trans h.blk, h.len, h.byt⟩
theorem DM.cell (h : DM w g cur nd dp neg tr) (i : Nat) : w.cell? ⟨g, i, none⟩ = (decL cur nd dp neg tr)[i]? := by
  rw [cell_of_block h.blk]
  simp
theorem DM.frozen (h : DM w g cur nd dp neg tr) (i : Nat) : w.frozen? ⟨g, i, none⟩ = false := unfrozen_of_block h.blk i
theorem DM.digit (h : DM w g cur nd dp neg tr) {i b : Nat} (hi : cur[i]? = some b) : w.cell? ⟨g, i, none⟩ = some (.int .u8 (b : Int)) := by
  have hl : i < cur.length := (List.getElem?_eq_some_iff.1 hi).1
  rw [h.cell, decL, List.getElem?_append_left (by simpa using hl), List.getElem?_map, hi]
  rfl
theorem DM.tail (h : DM w g cur nd dp neg tr) (j : Nat) : w.cell? ⟨g, 800 + j, none⟩ = ([Value.int .i64 nd, .int .i64 dp, .bool neg, .bool tr] : List Value)[j]? := by
  rw [h.cell, decL, List.getElem?_append_right (by simp [h.len])]
  simp [h.len]
theorem DM.c_nd (h : DM w g cur nd dp neg tr) : w.cell? ⟨g, 800, none⟩ = some (.int .i64 (nd : Int)) := h.tail 0
theorem DM.c_dp (h : DM w g cur nd dp neg tr) : w.cell? ⟨g, 801, none⟩ = some (.int .i64 dp) := h.tail 1
theorem DM.c_neg (h : DM w g cur nd dp neg tr) : w.cell? ⟨g, 802, none⟩ = some (.bool neg) := h.tail 2
theorem DM.c_tr (h : DM w g cur nd dp neg tr) : w.cell? ⟨g, 803, none⟩ = some (.bool tr) := h.tail 3

theorem blk_set {L : List Value} {t : TypeId} (h : w.heap[g]? = some (.cells L.toArray t (0, 0))) (i : Nat) (v : Value) : (w.setCell ⟨g, i, none⟩ v).heap[g]? = some (.cells (L.set i v).toArray t (0, 0)) := by
  rw [block_setCell h]
  simp

theorem DM.setD (h : DM w g cur nd dp neg tr) {i b : Nat} (hi : i < 800) (hb : b < 256) : DM (w.setCell ⟨g, i, none⟩ (.int .u8 (b : Int))) g (cur.set i b) nd dp neg tr := by
  refine ⟨?_, by simp [h.len], ?_⟩
  · rw [blk_set h.blk]
    unfold decL
    rw [List.set_append_left _ _ (by simp [h.len]; exact hi), List.map_set]
  · intro x hx
    rcases List.mem_or_eq_of_mem_set hx with hx | rfl
    · exact h.byt x hx
    · exact hb
theorem dm_tail (h : DM w g cur nd dp neg tr) (j : Nat) (v : Value) : (w.setCell ⟨g, 800 + j, none⟩ v).heap[g]? = some (.cells ((cur.map fun b : Nat => Value.int .u8 (b : Int)) ++ ([Value.int .i64 nd, .int .i64 dp, .bool neg, .bool tr].set j v)).toArray 130 (0, 0)) := by
  rw [blk_set h.blk, decL, List.set_append_right _ _ (by simp [h.len])]
  simp [h.len]
theorem DM.setN (h : DM w g cur nd dp neg tr) (n : Nat) : DM (w.setCell ⟨g, 800, none⟩ (.int .i64 (n : Int))) g cur n dp neg tr := ⟨dm_tail h 0 _, h.len, h.byt⟩
theorem DM.setP (h : DM w g cur nd dp neg tr) (n : Int) : DM (w.setCell ⟨g, 801, none⟩ (.int .i64 n)) g cur nd n neg tr := ⟨dm_tail h 1 _, h.len, h.byt⟩
theorem DM.setG (h : DM w g cur nd dp neg tr) (b : Bool) : DM (w.setCell ⟨g, 802, none⟩ (.bool b)) g cur nd dp b tr := ⟨dm_tail h 2 _, h.len, h.byt⟩
theorem DM.setT (h : DM w g cur nd dp neg tr) (b : Bool) : DM (w.setCell ⟨g, 803, none⟩ (.bool b)) g cur nd dp neg b := ⟨dm_tail h 3 _, h.len, h.byt⟩
theorem DM.get (h : DM w g cur nd dp neg tr) {i : Nat} (hi : i < 800) : ∃ b, cur[i]? = some b ∧ b < 256 := by
  have hl : i < cur.length := by rw [h.len]; exact hi
  exact ⟨cur[i], List.getElem?_eq_getElem hl, h.byt _ (List.getElem_mem hl)⟩
end

/-- From a to b there are digits. -/
def Dgs (cur : List Nat) (a b : Nat) : Prop := ∀ i, a ≤ i → i < b → ∃ d, d ≤ 9 ∧ cur[i]? = some (48 + d)
/-- Digits at its head, none of them more than 800, the first one not 0. -/
structure Good (cur : List Nat) (nd : Nat) : Prop where
  pos : 1 ≤ nd
  le : nd ≤ 800
  dgs : Dgs cur 0 nd
  head : cur[0]? ≠ some 48
theorem Dgs.set {cur : List Nat} {a b i d : Nat} (h : Dgs cur a b) (hd : d ≤ 9) (hl : i < cur.length) : Dgs (cur.set i (48 + d)) a b := by
  intro j h1 h2
  rw [List.getElem?_set]
  by_cases e : i = j
  · subst e; exact ⟨d, hd, by simp [hl]⟩
  · obtain ⟨x, hx, he⟩ := h j h1 h2
    exact ⟨x, hx, by simp [e, he]⟩
theorem Dgs.more {cur : List Nat} {b i d : Nat} (h : Dgs cur (i + 1) b) (hd : d ≤ 9) (hl : i < cur.length) : Dgs (cur.set i (48 + d)) i b := by
  intro j h1 h2
  rw [List.getElem?_set]
  by_cases e : i = j
  · subst e; exact ⟨d, hd, by simp [hl]⟩
  · obtain ⟨x, hx, he⟩ := h j (by omega) h2
    exact ⟨x, hx, by simp [e, he]⟩
theorem Dgs.snoc {cur : List Nat} {a i d : Nat} (h : Dgs cur a i) (hd : d ≤ 9) (hl : i < cur.length) : Dgs (cur.set i (48 + d)) a (i + 1) := by
  intro j h1 h2
  rw [List.getElem?_set]
  by_cases e : i = j
  · subst e; exact ⟨d, hd, by simp [hl]⟩
  · obtain ⟨x, hx, he⟩ := h j h1 (by omega)
    exact ⟨x, hx, by simp [e, he]⟩
theorem Dgs.sub {cur : List Nat} {a b a' b' : Nat} (h : Dgs cur a b) (h1 : a ≤ a') (h2 : b' ≤ b) : Dgs cur a' b' := fun i x y => h i (by omega) (by omega)

theorem wr64 {z : Int} (h1 : -9223372036854775808 ≤ z) (h2 : z < 9223372036854775808) : IntKind.i64.wrap z = z := by
  rw [IntKind.wrap_i64]
  omega

/-- The number of digits, as a measure. -/
def ndOf (g : Nat) (w : World) : Nat := match w.cell? ⟨g, 800, none⟩ with
  | some (.int _ n) => n.toNat
  | _ => 0
theorem DM.ndOf {w : World} {g : Nat} {cur : List Nat} {nd : Nat} {dp : Int} {neg tr : Bool} (h : DM w g cur nd dp neg tr) : ndOf g w = nd := by
  unfold Go.Proofs.YthagnngckegekaaGreatDoor.ndOf
  rw [h.c_nd]
  simp
end Go.Proofs.YthagnngckegekaaGreatDoor
