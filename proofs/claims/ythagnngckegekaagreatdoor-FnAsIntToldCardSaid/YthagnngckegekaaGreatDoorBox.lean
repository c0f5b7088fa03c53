/-
  A boxed impl.Value parameter, while blocks are made behind it. Conditions: none.
-/
import Derived.Test.YthagnngckegekaaGreatDoorOpen
import Derived.Deep.Draws
import Derived.Deep.QuietTactic
import Derived.BigQuiet
import Derived.Deep.RegionHeld3
import Derived.Deep.DrawnRows
namespace Go.Proofs.YthagnngckegekaaGreatDoor
open Go.ChangeShapes Go.WideShapes Go.ChangeAt Go.RowKit
set_option linter.unusedVariables false

theorem ret_bool {a b : Bool} (h : a = b) : Ending.returned (.bool a) = .returned (.bool b) := by rw [h]
theorem ret_int {k : IntKind} {a b : Int} (h : a = b) : Ending.returned (.int k a) = .returned (.int k b) := by rw [h]
theorem ret_string {a b : ByteArray} (h : a = b) : Ending.returned (.string a) = .returned (.string b) := by rw [h]

/-- A bool is handed back, of which P holds; below the heap's size nothing has turned. -/
def SomeBool (P : Bool → Prop) (w : World) (e : Ending) (w' : World) : Prop := ∃ r : Bool, e = .returned (.bool r) ∧ P r ∧ Below w.heap.size w w'
/-- An int is handed back. -/
def SomeInt (P : Int → Prop) (w : World) (e : Ending) (w' : World) : Prop := ∃ r : Int, e = .returned (.int .i64 r) ∧ P r ∧ Below w.heap.size w w'
/-- A string is handed back. -/
def SomeStr (P : ByteArray → Prop) (w : World) (e : Ending) (w' : World) : Prop := ∃ r : ByteArray, e = .returned (.string r) ∧ P r ∧ Below w.heap.size w w'

def valObj (v : V) (A : Option Addr) (ca : Nat) (B : Option Addr) (cb : Nat) : Obj :=
  .cells #[.int .i64 v.kind, .int .i64 v.n, .float .f64 v.f, .string v.s, .slice A v.l.length ca, .slice B v.keys.length cb] 26
def valAgg (v : V) (A : Option Addr) (ca : Nat) (B : Option Addr) (cb : Nat) : Value :=
  .agg #[.int .i64 v.kind, .int .i64 v.n, .float .f64 v.f, .string v.s, .slice A v.l.length ca, .slice B v.keys.length cb]

/-- The six cells of a boxed parameter. -/
structure Box (w : World) (b : Nat) (v : V) (A : Option Addr) (ca : Nat) (B : Option Addr) (cb : Nat) : Prop where
  c0 : w.cell? ⟨b, 0, none⟩ = some (.int .i64 v.kind)
  c1 : w.cell? ⟨b, 1, none⟩ = some (.int .i64 v.n)
  c2 : w.cell? ⟨b, 2, none⟩ = some (.float .f64 v.f)
  c3 : w.cell? ⟨b, 3, none⟩ = some (.string v.s)
  c4 : w.cell? ⟨b, 4, none⟩ = some (.slice A v.l.length ca)
  c5 : w.cell? ⟨b, 5, none⟩ = some (.slice B v.keys.length cb)

theorem cells_new (w : World) (cs : Array Value) (t : TypeId) (j : Nat) : (w.alloc (.cells cs t)).cell? ⟨w.heap.size, j, none⟩ = cs[j]? := by
  unfold World.cell? World.alloc
  simp

theorem boxed {w wr : World} {v : V} {A : Option Addr} {ca : Nat} {B : Option Addr} {cb : Nat} (h : Below (w.heap.size + 1) (w.alloc (valObj v A ca B cb)) wr) : Box wr w.heap.size v A ca B cb ∧ Below w.heap.size w wr := by
  have hc : ∀ j, wr.cell? ⟨w.heap.size, j, none⟩ = _ := fun j => (h.cell (p := ⟨w.heap.size, j, none⟩) (by simp)).trans (cells_new w _ _ j)
  exact ⟨⟨hc 0, hc 1, hc 2, hc 3, hc 4, hc 5⟩, ((Below.refl _ _).alloc (Nat.le_refl _) _).trans (h.mono (by omega))⟩

theorem alloc_size (w : World) (o : Obj) : (w.alloc o).heap.size = w.heap.size + 1 := by simp

/-- Behind a call: a further step of the same kind. -/
theorem below_call {B : Nat} {w w1 w2 : World} (h : Below B w w1) (hB : B ≤ w1.heap.size) (k : Below w1.heap.size w1 w2) : Below B w w2 := h.trans (k.mono hB)
theorem below_boxed_size {w wr : World} {o : Obj} (h : Below (w.heap.size + 1) (w.alloc o) wr) : w.heap.size + 1 ≤ wr.heap.size := by
  have := h.size
  rwa [alloc_size] at this

theorem below_drewN {B : Nat} {w W : World} (h : Below B w W) (n : Nat) : Below B w (W.drewN n) := ⟨h.os, h.tape, h.output, h.size, h.block⟩
theorem below_drew {B : Nat} {w W : World} (h : Below B w W) : Below B w W.drew := ⟨h.os, h.tape, h.output, h.size, h.block⟩
theorem get_lt {α : Type} {l : List α} {k : Nat} (h : k < l.length) : ∃ x, l[k]? = some x := ⟨_, List.getElem?_eq_getElem h⟩
theorem get_mem {α : Type} {l : List α} {k : Nat} {x : α} (h : l[k]? = some x) : x ∈ l := List.mem_of_getElem? h
theorem take_get {α : Type} {l : List α} {k : Nat} {x : α} (h : l[k]? = some x) : l.take (k + 1) = l.take k ++ [x] := by rw [List.take_add_one, h]; rfl
theorem take_all {α : Type} {l : List α} {k : Nat} (h : ¬ k < l.length) : l.take k = l := List.take_of_length_le (by omega)
end Go.Proofs.YthagnngckegekaaGreatDoor
