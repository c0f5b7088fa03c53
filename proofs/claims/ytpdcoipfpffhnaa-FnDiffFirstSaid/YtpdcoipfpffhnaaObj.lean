/-
  object: an object of one key. Conditions: none.
-/
import Derived.Test.YtpdcoipfpffhnaaMember
import Derived.Test.YtpdcoipfpffhnaaPlain
import Derived.Outline
namespace Go.Proofs.Ytpdcoipfpffhnaa
open Go.ChangeShapes Go.WideShapes Go.ChangeAt Go.RowKit
set_option linter.unusedVariables false
attribute [local go_sem] store_float'

def V.obj1 (k : ByteArray) (v : V) : V := ⟨8, 0, 0, ⟨#[]⟩, [v], [k]⟩

theorem add_zero (a : Addr) : a.add 0 = a := rfl
theorem strs_one {W : World} {g : Nat} {t : TypeId} {k : ByteArray} (h : W.heap[g]? = some (.cells #[.string k] t (0, 0))) (hk : k.size ≤ 1000000) : Strs any W (some ⟨g, 0, none⟩) [k] := fun _ => by
  refine ⟨_, rfl, trivial, fun i s hi => ?_⟩
  have h0 : i = 0 := by have := (List.getElem?_eq_some_iff.1 hi).1; simp at this; omega
  subst h0
  obtain rfl : k = s := by simpa using hi
  exact ⟨by rw [add_zero]; simp [World.cell?, h], by omega⟩
theorem vals_one {W : World} {g : Nat} {v : V} {A B : Option Addr} {ca cb : Nat} (h : W.heap[g]? = some (valObj v A ca B cb)) (hb : Bds v ca cb) (hB : Strs any W B v.keys) (hA : Vals any W A v.l) : Vals any W (some ⟨g, 0, none⟩) [v] := fun _ => by
  refine ⟨_, rfl, trivial, fun i x hi => ?_⟩
  have h0 : i = 0 := by have := (List.getElem?_eq_some_iff.1 hi).1; simp at this; omega
  subst h0
  obtain rfl : v = x := by simpa using hi
  refine ⟨_, Rep.intro hb hB hA, fun j u hj => ?_⟩
  have hj6 : j < 6 := by have := (List.getElem?_eq_some_iff.1 hj).1; simpa using this
  have hadd : (⟨g, 0, none⟩ : Addr).add (0 * 6 + j) = ⟨g, j, none⟩ := by unfold Addr.add; split <;> simp_all
  rw [hadd]
  simp only [World.cell?, h, valObj]
  simpa using hj
theorem obj1_bds (k : ByteArray) (v : V) : Bds (V.obj1 k v) 1 1 :=
  ⟨by unfold I64; constructor <;> (show _ ≤ (_ : Int); simp [V.obj1]), by unfold I64; constructor <;> (show _ ≤ (_ : Int); simp [V.obj1]), by show (0 : Nat) < _; omega, by show (0 : Nat) ≤ _; omega, by simp [V.obj1], by simp, by simp [V.obj1], by simp, by simp [V.obj1], by simp [V.obj1]⟩

set_option maxHeartbeats 1000000 in
theorem object_any (k : ByteArray) (v : V) (A B : Option Addr) (ca cb : Nat) (w : World) (hb : Bds v ca cb) (hB : Strs any w B v.keys) (hA : Vals any w A v.l) (hk : k.size ≤ 1000000) :
    Calls Try.prog 14 #[.string k, .agg #[.int .i64 v.kind, .int .i64 v.n, .float .f64 v.f, .string v.s, .slice A v.l.length ca, .slice B v.keys.length cb]] w (RetV (V.obj1 k v) any w) := by
  go_enter Try.func14, Try.ntmps14
  go_wp2_with fail
  have hbel : Below w.heap.size w ((((w.alloc (valObj v A ca B cb)).alloc (.cells #[.int .i64 8, .int .i64 0, .float .f64 0, .string ⟨#[]⟩, .slice (some ⟨w.heap.size + 1 + 1 + 1, 0, none⟩) 1 1, .slice (some ⟨w.heap.size + 1 + 1, 0, none⟩) 1 1] 26)).alloc (.cells #[.string k] 9)).alloc (valObj v A ca B cb)) := ((((Below.refl _ _).alloc (Nat.le_refl _) _).alloc (by simp) _).alloc (by simp; omega) _).alloc (by simp; omega) _
  have hk1 : ((((w.alloc (valObj v A ca B cb)).alloc (.cells #[.int .i64 8, .int .i64 0, .float .f64 0, .string ⟨#[]⟩, .slice (some ⟨w.heap.size + 1 + 1 + 1, 0, none⟩) 1 1, .slice (some ⟨w.heap.size + 1 + 1, 0, none⟩) 1 1] 26)).alloc (.cells #[.string k] 9)).alloc (valObj v A ca B cb)).heap[w.heap.size + 1 + 1]? = some (.cells #[.string k] 9 (0, 0)) := by
    rw [heap_alloc_old _ _ (by simp)]
    have := heap_alloc_new ((w.alloc (valObj v A ca B cb)).alloc (.cells #[.int .i64 8, .int .i64 0, .float .f64 0, .string ⟨#[]⟩, .slice (some ⟨w.heap.size + 1 + 1 + 1, 0, none⟩) 1 1, .slice (some ⟨w.heap.size + 1 + 1, 0, none⟩) 1 1] 26)) (.cells #[.string k] 9)
    rwa [alloc_size, alloc_size] at this
  have hv1 := heap_alloc_new (((w.alloc (valObj v A ca B cb)).alloc (.cells #[.int .i64 8, .int .i64 0, .float .f64 0, .string ⟨#[]⟩, .slice (some ⟨w.heap.size + 1 + 1 + 1, 0, none⟩) 1 1, .slice (some ⟨w.heap.size + 1 + 1, 0, none⟩) 1 1] 26)).alloc (.cells #[.string k] 9)) (valObj v A ca B cb)
  rw [alloc_size, alloc_size, alloc_size] at hv1
  exact bodyPost_ret (v := .agg #[.int .i64 8, .int .i64 0, .float .f64 0, .string ⟨#[]⟩, .slice (some ⟨w.heap.size + 1 + 1 + 1, 0, none⟩) 1 1, .slice (some ⟨w.heap.size + 1 + 1, 0, none⟩) 1 1]) (by simp [results, Try.results14, go_sem]) rfl
    ⟨_, 1, _, 1, rfl, obj1_bds k v, strs_one hk1 hk, vals_one hv1 hb (hB.bel hbel) (hA.bel hbel), hbel⟩
end Go.Proofs.Ytpdcoipfpffhnaa
