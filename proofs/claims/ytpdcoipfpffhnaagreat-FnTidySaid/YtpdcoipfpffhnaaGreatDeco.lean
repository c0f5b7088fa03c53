/-
  alt.decompose at leaves and arrays. Conditions: none.
-/
import Derived.Test.YtpdcoipfpffhnaaGreatCond
import Derived.Deep.Heap
namespace Go.Proofs.YtpdcoipfpffhnaaGreat
open Go.ChangeShapes Go.WideShapes Go.ChangeAt Go.RowKit
open Go.ChangeMaps (setBlock heap_setBlock_same heap_setBlock_other)
set_option linter.unusedVariables false
set_option linter.unusedSimpArgs false
attribute [local go_sem] tay_bool tam_bool tan_bool tay_int tam_int tan_int tay_int8 tam_int8 tan_int8 tay_int16 tam_int16 tan_int16 tay_int32 tam_int32 tan_int32 tay_int64 tam_int64 tan_int64 tay_uint tam_uint tan_uint tay_uint8 tam_uint8 tan_uint8 tay_uint16 tam_uint16 tan_uint16 tay_uint32 tam_uint32 tan_uint32 tay_uint64 tam_uint64 tan_uint64 tay_float32 tam_float32 tan_float32 tay_float64 tam_float64 tan_float64 tay_string tam_string tan_string tay_sl tam_sl tan_sl tay_mp tam_mp tan_mp tay_gbool tam_gbool tan_gbool tay_gint tam_gint tan_gint tay_gfl tam_gfl tan_gfl tay_gstr tam_gstr tan_gstr tay_jnum tam_jnum tan_jnum tay_gbig tam_gbig tan_gbig tay_garr tam_garr tan_garr tay_lst tam_lst tan_lst tay_gobj tam_gobj tan_gobj tay_dct tam_dct tan_dct
/-- A tidy form is handed back, in blocks of its own. -/
def DecoPost (on oe : Bool) (v : V) (w : World) (e : Ending) (w' : World) : Prop := ∃ x v1, e = .returned x ∧ PT w' w.heap.size w'.heap.size v1 x ∧ EqV v1 (v.tidy on oe) ∧ Below w.heap.size w w'
/-- The options' two cells. -/
def Opts (w : World) (op : Nat) (on oe : Bool) : Prop := w.cell? ⟨op, 3, none⟩ = some (.bool on) ∧ w.cell? ⟨op, 4, none⟩ = some (.bool oe) ∧ op < w.heap.size
theorem Opts.bel {w w1 : World} {op B : Nat} {on oe : Bool} (h : Opts w op on oe) (hb : Below B w w1) (hB : op < B) : Opts w1 op on oe :=
  ⟨(hb.cell (p := ⟨op, 3, none⟩) hB).trans h.1, (hb.cell (p := ⟨op, 4, none⟩) hB).trans h.2.1, Nat.lt_of_lt_of_le h.2.2 hb.size⟩

def Same (x : Value) (w : World) (e : Ending) (w' : World) : Prop := e = .returned x ∧ w = w'
set_option maxRecDepth 100000 in
set_option maxHeartbeats 2000000 in
theorem deco_raw (x : Value) (op : Nat) (w : World) (h : x = .nilIface ∨ (∃ t : Bool, x = .iface 4 (.bool t)) ∨ (∃ n : Int, x = .iface 2 (.int .i64 n)) ∨ (∃ f : Nat, x = .iface 22 (.float .f64 f)) ∨ (∃ s : ByteArray, x = .iface 9 (.string s))) :
    Calls Tryz.prog 44 #[x, .pointer (some ⟨op, 0, none⟩)] w (Same x w) := by
  rcases h with rfl | ⟨t, rfl⟩ | ⟨t, rfl⟩ | ⟨t, rfl⟩ | ⟨t, rfl⟩
  all_goals
    go_enter Tryz.func44, Tryz.ntmps44
    go_wp2_with fail
    go_ret
    exact ⟨rfl, rfl⟩

theorem PT.leafs {w : World} {lo hi : Nat} {v : V} {x : Value} (h : PT w lo hi v x) (h7 : v.kind ≠ 7) (h8 : v.kind ≠ 8) :
    (x = .nilIface ∨ (∃ t : Bool, x = .iface 4 (.bool t)) ∨ (∃ n : Int, x = .iface 2 (.int .i64 n)) ∨ (∃ f : Nat, x = .iface 22 (.float .f64 f)) ∨ (∃ s : ByteArray, x = .iface 9 (.string s))) ∧ ∀ w' lo' hi', PT w' lo' hi' v x := by
  cases h with
  | null _ _ _ h => exact ⟨Or.inl rfl, fun w' lo' hi' => .null _ _ _ h⟩
  | bool _ _ _ h => exact ⟨Or.inr (Or.inl ⟨_, rfl⟩), fun w' lo' hi' => .bool _ _ _ h⟩
  | int _ _ _ h => exact ⟨Or.inr (Or.inr (Or.inl ⟨_, rfl⟩)), fun w' lo' hi' => .int _ _ _ h⟩
  | float _ _ _ h => exact ⟨Or.inr (Or.inr (Or.inr (Or.inl ⟨_, rfl⟩))), fun w' lo' hi' => .float _ _ _ h⟩
  | str _ _ _ h => exact ⟨Or.inr (Or.inr (Or.inr (Or.inr ⟨_, rfl⟩))), fun w' lo' hi' => .str _ _ _ h⟩
  | arr _ _ _ h => exact absurd h h7
  | obj _ _ _ h => exact absurd h h8

theorem deco_leaf (on oe : Bool) (v : V) (x : Value) (op : Nat) (w : World) {lo hi : Nat} (hx : PT w lo hi v x) (hok : v.Ok) (h7 : v.kind ≠ 7) (h8 : v.kind ≠ 8) :
    Calls Tryz.prog 44 #[x, .pointer (some ⟨op, 0, none⟩)] w (DecoPost on oe v w) := by
  obtain ⟨h1, h2⟩ := hx.leafs h7 h8
  refine (deco_raw x op w h1).mono ?_
  rintro e w' ⟨rfl, rfl⟩
  refine ⟨x, v, rfl, h2 _ _ _, ?_, Below.refl _ _⟩
  rw [tidy_leaf hok h7 h8]
  exact EqV.refl v hok

/-! ### A row written in place -/
theorem blk_set {w : World} {g j : Nat} {cur : Array Value} {T : TypeId} {fr : Nat × Nat} (h : w.heap[g]? = some (.cells cur T fr)) (v : Value) : (w.setCell ⟨g, j, none⟩ v).heap[g]? = some (.cells (cur.setIfInBounds j v) T fr) := by
  have hlt := (Array.getElem?_eq_some_iff.1 h).1
  have he := (Array.getElem?_eq_some_iff.1 h).2
  simp [World.setCell, Array.getElem?_modify, h]
theorem set_far (w : World) (a : Addr) (v : Value) {k : Nat} (h : k ≠ a.block) : (w.setCell a v).heap[k]? = w.heap[k]? := by
  simp only [World.setCell, Array.getElem?_modify]
  rw [if_neg (fun e => h e.symm)]
theorem set_size (w : World) (a : Addr) (v : Value) : (w.setCell a v).heap.size = w.heap.size := by simp [World.setCell]
theorem take_set {cur : Array Value} {j : Nat} (h : j < cur.size) (y : Value) : (cur.setIfInBounds j y).toList.take (j + 1) = cur.toList.take j ++ [y] := by
  rw [Array.toList_setIfInBounds]
  apply List.ext_getElem?
  intro i
  by_cases hi : i < j
  · rw [List.getElem?_take_of_lt (by omega), List.getElem?_set_ne (by omega), List.getElem?_append_left (by simp; omega), List.getElem?_take_of_lt hi]
  · by_cases hij : i = j
    · subst hij
      have e : (cur.toList.take i).length = i := by simp; omega
      rw [List.getElem?_take_of_lt (by omega), List.getElem?_set_self (by simpa using h), List.getElem?_append_right (by omega), e, Nat.sub_self]
      rfl
    · rw [List.getElem?_eq_none (by simp; omega), List.getElem?_eq_none (by simp; omega)]
theorem cell_row {w : World} {g j : Nat} {cur : Array Value} {T : TypeId} (h : w.heap[g]? = some (.cells cur T (0, 0))) (hj : j < cur.size) : (∃ u, w.cell? ⟨g, j, none⟩ = some u) ∧ w.frozen? ⟨g, j, none⟩ = false := by
  constructor
  · exact ⟨cur[j], by simp [World.cell?, h, hj]⟩
  · simp [World.frozen?, h]
theorem below_set {B : Nat} {w w1 : World} (h : Below B w w1) {g j : Nat} (hg : B ≤ g) (v : Value) : Below B w (w1.setCell ⟨g, j, none⟩ v) := h.setCell hg v

theorem kids_set {wr w2 : World} {g j : Nat} {cur : Array Value} {l1 : List V} {v1 : V} {y : Value} (hk : Kids wr (g + 1) wr.heap.size l1 (cur.toList.take j)) (hp : PT w2 wr.heap.size w2.heap.size v1 y) (hb : Below wr.heap.size wr w2) (hj : j < cur.size) (hg : g < wr.heap.size) :
    Kids (w2.setCell ⟨g, j, none⟩ y) (g + 1) (w2.setCell ⟨g, j, none⟩ y).heap.size (l1 ++ [v1]) ((cur.setIfInBounds j y).toList.take (j + 1)) := by
  rw [take_set hj, set_size]
  refine (hk.move (fun k h1 h2 => ?_)).snoc (hp.move (fun k h1 h2 => ?_)) hb.size
  · rw [set_far _ _ _ (by show k ≠ g; omega)]
    exact hb.block k h2
  · rw [set_far _ _ _ (by show k ≠ g; omega)]

def EqL (on oe : Bool) (l1 l : List V) : Prop := l1.length = l.length ∧ ∀ (i : Nat) x y, l1[i]? = some x → l[i]? = some y → EqV x (y.tidy on oe)
theorem EqL.snoc {on oe : Bool} {l1 l : List V} {x y : V} (h : EqL on oe l1 l) (hx : EqV x (y.tidy on oe)) : EqL on oe (l1 ++ [x]) (l ++ [y]) := by
  refine ⟨by simp [h.1], fun i a b ha hb => ?_⟩
  by_cases hi : i < l1.length
  · rw [List.getElem?_append_left hi] at ha
    rw [List.getElem?_append_left (by rw [← h.1]; exact hi)] at hb
    exact h.2 i a b ha hb
  · have h2 : i = l1.length := by have := (List.getElem?_eq_some_iff.1 ha).1; simp at this; omega
    subst h2
    rw [List.getElem?_append_right (Nat.le_refl _)] at ha
    rw [h.1, List.getElem?_append_right (Nat.le_refl _)] at hb
    simp at ha hb
    subst ha hb
    exact hx
theorem info_any5 : (Tryz.prog.info? 20).map (fun i => (i.zero, i.size, i.bytes)) = some (some .nilIface, 1, 16) := by kernel_rfl

def DecoArr (on oe : Bool) (l : List V) (w : World) (e : Ending) (w' : World) : Prop := ∃ g cur l1, e = .returned (.iface 57 (.slice (some ⟨g, 0, none⟩) l.length l.length)) ∧ w.heap.size ≤ g ∧ w'.heap[g]? = some (.cells cur 20 (0, 0)) ∧ cur.size = l.length ∧ Kids w' (g + 1) w'.heap.size l1 cur.toList ∧ EqL on oe l1 l ∧ Below w.heap.size w w'

set_option maxRecDepth 100000 in
set_option maxHeartbeats 4000000 in
theorem deco_arr (on oe : Bool) (l : List V) (g0 c op : Nat) (cur0 : Array Value) (xs : List Value) (w : World) (hb : w.heap[g0]? = some (.cells cur0 20 (0, 0))) (ht : cur0.toList.take l.length = xs) (hn : xs.length = l.length) (hlm : l.length ≤ 1000000)
    (hcall : ∀ (i : Nat) x y, l[i]? = some x → xs[i]? = some y → ∀ wr, Below w.heap.size w wr → Calls Tryz.prog 44 #[y, .pointer (some ⟨op, 0, none⟩)] wr (DecoPost on oe x wr)) :
    Calls Tryz.prog 44 #[.iface 57 (.slice (some ⟨g0, 0, none⟩) l.length c), .pointer (some ⟨op, 0, none⟩)] w (DecoArr on oe l w) := by
  obtain ⟨i0, hi, hz0, hz1, hz2⟩ := info_parts info_any5
  have hglt : g0 < w.heap.size := (Array.getElem?_eq_some_iff.1 hb).1
  have hcell : Hid (∀ (i : Nat) y, xs[i]? = some y → w.cell? ⟨g0, i, none⟩ = some y) := fun i y hy => row_at hb ht hy
  have hnH := Lib.hid hn
  have H := Lib.hid hcall
  obtain ⟨n, hnl⟩ : ∃ n, n = l.length := ⟨_, rfl⟩
  have hnlH := Lib.hid hnl
  rw [← hnl] at hlm ⊢
  clear hb ht hn hcall hnl
  go_enter Tryz.func44, Tryz.ntmps44
  go_wp2_with (at_make; refine wpList_make_full _ rfl _ _ 57 rfl w.heap.size 20 i0 .nilIface 1 Tryz.underlying57 hi hz0 hz1 _ _ _ _ n rfl rfl rfl rfl ?b1 ?b2 ?b3 ?_)
  case b1 => rw [hz2]; omega
  case b2 => unfold maxLen; omega
  case b3 => exact Nat.le_refl _
  intro w1 hown hgr
  have hbel : Below w.heap.size w w1 := (Below.refl _ _).grown hgr (Nat.le_refl _) (fun k hk => by simp at hk)
  have hblk : Hid (∃ cur, w1.heap[w.heap.size]? = some (.cells cur 20 (0, 0)) ∧ cur.size = n) := by
    rcases hown.2 with ⟨e, _⟩ | ⟨g, cap, cur, e, h1, h2, h3, h4, h5, h6⟩
    · cases e
    · simp only [Value.slice.injEq, Option.some.injEq, Addr.mk.injEq, and_true, true_and] at e
      obtain ⟨rfl, rfl⟩ := e
      exact ⟨cur, h2, by omega⟩
  have hs1 : w.heap.size + 1 ≤ w1.heap.size := by
    obtain ⟨cur, h1, _⟩ := hblk.out
    exact (Array.getElem?_eq_some_iff.1 h1).1
  clear hown hgr
  go_wp2_with fail
  go_loopw [123] (fun i wr => ∃ (j : Nat) (cur : Array Value) (l1 : List V), j ≤ n ∧ i = .int .i64 j ∧ Hid (wr.heap[w.heap.size]? = some (.cells cur 20 (0, 0)) ∧ cur.size = n ∧ Kids wr (w.heap.size + 1) wr.heap.size l1 (cur.toList.take j) ∧ EqL on oe l1 (l.take j)) ∧ Below w.heap.size w wr ∧ w.heap.size + 1 ≤ wr.heap.size) (fun i _ => n - (intOf i).toNat)
  case atStart =>
    obtain ⟨cur, h1, h2⟩ := hblk.out
    exact ⟨0, cur, [], by omega, rfl, ⟨h1, h2, by rw [List.take_zero]; exact Kids.nil _ hs1, ⟨rfl, fun i x y hx => by simp at hx⟩⟩, hbel, hs1⟩
  case round =>
    clear hbel hblk hs1
    obtain ⟨j, cur, l1, hj, rfl, hinv, hbel, hs1⟩ := hrel
    by_cases hlt : j < n
    · obtain ⟨x, hx⟩ : ∃ x, l[j]? = some x := get_lt (by rw [← hnlH.out]; exact hlt)
      obtain ⟨y, hy⟩ : ∃ y, xs[j]? = some y := get_lt (by rw [hnH.out, ← hnlH.out]; exact hlt)
      have q1 : wr.cell? ⟨g0, j, none⟩ = some y := (hbel.cell (p := ⟨g0, j, none⟩) hglt).trans (hcell.out j y hy)
      have hx' := Lib.hid hx
      have hcall := Lib.hid (H.out j x y hx hy wr hbel)
      have j0 : (0 : Int) ≤ (j : Int) := by omega
      have j1 : (j : Int) < (n : Int) := by omega
      clear hx hy
      go_wp2_with fail
      refine hcall.out.mono ?_
      rintro e w2 ⟨y', v1, rfl, hp, heq, hb2⟩
      have hinv2 : Hid (∃ u, w2.cell? ⟨w.heap.size, j, none⟩ = some u) := by
        obtain ⟨h1, h2, _, _⟩ := hinv.out
        exact (cell_row (j := j) ((hb2.block _ (by omega)).trans h1) (by omega)).1
      obtain ⟨u, c1⟩ := hinv2.out
      have c2 : w2.frozen? ⟨w.heap.size, j, none⟩ = false := by
        obtain ⟨h1, h2, _, _⟩ := hinv.out
        exact (cell_row (j := j) ((hb2.block _ (by omega)).trans h1) (by omega)).2
      have hnew : Hid ((w2.setCell ⟨w.heap.size, j, none⟩ y').heap[w.heap.size]? = some (.cells (cur.setIfInBounds j y') 20 (0, 0)) ∧ (cur.setIfInBounds j y').size = n ∧ Kids (w2.setCell ⟨w.heap.size, j, none⟩ y') (w.heap.size + 1) (w2.setCell ⟨w.heap.size, j, none⟩ y').heap.size (l1 ++ [v1]) ((cur.setIfInBounds j y').toList.take (j + 1)) ∧ EqL on oe (l1 ++ [v1]) (l.take (j + 1))) := by
        obtain ⟨h1, h2, h3, h4⟩ := hinv.out
        refine ⟨blk_set ((hb2.block _ (by omega)).trans h1) _, by simpa using h2, kids_set h3 hp hb2 (by omega) (by omega), ?_⟩
        rw [take_get hx'.out]
        exact h4.snoc heq
      have hbel3 := below_set (hbel.trans (hb2.mono hbel.size)) (Nat.le_refl w.heap.size) (j := j) y'
      have hs3 : w.heap.size + 1 ≤ (w2.setCell ⟨w.heap.size, j, none⟩ y').heap.size := by rw [set_size]; have := hb2.size; omega
      have hform := hp.form
      clear hcall hp heq hb2 hinv hinv2 hbel hs1 q1
      rcases hform with rfl | ⟨ty, z, rfl⟩
      all_goals
        go_wp2_with fail
        go_roundw
        case rel => exact ⟨j + 1, _, _, by omega, by go_num, hnew, hbel3, hs3⟩
        case measure => simp [intOf]; omega
    · obtain rfl : j = n := by omega
      have hfin : Hid (DecoArr on oe l w (.returned (.iface 57 (.slice (some ⟨w.heap.size, 0, none⟩) j j))) wr) := by
        obtain ⟨h1, h2, h3, h4⟩ := hinv.out
        rw [List.take_of_length_le (by simp; omega)] at h3
        rw [List.take_of_length_le (by rw [← hnlH.out]; exact Nat.le_refl _)] at h4
        exact ⟨w.heap.size, cur, l1, by rw [← hnlH.out], Nat.le_refl _, h1, by rw [← hnlH.out]; exact h2, h3, h4, hbel⟩
      clear hinv
      go_wp2_with fail
      go_ret
      exact hfin.out
end Go.Proofs.YtpdcoipfpffhnaaGreat
