/-
  alt.alter at leaves and arrays: in place. Conditions: none.
-/
import Derived.Test.YtpdcoipfpffhnaaGreatAlt0
namespace Go.Proofs.YtpdcoipfpffhnaaGreat
open Go.ChangeShapes Go.WideShapes Go.ChangeAt Go.RowKit
open Go.ChangeMaps (setBlock heap_setBlock_same heap_setBlock_other)
set_option linter.unusedVariables false
set_option linter.unusedSimpArgs false
attribute [local go_sem] tay_bool tam_bool tan_bool tay_int tam_int tan_int tay_int8 tam_int8 tan_int8 tay_int16 tam_int16 tan_int16 tay_int32 tam_int32 tan_int32 tay_int64 tam_int64 tan_int64 tay_uint tam_uint tan_uint tay_uint8 tam_uint8 tan_uint8 tay_uint16 tam_uint16 tan_uint16 tay_uint32 tam_uint32 tan_uint32 tay_uint64 tam_uint64 tan_uint64 tay_float32 tam_float32 tan_float32 tay_float64 tam_float64 tan_float64 tay_string tam_string tan_string tay_sl tam_sl tan_sl tay_mp tam_mp tan_mp tay_gbool tam_gbool tan_gbool tay_gint tam_gint tan_gint tay_gfl tam_gfl tan_gfl tay_gstr tam_gstr tan_gstr tay_jnum tam_jnum tan_jnum tay_gbig tam_gbig tan_gbig tay_garr tam_garr tan_garr tay_lst tam_lst tan_lst tay_gobj tam_gobj tan_gobj tay_dct tam_dct tan_dct
/-- Only blocks from lo on, below hi, and new ones have turned. -/
structure Touch (w w' : World) (lo hi : Nat) : Prop where
  os : w'.os = w.os
  tape : w'.tape = w.tape
  output : w'.output = w.output
  size : w.heap.size ≤ w'.heap.size
  block : ∀ k, k < w.heap.size → k < lo ∨ hi ≤ k → w'.heap[k]? = w.heap[k]?
theorem Touch.refl (w : World) (lo hi : Nat) : Touch w w lo hi := ⟨rfl, rfl, rfl, Nat.le_refl _, fun _ _ _ => rfl⟩
theorem Touch.trans {w w1 w2 : World} {lo hi lo' hi' : Nat} (h : Touch w w1 lo hi) (h2 : Touch w1 w2 lo' hi') (h3 : lo ≤ lo') (h4 : hi' ≤ hi) : Touch w w2 lo hi :=
  ⟨h2.os.trans h.os, h2.tape.trans h.tape, h2.output.trans h.output, Nat.le_trans h.size h2.size, fun k hk ho => (h2.block k (Nat.lt_of_lt_of_le hk h.size) (by omega)).trans (h.block k hk ho)⟩
theorem Touch.set {w w1 : World} {lo hi g j : Nat} (h : Touch w w1 lo hi) (h1 : lo ≤ g) (h2 : g < hi ∨ w.heap.size ≤ g) (v : Value) : Touch w (w1.setCell ⟨g, j, none⟩ v) lo hi :=
  ⟨h.os, h.tape, h.output, by rw [set_size]; exact h.size, fun k hk ho => (set_far _ _ _ (by show k ≠ g; omega)).trans (h.block k hk ho)⟩
theorem Touch.setB {w w1 : World} {lo hi g : Nat} (h : Touch w w1 lo hi) (h2 : (lo ≤ g ∧ g < hi) ∨ w.heap.size ≤ g) (o : Obj) : Touch w (setBlock w1 g o) lo hi :=
  ⟨h.os, h.tape, h.output, by rw [setBlock_size]; exact h.size, fun k hk ho => (setBlock_far _ _ _ (by omega)).trans (h.block k hk ho)⟩
theorem Touch.drew {w w1 : World} {lo hi : Nat} (h : Touch w w1 lo hi) : Touch w w1.drew lo hi := ⟨h.os, h.tape, h.output, h.size, h.block⟩
theorem Touch.alloc {w w1 : World} {lo hi : Nat} (h : Touch w w1 lo hi) (o : Obj) : Touch w (w1.alloc o) lo hi :=
  ⟨h.os, h.tape, h.output, by rw [alloc_size]; have := h.size; omega, fun k hk ho => (Below.heap_alloc _ _ _ (Nat.lt_of_lt_of_le hk h.size)).trans (h.block k hk ho)⟩
def AltPost (on oe : Bool) (v : V) (x : Value) (lo hi : Nat) (w : World) (e : Ending) (w' : World) : Prop := e = .returned x ∧ PT w' lo hi (v.tidy on oe) x ∧ Touch w w' lo hi

set_option maxRecDepth 100000 in
set_option maxHeartbeats 4000000 in
theorem alter_raw (x : Value) (op : Nat) (w : World) (h : x = .nilIface ∨ (∃ t : Bool, x = .iface 4 (.bool t)) ∨ (∃ n : Int, x = .iface 2 (.int .i64 n)) ∨ (∃ f : Nat, x = .iface 22 (.float .f64 f)) ∨ (∃ s : ByteArray, x = .iface 9 (.string s))) :
    Calls Tryz.prog 43 #[x, .pointer (some ⟨op, 0, none⟩)] w (Same x w) := by
  rcases h with rfl | ⟨t, rfl⟩ | ⟨t, rfl⟩ | ⟨t, rfl⟩ | ⟨t, rfl⟩
  all_goals
    go_enter Tryz.func43, Tryz.ntmps43
    go_wp2_with fail
    go_ret
    exact ⟨rfl, rfl⟩
theorem alter_leaf (on oe : Bool) (v : V) (x : Value) (op lo hi : Nat) (w : World) (hx : PT w lo hi v x) (hok : v.Ok) (h7 : v.kind ≠ 7) (h8 : v.kind ≠ 8) :
    Calls Tryz.prog 43 #[x, .pointer (some ⟨op, 0, none⟩)] w (AltPost on oe v x lo hi w) := by
  obtain ⟨h1, h2⟩ := hx.leafs h7 h8
  refine (alter_raw x op w h1).mono ?_
  rintro e w' ⟨rfl, rfl⟩
  refine ⟨rfl, ?_, Touch.refl _ _ _⟩
  rw [tidy_leaf hok h7 h8]
  exact hx

/-- The elements, some of them tidy. -/
def ArrSt (on oe : Bool) (l : List V) (xs : List Value) (cut : Nat → Nat) (wr : World) (j : Nat) : Prop := ∀ (i : Nat) x y, l[i]? = some x → xs[i]? = some y → PT wr (cut i) (cut (i + 1)) (if i < j then x.tidy on oe else x) y
theorem ArrSt.step {on oe : Bool} {l : List V} {xs : List Value} {cut : Nat → Nat} {wr w2 : World} {j : Nat} {x : V} {y : Value} (h : ArrSt on oe l xs cut wr j) (hm : ∀ i, i < l.length → cut i ≤ cut (i + 1)) (hx : l[j]? = some x) (hy : xs[j]? = some y) (hp : PT w2 (cut j) (cut (j + 1)) (x.tidy on oe) y) (ht : Touch wr w2 (cut j) (cut (j + 1))) (hs : cut l.length ≤ wr.heap.size) : ArrSt on oe l xs cut w2 (j + 1) := by
  intro i x' y' hx' hy'
  have hcm := cut_mono hm
  have hi := (List.getElem?_eq_some_iff.1 hx').1
  have hj := (List.getElem?_eq_some_iff.1 hx).1
  by_cases hij : i = j
  · subst hij
    obtain rfl := Option.some.inj (hx.symm.trans hx')
    obtain rfl := Option.some.inj (hy.symm.trans hy')
    rw [if_pos (by omega)]
    exact hp
  · have h1 := h i x' y' hx' hy'
    have e1 : (if i < j + 1 then x'.tidy on oe else x') = (if i < j then x'.tidy on oe else x') := by
      by_cases h2 : i < j
      · rw [if_pos (by omega), if_pos h2]
      · rw [if_neg (by omega), if_neg h2]
    rw [e1]
    refine h1.move (fun k k1 k2 => ?_)
    have c3 : cut (i + 1) ≤ cut l.length := hcm (i + 1) l.length (by omega) (by omega)
    refine ht.block k (by omega) ?_
    by_cases h2 : i < j
    · have := hcm (i + 1) j (by omega) (by omega); left; omega
    · have := hcm (j + 1) i (by omega) (by omega); right; omega
theorem ArrSt.far {on oe : Bool} {l : List V} {xs : List Value} {cut : Nat → Nat} {wr w2 : World} {j : Nat} (h : ArrSt on oe l xs cut wr j) (hm : ∀ i, i < l.length → cut i ≤ cut (i + 1)) (hw : ∀ k, cut 0 ≤ k → k < cut l.length → w2.heap[k]? = wr.heap[k]?) : ArrSt on oe l xs cut w2 j := by
  intro i x y hx hy
  have hcm := cut_mono hm
  have hi := (List.getElem?_eq_some_iff.1 hx).1
  refine (h i x y hx hy).move (fun k k1 k2 => hw k ?_ ?_)
  · have := hcm 0 i (by omega) (by omega); omega
  · have := hcm (i + 1) l.length (by omega) (by omega); omega

/-- An array's cells and its elements. -/
def ArrAt (on oe : Bool) (l : List V) (xs : List Value) (cut : Nat → Nat) (g : Nat) (cur : Array Value) (wr : World) (j : Nat) : Prop := wr.heap[g]? = some (.cells cur 20 (0, 0)) ∧ ArrSt on oe l xs cut wr j
theorem set_same {cur : Array Value} {j : Nat} {y : Value} (h : cur[j]? = some y) : cur.setIfInBounds j y = cur := by
  apply Array.ext_getElem?
  intro i
  rw [Array.getElem?_setIfInBounds]
  by_cases hij : j = i
  · subst hij
    obtain ⟨hl, he⟩ := Array.getElem?_eq_some_iff.1 h
    rw [if_pos rfl, if_pos hl, h]
  · rw [if_neg hij]

set_option maxRecDepth 100000 in
set_option maxHeartbeats 4000000 in
theorem alter_arr (on oe : Bool) (l : List V) (g c op lo hi : Nat) (cur : Array Value) (xs : List Value) (cut : Nat → Nat) (w : World) (hb : w.heap[g]? = some (.cells cur 20 (0, 0))) (ht : cur.toList.take l.length = xs) (hn : xs.length = l.length) (hlm : l.length ≤ 1000000)
    (hlo : lo ≤ g) (hg : g < cut 0) (hhi : cut l.length ≤ hi) (hs : hi ≤ w.heap.size) (hm : ∀ i, i < l.length → cut i ≤ cut (i + 1)) (hst : ArrSt on oe l xs cut w 0)
    (hcall : ∀ (i : Nat) x y, l[i]? = some x → xs[i]? = some y → ∀ wr, Touch w wr lo hi → PT wr (cut i) (cut (i + 1)) x y → Calls Tryz.prog 43 #[y, .pointer (some ⟨op, 0, none⟩)] wr (AltPost on oe x y (cut i) (cut (i + 1)) wr)) :
    Calls Tryz.prog 43 #[.iface 57 (.slice (some ⟨g, 0, none⟩) l.length c), .pointer (some ⟨op, 0, none⟩)] w (fun e w' => e = .returned (.iface 57 (.slice (some ⟨g, 0, none⟩) l.length c)) ∧ ArrAt on oe l xs cut g cur w' l.length ∧ Touch w w' lo hi) := by
  have hcm := cut_mono hm
  have hc0n : cut 0 ≤ cut l.length := hcm 0 l.length (by omega) (by omega)
  have hnH := Lib.hid hn
  have htH := Lib.hid ht
  have hmH := Lib.hid hm
  have hst0 : Hid (ArrAt on oe l xs cut g cur w 0) := ⟨hb, hst⟩
  have H := Lib.hid hcall
  have hcmH := Lib.hid hcm
  obtain ⟨n, hnl⟩ : ∃ n, n = l.length := ⟨_, rfl⟩
  have hnlH := Lib.hid hnl
  rw [← hnl] at hlm hc0n hhi ⊢
  clear hb ht hn hcall hnl hm hcm hst
  go_enter Tryz.func43, Tryz.ntmps43
  go_wp2_with fail
  go_loopw [125] (fun i wr => ∃ (j : Nat), j ≤ n ∧ i = .int .i64 j ∧ Hid (ArrAt on oe l xs cut g cur wr j) ∧ Hid (Touch w wr lo hi)) (fun i _ => n - (intOf i).toNat)
  case atStart => exact ⟨0, by omega, rfl, hst0, Touch.refl _ _ _⟩
  case round =>
    clear hst0
    obtain ⟨j, hj, rfl, hinv, hto⟩ := hrel
    by_cases hlt : j < n
    · obtain ⟨x, hx⟩ : ∃ x, l[j]? = some x := get_lt (by rw [← hnlH.out]; exact hlt)
      obtain ⟨y, hy⟩ : ∃ y, xs[j]? = some y := get_lt (by rw [hnH.out, ← hnlH.out]; exact hlt)
      have q1 : wr.cell? ⟨g, j, none⟩ = some y := row_at hinv.out.1 htH.out hy
      have hp0 : PT wr (cut j) (cut (j + 1)) x y := by
        have := hinv.out.2 j x y hx hy
        rwa [if_neg (by omega)] at this
      have hca := Lib.hid (H.out j x y hx hy wr hto.out hp0)
      have hx' := Lib.hid hx
      have hy' := Lib.hid hy
      have j0 : (0 : Int) ≤ (j : Int) := by omega
      have j1 : (j : Int) < (n : Int) := by omega
      have hform := hp0.form
      clear hx hy hp0
      go_wp2_with fail
      refine hca.out.mono ?_
      rintro e w2 ⟨rfl, hp, ht2⟩
      have hcut : cut 0 ≤ cut j ∧ cut (j + 1) ≤ cut n := by
        constructor
        · exact hcmH.out 0 j (by omega) (by rw [← hnlH.out]; omega)
        · rw [hnlH.out]; exact hcmH.out (j + 1) l.length (by rw [← hnlH.out]; omega) (Nat.le_refl _)
      have hszr := hto.out.size
      have hb2 : Hid (w2.heap[g]? = some (.cells cur 20 (0, 0))) := (ht2.block g (by omega) (Or.inl (by omega))).trans hinv.out.1
      have hcj : Hid (cur[j]? = some y) := by
        have h1 := hy'.out
        rw [← htH.out, List.getElem?_take_of_lt (by rw [← hnlH.out]; exact hlt)] at h1
        show cur[j]? = some y
        simpa using h1
      have c1 : w2.cell? ⟨g, j, none⟩ = some y := by
        have := (cell_row (j := j) hb2.out (Array.getElem?_eq_some_iff.1 hcj.out).1)
        simp [World.cell?, hb2.out, hcj.out]
      have c2 : w2.frozen? ⟨g, j, none⟩ = false := (cell_row (j := j) hb2.out (Array.getElem?_eq_some_iff.1 hcj.out).1).2
      have hnew : Hid (ArrAt on oe l xs cut g cur (w2.setCell ⟨g, j, none⟩ y) (j + 1)) := by
        refine ⟨by rw [blk_set hb2.out, set_same hcj.out], (hinv.out.2.step hmH.out hx'.out hy'.out hp ht2 (by rw [← hnlH.out]; omega)).far hmH.out (fun k k1 k2 => set_far _ _ _ (by show k ≠ g; omega))⟩
      have htn : Hid (Touch w (w2.setCell ⟨g, j, none⟩ y) lo hi) := (hto.out.trans ht2 (by omega) (by omega)).set hlo (Or.inl (by omega)) y
      clear hca hp ht2 hinv hto q1 hb2 hcj
      rcases hform with rfl | ⟨ty, z, rfl⟩
      all_goals
        go_wp2_with fail
        go_roundw
        case rel => exact ⟨j + 1, by omega, by go_num, hnew, htn⟩
        case measure => simp [intOf]; omega
    · obtain rfl : j = n := by omega
      have hfin := hinv
      clear hinv
      go_wp2_with fail
      go_ret
      exact ⟨rfl, hfin.out, hto.out⟩
end Go.Proofs.YtpdcoipfpffhnaaGreat
