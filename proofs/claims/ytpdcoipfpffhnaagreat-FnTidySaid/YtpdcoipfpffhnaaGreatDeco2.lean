/-
  alt.decompose at objects. Conditions: none.
-/
import Derived.Test.YtpdcoipfpffhnaaGreatDeco
import Derived.Laws.IdiomRangeMap
namespace Go.Proofs.YtpdcoipfpffhnaaGreat
open Go.ChangeShapes Go.WideShapes Go.ChangeAt Go.RowKit
open Go.ChangeMaps (setBlock heap_setBlock_same heap_setBlock_other)
set_option linter.unusedVariables false
set_option linter.unusedSimpArgs false
attribute [local go_sem] tay_bool tam_bool tan_bool tay_int tam_int tan_int tay_int8 tam_int8 tan_int8 tay_int16 tam_int16 tan_int16 tay_int32 tam_int32 tan_int32 tay_int64 tam_int64 tan_int64 tay_uint tam_uint tan_uint tay_uint8 tam_uint8 tan_uint8 tay_uint16 tam_uint16 tan_uint16 tay_uint32 tam_uint32 tan_uint32 tay_uint64 tam_uint64 tan_uint64 tay_float32 tam_float32 tan_float32 tay_float64 tam_float64 tan_float64 tay_string tam_string tan_string tay_sl tam_sl tan_sl tay_mp tam_mp tan_mp tay_gbool tam_gbool tan_gbool tay_gint tam_gint tan_gint tay_gfl tam_gfl tan_gfl tay_gstr tam_gstr tan_gstr tay_jnum tam_jnum tan_jnum tay_gbig tam_gbig tan_gbig tay_garr tam_garr tan_garr tay_lst tam_lst tan_lst tay_gobj tam_gobj tan_gobj tay_dct tam_dct tan_dct
theorem below_setBlock' {B b : Nat} {w W : World} (h : Below B w W) (hb : B ≤ b) (o : Obj) : Below B w (setBlock W b o) :=
  ⟨h.os, h.tape, h.output, by simp [setBlock]; exact h.size, fun k hk => by
    simp only [setBlock, Array.getElem?_setIfInBounds]
    rw [if_neg (by omega)]
    exact h.block k hk⟩
theorem iterSeen_of {w : World} {r : Nat} {a : Option Nat} {b : Nat} {s : Array Nat} {c : Nat} (h : w.heap[r]? = some (.mapIter a b s c)) : w.iterSeen r = s := by
  unfold World.iterSeen; rw [h]
/-- Behind a step of a range. -/
theorem next_world {w0 wr w1 : World} {r b since c0 clock : Nat} {seen : Array Nat} {born : Nat} (hr : wr.heap[r]? = some (.mapIter (some b) since seen c0)) (hw1 : w1 = wr ∨ w1 = wr.drew) {B : Nat} (hbel : Below B w0 wr) (hB : B ≤ r) :
    (setBlock w1 r (.mapIter (some b) since (seen.push born) clock)).heap[r]? = some (.mapIter (some b) since (seen.push born) clock) ∧ Below B w0 (setBlock w1 r (.mapIter (some b) since (seen.push born) clock)) := by
  have hr1 : w1.heap[r]? = some (.mapIter (some b) since seen c0) := by rcases hw1 with rfl | rfl <;> exact hr
  have hb1 : Below B w0 w1 := by
    rcases hw1 with rfl | rfl
    · exact hbel
    · exact below_drew hbel
  exact ⟨by simp [setBlock, (Array.getElem?_eq_some_iff.1 hr1).1], below_setBlock' hb1 hB _⟩

/-! ### The members that have been laid -/
structure DS (on oe : Bool) (keys : List ByteArray) (l : List V) (es : Array MapEntry) (seen : Array Nat) (qs : List (ByteArray × Value)) (l1 : List V) : Prop where
  len : qs.length = l1.length
  at_ : ∀ (j : Nat) p x1, qs[j]? = some p → l1[j]? = some x1 → ∃ (i : Nat) (x : V) (e : MapEntry), es.toList[i]? = some e ∧ seen.contains e.born = true ∧ keys[i]? = some p.1 ∧ l[i]? = some x ∧ EqV x1 (x.tidy on oe) ∧ (x.tidy on oe).drop on oe = false
  all : ∀ (i : Nat) (e : MapEntry) k (x : V), es.toList[i]? = some e → seen.contains e.born = true → keys[i]? = some k → l[i]? = some x → (x.tidy on oe).drop on oe = false → ∃ p ∈ qs, p.1 = k

theorem DS.start (on oe : Bool) (keys : List ByteArray) (l : List V) (es : Array MapEntry) : DS on oe keys l es #[] [] [] :=
  ⟨rfl, fun j p x1 h => by simp at h, fun i e k x _ h => by simp at h⟩

theorem seen_more {seen : Array Nat} {a b : Nat} (h : seen.contains a = true) : (seen.push b).contains a = true := by rw [contains_push, h]; rfl
theorem seen_self (seen : Array Nat) (b : Nat) : (seen.push b).contains b = true := by rw [contains_push]; simp
theorem es_nodup {es : Array MapEntry} (h : (es.toList.map (·.born)).Nodup) : es.toList.Nodup := (List.pairwise_map.1 h).imp (fun h e => h (by rw [e]))

/-- An entry that has not come yet has not been laid. -/
theorem DS.fresh {on oe : Bool} {keys : List ByteArray} {l : List V} {es : Array MapEntry} {seen : Array Nat} {qs : List (ByteArray × Value)} {l1 : List V} (h : DS on oe keys l es seen qs l1) (hd : keys.Nodup) {i : Nat} {e : MapEntry} {k : ByteArray} (he : es.toList[i]? = some e) (hs : seen.contains e.born = false) (hk : keys[i]? = some k) : ∀ p ∈ qs, p.1 ≠ k := by
  intro p hp e1
  obtain ⟨j, hj⟩ := List.getElem?_of_mem hp
  obtain ⟨x1, hx1⟩ : ∃ x1, l1[j]? = some x1 := get_lt (by rw [← h.len]; exact (List.getElem?_eq_some_iff.1 hj).1)
  obtain ⟨i2, x, e2, h1, h2, h3, _⟩ := h.at_ j p x1 hj hx1
  rw [e1] at h3
  have hi : i2 = i := (List.getElem?_inj (List.getElem?_eq_some_iff.1 h3).1 hd).1 (h3.trans hk.symm)
  subst hi
  rw [he] at h1
  obtain rfl := Option.some.inj h1
  rw [hs] at h2
  cases h2

theorem DS.push {on oe : Bool} {keys : List ByteArray} {l : List V} {es : Array MapEntry} {seen : Array Nat} {qs : List (ByteArray × Value)} {l1 : List V} (h : DS on oe keys l es seen qs l1) (hb : (es.toList.map (·.born)).Nodup) {i : Nat} {e : MapEntry} {k : ByteArray} {x : V} (he : es.toList[i]? = some e) (hk : keys[i]? = some k) (hx : l[i]? = some x) {x1 : V} (heq : EqV x1 (x.tidy on oe)) :
    (x1.drop on oe = true → DS on oe keys l es (seen.push e.born) qs l1) ∧ (x1.drop on oe = false → ∀ y, DS on oe keys l es (seen.push e.born) (qs ++ [(k, y)]) (l1 ++ [x1])) := by
  have hdr := heq.drop (on := on) (oe := oe)
  have hother : ∀ (i2 : Nat) (e2 : MapEntry), es.toList[i2]? = some e2 → (seen.push e.born).contains e2.born = true → seen.contains e2.born = true ∨ i2 = i := fun i2 e2 h2 hc => by
    rw [contains_push] at hc
    cases h1 : seen.contains e2.born with
    | true => exact Or.inl rfl
    | false =>
      rw [h1] at hc
      simp only [Bool.false_or, beq_iff_eq] at hc
      have := born_inj hb (List.mem_of_getElem? h2) (List.mem_of_getElem? he) hc
      subst this
      exact Or.inr ((List.getElem?_inj (List.getElem?_eq_some_iff.1 h2).1 (es_nodup hb)).1 (h2.trans he.symm))
  constructor
  · intro hd
    refine ⟨h.len, fun j p x2 hj hx2 => ?_, fun i2 e2 k2 x2 h2 hc hk2 hx2 hd2 => ?_⟩
    · obtain ⟨i2, x3, e2, h1, h2, h3⟩ := h.at_ j p x2 hj hx2
      exact ⟨i2, x3, e2, h1, seen_more h2, h3⟩
    · rcases hother i2 e2 h2 hc with h1 | rfl
      · exact h.all i2 e2 k2 x2 h2 h1 hk2 hx2 hd2
      · obtain rfl := Option.some.inj (hx.symm.trans hx2)
        rw [← hdr, hd] at hd2
        cases hd2
  · intro hd y
    refine ⟨by simp [h.len], fun j p x2 hj hx2 => ?_, fun i2 e2 k2 x2 h2 hc hk2 hx2 hd2 => ?_⟩
    · by_cases hjl : j < qs.length
      · rw [List.getElem?_append_left hjl] at hj
        rw [List.getElem?_append_left (by rw [← h.len]; exact hjl)] at hx2
        obtain ⟨i2, x3, e2, h1, h2, h3⟩ := h.at_ j p x2 hj hx2
        exact ⟨i2, x3, e2, h1, seen_more h2, h3⟩
      · have hj2 : j = qs.length := by have := (List.getElem?_eq_some_iff.1 hj).1; simp at this; omega
        subst hj2
        rw [List.getElem?_append_right (Nat.le_refl _)] at hj
        rw [h.len, List.getElem?_append_right (Nat.le_refl _)] at hx2
        simp at hj hx2
        subst hj hx2
        exact ⟨i, x, e, he, seen_self _ _, hk, hx, heq, by rw [← hdr]; exact hd⟩
    · rcases hother i2 e2 h2 hc with h1 | rfl
      · obtain ⟨p, hp, e1⟩ := h.all i2 e2 k2 x2 h2 h1 hk2 hx2 hd2
        exact ⟨p, List.mem_append_left _ hp, e1⟩
      · obtain rfl := Option.some.inj (hk.symm.trans hk2)
        exact ⟨(k, y), List.mem_append_right _ (List.mem_singleton.2 rfl), rfl⟩

theorem tidy_member {on oe : Bool} {v : V} (h8 : v.kind = 8) (hd : v.keys.Nodup) (hl : v.keys.length = v.l.length) {i : Nat} {k : ByteArray} {x : V} (hk : v.keys[i]? = some k) (hx : v.l[i]? = some x) (hdr : (x.tidy on oe).drop on oe = false) : (v.tidy on oe).member k = x.tidy on oe := by
  have hkeys : (v.tidy on oe).keys = V.tidyK on oe v.keys v.l := by rw [tidy_eq]; show (if v.kind = 8 then _ else _) = _; rw [if_pos h8]
  have hll : (v.tidy on oe).l = V.tidyL on oe v.keys v.l := by rw [tidy_eq]; show (if v.kind = 8 then _ else _) = _; rw [if_pos h8]
  have hmem : k ∈ (v.tidy on oe).keys := by rw [hkeys]; exact tidy_has on oe _ _ i k x hk hx hdr
  obtain ⟨j, y, h1, h2, h3⟩ := key_at (v := v.tidy on oe) (by rw [hkeys, hll]; exact tidyK_len _ _ _ _) (by rw [hkeys]; exact (tidy_sub on oe _ _).nodup hd) hmem
  rw [hkeys] at h1
  obtain ⟨i2, x2, g1, g2, g3, g4⟩ := tidy_zip on oe v.keys v.l j k h1
  have : i2 = i := (List.getElem?_inj (List.getElem?_eq_some_iff.1 g1).1 hd).1 (g1.trans hk.symm)
  subst this
  obtain rfl := Option.some.inj (hx.symm.trans g2)
  rw [h3]
  rw [hll] at h2
  exact Option.some.inj (h2.symm.trans g4)

theorem DS.done {on oe : Bool} {v : V} {es : Array MapEntry} {seen : Array Nat} {qs : List (ByteArray × Value)} {l1 : List V} (h : DS on oe v.keys v.l es seen qs l1) (h8 : v.kind = 8) (hd : v.keys.Nodup) (hl : v.keys.length = v.l.length) (hqd : (qs.map (·.1)).Nodup) (hes : es.toList.length = v.keys.length) (hall : ∀ e ∈ es.toList, seen.contains e.born = true) :
    EqV ⟨8, 0, 0, ⟨#[]⟩, l1, qs.map (·.1)⟩ (v.tidy on oe) := by
  have hkeys : (v.tidy on oe).keys = V.tidyK on oe v.keys v.l := by rw [tidy_eq]; show (if v.kind = 8 then _ else _) = _; rw [if_pos h8]
  have hll : (v.tidy on oe).l = V.tidyL on oe v.keys v.l := by rw [tidy_eq]; show (if v.kind = 8 then _ else _) = _; rw [if_pos h8]
  refine .obj _ _ rfl (by rw [V.tidy_kind]; exact h8) (by show (qs.map (·.1)).length = l1.length; rw [List.length_map]; exact h.len) (by rw [hkeys, hll]; exact tidyK_len _ _ _ _) hqd (by rw [hkeys]; exact (tidy_sub on oe _ _).nodup hd) (fun k => ?_) (fun j k x1 hk hx1 => ?_)
  · show k ∈ qs.map (·.1) ↔ _
    rw [hkeys]
    constructor
    · intro hk
      obtain ⟨p, hp, rfl⟩ := List.mem_map.1 hk
      obtain ⟨j, hj⟩ := List.getElem?_of_mem hp
      obtain ⟨x1, hx1⟩ : ∃ x1, l1[j]? = some x1 := get_lt (by rw [← h.len]; exact (List.getElem?_eq_some_iff.1 hj).1)
      obtain ⟨i, x, e, _, _, h3, h4, _, h6⟩ := h.at_ j p x1 hj hx1
      exact tidy_has on oe _ _ i _ x h3 h4 h6
    · intro hk
      obtain ⟨j, hj⟩ := List.getElem?_of_mem hk
      obtain ⟨i, x, g1, g2, g3, _⟩ := tidy_zip on oe v.keys v.l j k hj
      obtain ⟨e, he⟩ : ∃ e, es.toList[i]? = some e := get_lt (by rw [hes]; exact (List.getElem?_eq_some_iff.1 g1).1)
      obtain ⟨p, hp, e1⟩ := h.all i e k x he (hall e (List.mem_of_getElem? he)) g1 g2 g3
      exact List.mem_map.2 ⟨p, hp, e1⟩
  · have hk' : (qs.map (·.1))[j]? = some k := hk
    rw [List.getElem?_map] at hk'
    obtain ⟨p, hp, rfl⟩ := Option.map_eq_some_iff.1 hk'
    obtain ⟨i, x, e, _, _, h3, h4, h5, h6⟩ := h.at_ j p x1 hp hx1
    rw [tidy_member h8 hd hl h3 h4 h6]
    exact h5

def DecoObj (on oe : Bool) (v : V) (w : World) (e : Ending) (w' : World) : Prop := ∃ g l1 qs, e = .returned (.iface 67 (.map (some g))) ∧ w.heap.size ≤ g ∧ HasMap w' g qs ∧ Kids w' (g + 1) w'.heap.size l1 (qs.map (·.2)) ∧ EqV ⟨8, 0, 0, ⟨#[]⟩, l1, qs.map (·.1)⟩ (v.tidy on oe) ∧ Below w.heap.size w w'

/-- Behind the call of condMapSet. -/
theorem deco_step {on oe : Bool} {keys : List ByteArray} {l : List V} {es : Array MapEntry} {seen : Array Nat} {qs : List (ByteArray × Value)} {l1 : List V} {g : Nat} {W1 w2 w3 : World} {e : Ending} {x : MapEntry} {s : ByteArray} {xv x1 : V} {y : Value} {i : Nat}
    (hds : DS on oe keys l es seen qs l1) (hb : (es.toList.map (·.born)).Nodup) (he : es.toList[i]? = some x) (hk : keys[i]? = some s) (hx : l[i]? = some xv) (heq : EqV x1 (xv.tidy on oe))
    (hm : HasMap W1 g qs) (hkids : Kids W1 (g + 2) W1.heap.size l1 (qs.map (·.2))) (hb2 : Below W1.heap.size W1 w2) (hg : g + 2 ≤ W1.heap.size) (hp : PT w2 W1.heap.size w2.heap.size x1 y) (hc : CondPost (x1.drop on oe) g qs s y w2 e w3) :
    e = .returned (.tuple #[]) ∧ Hid (∃ qs' l1', DS on oe keys l es (seen.push x.born) qs' l1' ∧ HasMap w3 g qs' ∧ Kids w3 (g + 2) w3.heap.size l1' (qs'.map (·.2))) ∧ (∀ k, k ≠ g → k < w2.heap.size → w3.heap[k]? = w2.heap[k]?) ∧ w3.heap.size = w2.heap.size ∧ (∀ B w0, Below B w0 w2 → B ≤ g → Below B w0 w3) := by
  obtain ⟨h1, h2, h3⟩ := hc
  obtain ⟨d1, d2⟩ := hds.push hb he hk hx heq
  have hm2 : HasMap w2 g qs := hm.same (hb2.block g (by omega))
  have hk2 : Kids w2 (g + 2) W1.heap.size l1 (qs.map (·.2)) := hkids.move (fun k _ hk => hb2.block k hk)
  cases hd : x1.drop on oe with
  | true =>
    obtain rfl := h2 hd
    exact ⟨h1, ⟨qs, l1, d1 hd, hm2, hk2.mono (Nat.le_refl _) hb2.size⟩, fun k _ _ => rfl, rfl, fun B w0 h _ => h⟩
  | false =>
    obtain ⟨o, rfl, hm3⟩ := h3 hd
    refine ⟨h1, ⟨qs ++ [(s, y)], l1 ++ [x1], d2 hd y, hm3, ?_⟩, fun k hk _ => setBlock_far _ _ _ hk, setBlock_size _ _ _, fun B w0 h hB => below_setBlock h hB o⟩
    rw [List.map_append, setBlock_size]
    exact (hk2.move (fun k h1 h2 => setBlock_far _ _ _ (by omega))).snoc (hp.move (fun k h1 h2 => setBlock_far _ _ _ (by omega))) hb2.size

set_option maxRecDepth 100000 in
set_option maxHeartbeats 4000000 in
theorem deco_obj (on oe : Bool) (v : V) (h8 : v.kind = 8) (hd : v.keys.Nodup) (hl : v.keys.length = v.l.length) (hvo : v.Ok) (w : World) (b op : Nat) (es : Array MapEntry) (clock : Nat) (ps : List (ByteArray × Value)) (hb : w.heap[b]? = some (.map es clock)) (hst : MapKept.Stamped es clock) (he : Ents ps es) (hkeys : ps.map (·.1) = v.keys) (hop : Opts w op on oe)
    (hcall : ∀ (i : Nat) s y x, ps[i]? = some (s, y) → v.l[i]? = some x → ∀ wr, Below w.heap.size w wr → Calls Tryz.prog 44 #[y, .pointer (some ⟨op, 0, none⟩)] wr (DecoPost on oe x wr)) :
    Calls Tryz.prog 44 #[.iface 67 (.map (some b)), .pointer (some ⟨op, 0, none⟩)] w (DecoObj on oe v w) := by
  have hblt : b < w.heap.size := (Array.getElem?_eq_some_iff.1 hb).1
  have hoplt := hop.2.2
  have hb1 := Lib.hid hb
  have hst1 := Lib.hid hst
  have he1 := Lib.hid he
  have hkeys1 := Lib.hid hkeys
  have hop1 := Lib.hid hop
  have H := Lib.hid hcall
  have hd1 := Lib.hid hd
  have hl1 := Lib.hid hl
  have h81 := Lib.hid h8
  have hesl : Hid (es.toList.length = v.keys.length) := by
    show _ = _
    rw [← hkeys, List.length_map, ← he.size]; simp
  clear hb hst he hcall hkeys hop hd hl h8
  have hmm := @run_makeMap Tryz.prog
  go_enter Tryz.func44, Tryz.ntmps44
  have hbA : Below w.heap.size w (w.alloc (.map #[] 0)) := below_alloc _ _
  have hb2 := Lib.hid ((hbA.block b hblt).trans hb1.out)
  have hmade := Lib.hid (HasMap.made w)
  go_wp2_with (at_range; refine wpList_range_str _ rfl _ 67 rfl _ _ Tryz.underlying67 b es clock rfl hb2.out ?_)
  go_frame
  simp only [alloc_size]
  go_loopw [] (fun wr => ∃ (seen : Array Nat) (c0 : Nat), Hid (wr.heap[w.heap.size + 1]? = some (.mapIter (some b) clock seen c0)) ∧ clock ≤ c0 ∧ Hid (∃ qs l1, DS on oe v.keys v.l es seen qs l1 ∧ HasMap wr w.heap.size qs ∧ Kids wr (w.heap.size + 2) wr.heap.size l1 (qs.map (·.2))) ∧ Below w.heap.size w wr ∧ w.heap.size + 2 ≤ wr.heap.size) (fun wr => (leftOf es (wr.iterSeen (w.heap.size + 1))).size)
  case atStart =>
    have hs0 : ((w.alloc (.map #[] 0)).alloc (.mapIter (some b) clock #[] clock)).heap.size = w.heap.size + 2 := by rw [alloc_size, alloc_size]
    refine ⟨#[], clock, ?_, Nat.le_refl _, ⟨[], [], DS.start _ _ _ _ _, hmade.out.same (Below.heap_alloc _ _ _ (by rw [alloc_size]; omega)), Kids.nil _ (by omega)⟩, below_two _ _ _, by omega⟩
    have h := heap_alloc_new (w.alloc (.map #[] 0)) (.mapIter (some b) clock #[] clock)
    rw [alloc_size] at h
    exact h
  case round =>
    clear hbA hb2 hmade
    obtain ⟨seen, c0, hr, hc0, hds, hbel, hs2⟩ := hrel
    have hbr : Hid (wr.heap[b]? = some (.map es clock)) := (hbel.block b hblt).trans hb1.out
    have hold : Hid (∀ x ∈ es.toList, x.born < clock) := hst1.out.1
    go_wp2_with (at_next; refine wpList_next_str _ rfl _ rfl (w.heap.size + 1) b clock c0 seen es clock ps rfl hr.out hbr.out hold.out hc0 he1.out ?_ ?_)
    · intro h0
      have hfin : Hid (DecoObj on oe v w (.returned (.iface 67 (.map (some w.heap.size)))) wr) := by
        obtain ⟨qs, l1, d1, d2, d3⟩ := hds.out
        exact ⟨w.heap.size, l1, qs, rfl, Nat.le_refl _, d2, d3.mono (by omega) (Nat.le_refl _), d1.done h81.out hd1.out hl1.out d2.nodup hesl.out (fun e he => all_seen es seen (by simpa using h0) e he), hbel⟩
      clear h0 hds
      go_wp2_with fail
      go_ret
      exact hfin.out
    · intro x s y w1 hx0 hsv hxk hxv hw1
      have hx : x ∈ (leftOf es seen).toList := by simpa using hx0
      clear hx0
      have hnw := next_world (clock := clock) (born := x.born) hr.out hw1 hbel (by omega : w.heap.size ≤ w.heap.size + 1)
      have hfar : ∀ k, k ≠ w.heap.size + 1 → (setBlock w1 (w.heap.size + 1) (.mapIter (some b) clock (seen.push x.born) clock)).heap[k]? = wr.heap[k]? := fun k hk => (setBlock_far _ _ _ hk).trans (by rcases hw1 with rfl | rfl <;> rfl)
      have hsz : (setBlock w1 (w.heap.size + 1) (.mapIter (some b) clock (seen.push x.born) clock)).heap.size = wr.heap.size := by rw [setBlock_size]; rcases hw1 with rfl | rfl <;> rfl
      have hsh := Lib.hid (left_shrinks es seen x hx)
      have hxm := Lib.hid (mem_left hx)
      have hsn := Lib.hid (iterSeen_of hr.out)
      clear hr hbr
      generalize setBlock w1 (w.heap.size + 1) (.mapIter (some b) clock (seen.push x.born) clock) = W1 at hnw hfar hsz ⊢
      obtain ⟨hr1, hbelW⟩ := hnw
      have hb3 : Hid (W1.heap[b]? = some (.map es clock)) := (hbelW.block b hblt).trans hb1.out
      have hen : (Instr.entry (.pointer (some ⟨w.heap.size + 1, 0, none⟩))).run Tryz.prog W1 = .ok (.tuple #[.string s, y]) W1 := by
        rw [← hxk, ← hxv]
        exact run_entry_at W1 (w.heap.size + 1) b clock seen es clock x hr1 hb3.out hxm.out.1 hst1.out.2.1
      have hr1' := Lib.hid hr1
      obtain ⟨i, hi⟩ := List.getElem?_of_mem hxm.out.1
      have hpi : Hid (ps[i]? = some (s, y)) := by
        have h1 := congrArg (fun l => l[i]?) he1.out
        simp only [List.getElem?_map, hi] at h1
        cases hp : ps[i]? with
        | none => rw [hp] at h1; simp at h1
        | some p =>
          rw [hp] at h1
          simp [hxk, hxv] at h1
          show some p = _
          rw [h1.1, h1.2]
      have hki : Hid (v.keys[i]? = some s) := by
        show _ = _
        rw [← hkeys1.out, List.getElem?_map, hpi.out]; rfl
      obtain ⟨xv, hxi⟩ : ∃ xv, v.l[i]? = some xv := get_lt (by rw [← hl1.out]; exact (List.getElem?_eq_some_iff.1 hki.out).1)
      have hxi' := Lib.hid hxi
      have hi' := Lib.hid hi
      have hca := Lib.hid (H.out i s y xv hpi.out hxi W1 hbelW)
      have hds1 : Hid (∃ qs l1, DS on oe v.keys v.l es seen qs l1 ∧ HasMap W1 w.heap.size qs ∧ Kids W1 (w.heap.size + 2) W1.heap.size l1 (qs.map (·.2))) := by
        obtain ⟨qs, l1, d1, d2, d3⟩ := hds.out
        exact ⟨qs, l1, d1, d2.same (hfar _ (by omega)), (d3.move (fun k h1 h2 => hfar k (by omega))).mono (Nat.le_refl _) (Nat.le_of_eq hsz.symm)⟩
      have hopW := Lib.hid (hop1.out.bel hbelW hoplt)
      have hsW : w.heap.size + 2 ≤ W1.heap.size := by rw [hsz]; exact hs2
      clear hr1 hi hx hsv hxk hxv hw1 hbel hxi hds hfar hsz hs2
      go_wp2_with fail
      refine hca.out.mono ?_
      rintro e w2 ⟨y', v1, rfl, hp, heq, hb4⟩
      have hbel2 := hbelW.trans (hb4.mono hbelW.size)
      obtain ⟨qs, l1, d1, d2, d3⟩ := hds1.out
      have hfr : ∀ p ∈ qs, p.1 ≠ s := d1.fresh hd1.out hi'.out hxm.out.2 hki.out
      have hv1 : v1.kind = 2 → v1.n = 0 ∨ v1.n = 1 := fun h2 => by
        have hxo : (xv.tidy on oe).Ok := V.Ok.tidy xv (hvo.kids xv (get_mem hxi'.out))
        have hk2 := heq.kind
        cases heq with
        | leaf _ _ _ _ hn => rw [hn (Or.inl h2)]; cases hxo <;> first | omega | assumption
        | arr _ _ ha => omega
        | obj _ _ ha => omega
      have hcs := Lib.hid (condSet_any v1 y' on oe w.heap.size op qs s w2 hp hv1 (d2.same (hb4.block _ (by omega))) hfr (hopW.out.bel hb4 (by have := hbelW.size; omega)).1 (hopW.out.bel hb4 (by have := hbelW.size; omega)).2.1)
      have hstep : Hid (∀ e w3, CondPost (v1.drop on oe) w.heap.size qs s y' w2 e w3 → _) := fun e w3 hc => deco_step d1 hst1.out.2.1 hi'.out hki.out hxi'.out heq d2 d3 hb4 hsW hp hc
      have hr2 : Hid (w2.heap[w.heap.size + 1]? = some (.mapIter (some b) clock (seen.push x.born) clock)) := (hb4.block _ (by omega)).trans hr1'.out
      have hsw2 : w.heap.size + 2 ≤ w2.heap.size := Nat.le_trans hsW hb4.size
      clear hp heq d1 d2 d3 hfr hv1 hca hen hds1 hb4 hbelW
      go_wp2_with fail
      refine hcs.out.mono ?_
      rintro e w3 hcp
      obtain ⟨rfl, hnew, hfar3, hsz3, hbel3⟩ := hstep.out e w3 hcp
      have hbelF := hbel3 _ _ hbel2 (Nat.le_refl _)
      have hr3 : Hid (w3.heap[w.heap.size + 1]? = some (.mapIter (some b) clock (seen.push x.born) clock)) := (hfar3 _ (by omega) (by omega)).trans hr2.out
      have hs3 : w.heap.size + 2 ≤ w3.heap.size := by rw [hsz3]; exact hsw2
      clear hcp hstep hfar3 hsz3 hbel3 hcs
      go_wp2_with fail
      go_roundw
      case rel => exact ⟨_, clock, hr3, Nat.le_refl _, hnew, hbelF, hs3⟩
      case measure => rw [iterSeen_of hr3.out, hsn.out]; exact hsh.out
end Go.Proofs.YtpdcoipfpffhnaaGreat
