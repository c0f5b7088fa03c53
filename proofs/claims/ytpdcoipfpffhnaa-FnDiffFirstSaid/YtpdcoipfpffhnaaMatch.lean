/-
  alt.Match: whether a target fits a fingerprint. Conditions: none.
-/
import Derived.Test.YtpdcoipfpffhnaaMatchL
import Derived.Laws.IdiomRangeMap
import Derived.Outline
namespace Go.Proofs.Ytpdcoipfpffhnaa
open Go.ChangeShapes Go.WideShapes Go.ChangeAt Go.RowKit
open Go.ChangeMaps (setBlock)
set_option linter.unusedVariables false
attribute [local go_sem] tay_bool tam_bool tan_bool tay_int tam_int tan_int tay_int8 tam_int8 tan_int8 tay_int16 tam_int16 tan_int16 tay_int32 tam_int32 tan_int32 tay_int64 tam_int64 tan_int64 tay_uint tam_uint tan_uint tay_uint8 tam_uint8 tan_uint8 tay_uint16 tam_uint16 tan_uint16 tay_uint32 tam_uint32 tan_uint32 tay_uint64 tam_uint64 tan_uint64 tay_float32 tam_float32 tan_float32 tay_float64 tam_float64 tan_float64 tay_string tam_string tan_string tay_sl tam_sl tan_sl tay_mp tam_mp tan_mp tay_fil tam_fil tan_fil tay_gint tam_gint tan_gint tay_gfl tam_gfl tan_gfl
def IffB (P : Prop) (w : World) (e : Ending) (w' : World) : Prop := ∃ r : Bool, e = .returned (.bool r) ∧ (r = true ↔ P) ∧ Below w.heap.size w w'
theorem IffBool.below {P : Prop} {w : World} {e : Ending} {w' : World} (h : IffBool P w e w') : IffB P w e w' := by
  obtain ⟨r, rfl, hr, rfl⟩ := h
  exact ⟨r, rfl, hr, Below.refl _ _⟩

def MatchAt (f : V) : Prop := ∀ (t : V) (x y : Value) (w : World) {lo hi lo' hi' : Nat} (hx : PT w lo hi f x) (hy : PT w lo' hi' t y) (h1 : hi ≤ w.heap.size) (h2 : hi' ≤ w.heap.size) (hfo : f.Ok) (hto : t.Ok) (h4 : f.No 4) (t4 : t.No 4),
    Calls Try.prog 28 #[x, y] w (IffB (Fit f t) w)

set_option maxRecDepth 100000 in
set_option maxHeartbeats 2000000 in
theorem match_arr_no (A : Option Addr) (n c : Nat) (y : Value) (w : World) (P : Prop) (hP : ¬ P) (h : Other 67 y ∨ ∃ B m d, y = .iface 67 (.slice B m d) ∧ m ≠ n) :
    Calls Try.prog 28 #[.iface 67 (.slice A n c), y] w (IffB P w) := by
  have hp' := Lib.hid (not_iff P hP)
  clear hP
  rcases h with ho | ⟨B, m, d, rfl, hm⟩
  · rcases ho with rfl | ⟨t, u, rfl, ht⟩
    all_goals
      go_enter Try.func28, Try.ntmps28
      go_wp2_with fail
      go_ret
      exact ⟨false, rfl, hp'.out, Below.refl _ _⟩
  · have hm1 : ((n : Int) == (m : Int)) = false := beq_eq_false_iff_ne.2 (by omega)
    clear hm
    go_enter Try.func28, Try.ntmps28
    go_wp2_with fail
    go_ret
    exact ⟨false, rfl, hp'.out, Below.refl _ _⟩
set_option maxRecDepth 100000 in
set_option maxHeartbeats 2000000 in
theorem match_obj_no (b : Option Nat) (y : Value) (w : World) (P : Prop) (hP : ¬ P) (ho : Other 54 y) :
    Calls Try.prog 28 #[.iface 54 (.map b), y] w (IffB P w) := by
  have hp' := Lib.hid (not_iff P hP)
  clear hP
  rcases ho with rfl | ⟨t, u, rfl, ht⟩
  all_goals
    go_enter Try.func28, Try.ntmps28
    go_wp2_with fail
    go_ret
    exact ⟨false, rfl, hp'.out, Below.refl _ _⟩

/-- The cells of an array of plain data, element by element. -/
theorem row_at {w : World} {g : Nat} {cur : Array Value} {n i : Nat} {x : Value} {e : TypeId} {xs : List Value} (hb : w.heap[g]? = some (.cells cur e (0, 0))) (ht : cur.toList.take n = xs) (hx : xs[i]? = some x) : w.cell? ⟨g, i, none⟩ = some x := by
  have hi : i < xs.length := (List.getElem?_eq_some_iff.1 hx).1
  rw [← ht] at hx hi
  have hn : i < n := by simp at hi; omega
  rw [List.getElem?_take_of_lt hn] at hx
  simp [World.cell?, hb, ← Array.getElem?_toList, hx]

set_option maxRecDepth 100000 in
set_option maxHeartbeats 4000000 in
theorem match_arr (f t : V) (w : World) (g g' c c' : Nat) (cur cur' : Array Value) (xs ys : List Value) (n : Nat) (hb : w.heap[g]? = some (.cells cur 20 (0, 0))) (hb' : w.heap[g']? = some (.cells cur' 20 (0, 0)))
    (ht : cur.toList.take n = xs) (ht' : cur'.toList.take n = ys) (hn : xs.length = n) (hn' : ys.length = n) (hlm : n ≤ 1000000)
    (P : Nat → Prop) (hcall : ∀ (i : Nat) x y, xs[i]? = some x → ys[i]? = some y → ∀ wr, Below w.heap.size w wr → Calls Try.prog 28 #[x, y] wr (IffB (P i) wr)) :
    Calls Try.prog 28 #[.iface 67 (.slice (some ⟨g, 0, none⟩) n c), .iface 67 (.slice (some ⟨g', 0, none⟩) n c')] w (IffB (∀ i, i < n → P i) w) := by
  have hglt : g < w.heap.size := (Array.getElem?_eq_some_iff.1 hb).1
  have hglt' : g' < w.heap.size := (Array.getElem?_eq_some_iff.1 hb').1
  have hb1 := Lib.hid hb
  have hb2 := Lib.hid hb'
  have ht1 := Lib.hid ht
  have ht2 := Lib.hid ht'
  have hn1 := Lib.hid hn
  have hn2 := Lib.hid hn'
  have H := Lib.hid hcall
  have hnn : ((n : Int) == (n : Int)) = true := by simp
  clear hb hb' ht ht' hcall hn hn'
  go_enter Try.func28, Try.ntmps28
  go_wp2_with fail
  go_loopw [165] (fun i wr => ∃ j : Nat, j ≤ n ∧ i = .int .i64 j ∧ Hid (∀ k, k < j → P k) ∧ Below w.heap.size w wr) (fun i _ => n - (intOf i).toNat)
  case atStart => exact ⟨0, Nat.zero_le _, rfl, fun k hk => by omega, Below.refl _ _⟩
  case round =>
    obtain ⟨j, hj, rfl, hg, hbel⟩ := hrel
    by_cases hlt : j < n
    · obtain ⟨x, hx⟩ : ∃ x, xs[j]? = some x := get_lt (by rw [hn1.out]; exact hlt)
      obtain ⟨y, hy⟩ : ∃ y, ys[j]? = some y := get_lt (by rw [hn2.out]; exact hlt)
      have q1 := row_at ((hbel.block g hglt).trans hb1.out) ht1.out hx
      have q2 := row_at ((hbel.block g' hglt').trans hb2.out) ht2.out hy
      have hx' := Lib.hid hx
      have hy' := Lib.hid hy
      clear hx hy
      go_wp2_with fail
      refine (H.out j x y hx'.out hy'.out wr hbel).mono ?_
      rintro e w2 ⟨r, rfl, hr, hb3⟩
      have hbel2 := hbel.trans (hb3.mono hbel.size)
      have hr' := Lib.hid hr
      clear q1 q2 hr
      cases r with
      | false =>
        go_wp2_with fail
        go_ret
        exact ⟨false, rfl, not_iff _ (fun h => by have := hr'.out.2 (h j hlt); cases this), hbel2⟩
      | true =>
        have hg' : Hid (∀ k, k < j + 1 → P k) := fun k hk => by
          by_cases hkj : k < j
          · exact hg.out k hkj
          · obtain rfl : k = j := by omega
            exact hr'.out.1 rfl
        clear hg hr'
        go_wp2_with fail
        go_roundw
        case rel => exact ⟨j + 1, by omega, by go_num, hg', hbel2⟩
        case measure => simp [intOf]; omega
    · have hfin : Hid (∀ i, i < n → P i) := fun i hi => hg.out i (by omega)
      clear hg
      go_wp2_with fail
      go_ret
      exact ⟨true, rfl, ⟨fun _ => hfin.out, fun _ => rfl⟩, hbel⟩

theorem below_setBlock' {B b : Nat} {w W : World} (h : Below B w W) (hb : B ≤ b) (o : Obj) : Below B w (setBlock W b o) :=
  ⟨h.os, h.tape, h.output, by simp [setBlock]; exact h.size, fun k hk => by
    simp only [setBlock, Array.getElem?_setIfInBounds]
    rw [if_neg (by omega)]
    exact h.block k hk⟩
theorem iterSeen_of {w : World} {r : Nat} {a : Option Nat} {b : Nat} {s : Array Nat} {c : Nat} (h : w.heap[r]? = some (.mapIter a b s c)) : w.iterSeen r = s := by
  unfold World.iterSeen; rw [h]
/-- Behind a step of a range. -/
theorem next_world {w0 wr w1 : World} {r b since c0 clock : Nat} {seen : Array Nat} {born : Nat} (hr : wr.heap[r]? = some (.mapIter (some b) since seen c0)) (hw1 : w1 = wr ∨ w1 = wr.drew) {B : Nat} (hbel : Below B w0 wr) (hB : B ≤ r) :
    (setBlock w1 r (.mapIter (some b) since (seen.push born) clock)).heap[r]? = some (.mapIter (some b) since (seen.push born) clock) ∧ Below B w0 (setBlock w1 r (.mapIter (some b) since (seen.push born) clock)) := by
  have hr1 : w1.heap[r]? = some (.mapIter (some b) since seen c0) := by rcases hw1 with rfl | rfl <;> exact hr
  have hb1 : Below B w0 w1 := by
    rcases hw1 with rfl | rfl
    · exact hbel
    · exact below_drew hbel
  exact ⟨by simp [setBlock, (Array.getElem?_eq_some_iff.1 hr1).1], below_setBlock' hb1 hB _⟩

theorem seen_step {es : Array MapEntry} {seen : Array Nat} {x : MapEntry} {P : Nat → Prop} (hn : (es.toList.map (·.born)).Nodup) (hxm : x ∈ es.toList) (hs : ∀ (i : Nat) e, es.toList[i]? = some e → seen.contains e.born = true → P i) (hx : ∀ i, es.toList[i]? = some x → P i) :
    ∀ (i : Nat) e, es.toList[i]? = some e → (seen.push x.born).contains e.born = true → P i := by
  intro i e he hc
  rw [contains_push] at hc
  cases h1 : seen.contains e.born with
  | true => exact hs i e he h1
  | false =>
    rw [h1] at hc
    simp only [Bool.false_or, beq_iff_eq] at hc
    have := born_inj hn (List.mem_of_getElem? he) hxm hc
    exact hx i (by rw [← this]; exact he)

set_option maxRecDepth 100000 in
set_option maxHeartbeats 4000000 in
theorem match_obj (w : World) (b b2 : Nat) (es : Array MapEntry) (clock : Nat) (ps : List (ByteArray × Value)) (hb : w.heap[b]? = some (.map es clock)) (hst : MapKept.Stamped es clock) (he : Ents ps es)
    (P : Nat → Prop) (hcall : ∀ (i : Nat) s v, ps[i]? = some (s, v) → ∀ wr, Below w.heap.size w wr → ∃ z, (Instr.lookup 54 (.map (some b2)) (.string s) false).run Try.prog wr = .ok z wr ∧ Calls Try.prog 28 #[v, z] wr (IffB (P i) wr)) :
    Calls Try.prog 28 #[.iface 54 (.map (some b)), .iface 54 (.map (some b2))] w (IffB (∀ i, i < ps.length → P i) w) := by
  have hblt : b < w.heap.size := (Array.getElem?_eq_some_iff.1 hb).1
  have hb1 := Lib.hid hb
  have hst1 := Lib.hid hst
  have he1 := Lib.hid he
  have H := Lib.hid hcall
  clear hb hst he hcall
  go_enter Try.func28, Try.ntmps28
  go_wp2_with (at_range; refine wpList_range_str _ rfl _ 54 rfl _ _ Try.underlying54 b es clock rfl hb1.out ?_)
  go_frame
  go_loopw [] (fun wr => ∃ (seen : Array Nat) (c0 : Nat), Hid (wr.heap[w.heap.size]? = some (.mapIter (some b) clock seen c0)) ∧ clock ≤ c0 ∧ Hid (∀ (i : Nat) e, es.toList[i]? = some e → seen.contains e.born = true → P i) ∧ Below w.heap.size w wr) (fun wr => (leftOf es (wr.iterSeen w.heap.size)).size)
  case atStart => exact ⟨#[], clock, heap_alloc_new _ _, Nat.le_refl _, fun i e he h => by simp at h, (Below.refl _ _).alloc (Nat.le_refl _) _⟩
  case round =>
    obtain ⟨seen, c0, hr, hc0, hs, hbel⟩ := hrel
    have hbr : Hid (wr.heap[b]? = some (.map es clock)) := (hbel.block b hblt).trans hb1.out
    have hold : Hid (∀ x ∈ es.toList, x.born < clock) := hst1.out.1
    go_wp2_with (at_next; refine wpList_next_str _ rfl _ rfl w.heap.size b clock c0 seen es clock ps rfl hr.out hbr.out hold.out hc0 he1.out ?_ ?_)
    · intro h0
      have hfin : Hid (∀ i, i < ps.length → P i) := fun i hi => by
        obtain ⟨e, he⟩ : ∃ e, es.toList[i]? = some e := get_lt (by have := he1.out.size; simp; omega)
        exact hs.out i e he (all_seen es seen (by simpa using h0) e (List.mem_of_getElem? he))
      clear h0 hs
      go_wp2_with fail
      go_ret
      exact ⟨true, rfl, ⟨fun _ => hfin.out, fun _ => rfl⟩, hbel⟩
    · intro x s v w1 hx0 hsv hxk hxv hw1
      have hx : x ∈ (leftOf es seen).toList := by simpa using hx0
      clear hx0
      have hnw := next_world (clock := clock) (born := x.born) hr.out hw1 hbel (Nat.le_refl _)
      have hsh := Lib.hid (left_shrinks es seen x hx)
      have hxm := Lib.hid (mem_left hx).1
      have hsn := Lib.hid (iterSeen_of hr.out)
      clear hr hbr
      generalize setBlock w1 w.heap.size (.mapIter (some b) clock (seen.push x.born) clock) = W1 at hnw ⊢
      obtain ⟨hr1, hbel1⟩ := hnw
      have hb3 : Hid (W1.heap[b]? = some (.map es clock)) := (hbel1.block b hblt).trans hb1.out
      have hen : (Instr.entry (.pointer (some ⟨w.heap.size, 0, none⟩))).run Try.prog W1 = .ok (.tuple #[.string s, v]) W1 := by
        rw [← hxk, ← hxv]
        exact run_entry_at W1 w.heap.size b clock seen es clock x hr1 hb3.out hxm.out hst1.out.2.1
      have hr1' := Lib.hid hr1
      obtain ⟨i, hi⟩ := List.getElem?_of_mem hxm.out
      have hpi : Hid (ps[i]? = some (s, v)) := by
        have h1 := congrArg (fun l => l[i]?) he1.out
        simp only [List.getElem?_map, hi] at h1
        cases hp : ps[i]? with
        | none => rw [hp] at h1; simp at h1
        | some p =>
          rw [hp] at h1
          simp [hxk, hxv] at h1
          show some p = _
          rw [h1.1, h1.2]
      have hi' := Lib.hid hi
      obtain ⟨z, hz, hca⟩ := H.out i s v hpi.out W1 hbel1
      have hca' := Lib.hid hca
      clear hr1 hi hx hsv hxk hxv hw1 hbel hca
      go_wp2_with fail
      refine hca'.out.mono ?_
      rintro e w2 ⟨r, rfl, hr, hb4⟩
      have hbel2 := hbel1.trans (hb4.mono hbel1.size)
      have hr2 : Hid (w2.heap[w.heap.size]? = some (.mapIter (some b) clock (seen.push x.born) clock)) := (hb4.block _ (Array.getElem?_eq_some_iff.1 hr1'.out).1).trans hr1'.out
      have hrP := Lib.hid hr
      clear hr hen hz hbel1 hb4
      cases r with
      | false =>
        go_wp2_with fail
        go_ret
        exact ⟨false, rfl, not_iff _ (fun h => by have := hrP.out.2 (h i (List.getElem?_eq_some_iff.1 hpi.out).1); cases this), hbel2⟩
      | true =>
        have hs' : Hid (∀ (i : Nat) e, es.toList[i]? = some e → (seen.push x.born).contains e.born = true → P i) :=
          seen_step hst1.out.2.1 hxm.out hs.out (fun i2 hi2 => by
            have hji : i2 = i := by
              have hnd : es.toList.Nodup := by
                have := hst1.out.2.1
                exact (List.pairwise_map.1 this).imp (fun h e => h (by rw [e]))
              exact (List.getElem?_inj (List.getElem?_eq_some_iff.1 hi2).1 hnd).1 (hi2.trans hi'.out.symm)
            rw [hji]; exact hrP.out.1 rfl)
        clear hs hrP
        go_wp2_with fail
        go_roundw
        case rel => exact ⟨_, clock, hr2, Nat.le_refl _, hs', hbel2⟩
        case measure => rw [iterSeen_of hr2.out, hsn.out]; exact hsh.out

theorem no_of {v : V} (h : v.No 4) : v.kind ≠ 4 := by cases h; assumption
theorem no_member {v : V} (h : v.No 4) (ho : v.Ok) (k : ByteArray) : (v.member k).No 4 := by
  rcases v.member_cases k with e | e
  · rw [e]; exact V.No.of_null (by decide)
  · exact h.kids ho _ e

theorem match_any (f : V) : f.wt ≤ 1000000 → MatchAt f := by
  induction f using V.ind with
  | h f ih =>
  intro hwt t x y w lo hi lo' hi' hx hy h1 h2 hfo hto h4 t4
  have ih' : ∀ x ∈ f.l, MatchAt x := fun x hx => ih x hx (by have := wt_kid hx; omega)
  have hlm : f.l.length ≤ 1000000 := by have := wt_len f; omega
  clear ih
  by_cases h7 : f.kind = 7
  · cases hx with
    | arr _ _ _ h g cap cur xs cut hlo hg hhi hb hn hc1 hc2 hs ht hm hk =>
      have hcm := cut_mono hm
      by_cases ht7 : t.kind = 7
      · cases hy with
        | arr _ _ _ h' g' cap' cur' ys cut' hlo' hg' hhi' hb' hn' hc1' hc2' hs' ht' hm' hk' =>
          have hcm' := cut_mono hm'
          by_cases hlen : f.l.length = t.l.length
          · rw [← hlen] at hn' ht' ⊢
            refine (match_arr f t w g g' cap cap' cur cur' xs ys f.l.length hb hb' ht ht' hn hn' hlm (fun i => ∀ x y, f.l[i]? = some x → t.l[i]? = some y → Fit x y) (fun i X Y hX hY wr hbel => ?_)).mono ?_
            · have hi1 : i < f.l.length := by rw [← hn]; exact (List.getElem?_eq_some_iff.1 hX).1
              obtain ⟨x1, hx1⟩ := get_lt hi1
              obtain ⟨y1, hy1⟩ : ∃ y1, t.l[i]? = some y1 := get_lt (by omega)
              have p1 := hk i x1 X hx1 hX
              have p2 := hk' i y1 Y hy1 hY
              have e1 : cut (i + 1) ≤ w.heap.size := by have := hcm (i + 1) f.l.length (by omega) (by omega); omega
              have e2 : cut' (i + 1) ≤ w.heap.size := by have := hcm' (i + 1) t.l.length (by omega) (by omega); omega
              refine (ih' x1 (get_mem hx1) y1 X Y wr (p1.bel (hbel.mono e1)) (p2.bel (hbel.mono e2)) (Nat.le_trans e1 hbel.size) (Nat.le_trans e2 hbel.size) (hfo.kids _ (get_mem hx1)) (hto.kids _ (get_mem hy1)) (h4.kids hfo _ (get_mem hx1)) (t4.kids hto _ (get_mem hy1))).mono ?_
              rintro e w' ⟨r, rfl, hr, hb5⟩
              refine ⟨r, rfl, hr.trans ⟨fun h x y hx hy => ?_, fun h => h x1 y1 hx1 hy1⟩, hb5⟩
              obtain rfl := Option.some.inj (hx1.symm.trans hx)
              obtain rfl := Option.some.inj (hy1.symm.trans hy)
              exact h
            · rintro e w' ⟨r, rfl, hr, hb5⟩
              refine ⟨r, rfl, hr.trans ?_, hb5⟩
              rw [fit_arr h7]
              exact ⟨fun h => ⟨ht7, hlen, fun i x y hx hy => h i (List.getElem?_eq_some_iff.1 hx).1 x y hx hy⟩, fun h i hi x y hx hy => h.2.2 i x y hx hy⟩
          · exact match_arr_no _ _ _ _ _ _ (fun hf => hlen ((fit_arr h7).1 hf).2.1) (Or.inr ⟨_, _, _, rfl, fun e => hlen e.symm⟩)
        | _ => omega
      · exact match_arr_no _ _ _ _ _ _ (fun hf => ht7 ((fit_arr h7).1 hf).1) (Or.inl (hy.other ⟨fun _ => by decide, fun _ => by decide, fun _ => by decide, fun _ => by decide, by omega, fun _ => by decide⟩))
    | _ => omega
  by_cases h8 : f.kind = 8
  · cases hx with
    | obj _ _ _ h b ps cut hlo hg hhi hb hkeys hn hm hk =>
      have hcm := cut_mono hm
      by_cases ht8 : t.kind = 8
      · cases hy with
        | obj _ _ _ h' b' ps' cut' hlo' hg' hhi' hb' hkeys' hn' hm' hk' =>
          have hcm' := cut_mono hm'
          obtain ⟨es, clock, hbe, hst, hen⟩ := hb
          have hb'lt := hb'.lt
          refine (match_obj w b b' es clock ps hbe hst hen (fun i => ∀ k x, f.keys[i]? = some k → f.l[i]? = some x → Fit x (t.member k)) (fun i s v hp wr hbel => ?_)).mono ?_
          · have hi1 : i < f.l.length := by rw [← hn]; exact (List.getElem?_eq_some_iff.1 hp).1
            obtain ⟨x1, hx1⟩ := get_lt hi1
            have e1 : cut (i + 1) ≤ w.heap.size := by have := hcm (i + 1) f.l.length (by omega) (by omega); omega
            have p1 := (hk i x1 (s, v) hx1 hp).bel (hbel.mono e1)
            have hki : f.keys[i]? = some s := by rw [← hkeys]; simp [hp]
            have hy2 : PT wr lo' hi' t (.iface 54 (.map (some b'))) := (PT.obj _ _ _ h' b' ps' cut' hlo' hg' hhi' hb' hkeys' hn' hm' hk').bel (hbel.mono h2)
            cases hy2 with
            | obj _ _ _ _ _ qs cut2 hlo2 hg2 hhi2 hb2 hkeys2 hn2 hm2 hk2 =>
            obtain ⟨z, hz, pz⟩ := PT.lookup hb2 hkeys2 hn2 hlo2 hg2 hhi2 hm2 hk2 s
            refine ⟨z, hz, (ih' x1 (get_mem hx1) (t.member s) v z wr p1 pz (Nat.le_trans e1 hbel.size) (Nat.le_trans h2 hbel.size) (hfo.kids _ (get_mem hx1)) (hto.member s) (h4.kids hfo _ (get_mem hx1)) (no_member t4 hto s)).mono ?_⟩
            rintro e w' ⟨r, rfl, hr, hb5⟩
            refine ⟨r, rfl, hr.trans ⟨fun h k x hk hx => ?_, fun h => h s x1 hki hx1⟩, hb5⟩
            obtain rfl := Option.some.inj (hx1.symm.trans hx)
            obtain rfl := Option.some.inj (hki.symm.trans hk)
            exact h
          · rintro e w' ⟨r, rfl, hr, hb5⟩
            refine ⟨r, rfl, hr.trans ?_, hb5⟩
            rw [fit_obj h8]
            exact ⟨fun h => ⟨ht8, fun i k x hk hx => h i (by rw [hn]; exact (List.getElem?_eq_some_iff.1 hx).1) k x hk hx⟩, fun h i hi k x hk hx => h.2 i k x hk hx⟩
        | _ => omega
      · exact match_obj_no _ _ _ _ (fun hf => ht8 ((fit_obj h8).1 hf).1) (hy.other ⟨fun _ => by decide, fun _ => by decide, fun _ => by decide, fun _ => by decide, fun _ => by decide, by omega⟩)
    | _ => omega
  · refine (match_leaf f t x y w hx hy hfo hto h7 h8 (no_of h4) (no_of t4)).mono ?_
    intro e w' h
    obtain ⟨r, rfl, hr, hb⟩ := h.below
    exact ⟨r, rfl, hr.trans (fit_leaf h7 h8).symm, hb⟩
end Go.Proofs.Ytpdcoipfpffhnaa
