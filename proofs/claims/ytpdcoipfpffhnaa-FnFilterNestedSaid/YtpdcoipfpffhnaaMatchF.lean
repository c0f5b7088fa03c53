/-
  alt.match: whether data match a filter. Conditions: none.
-/
import Derived.Test.YtpdcoipfpffhnaaMatch
namespace Go.Proofs.Ytpdcoipfpffhnaa
open Go.ChangeShapes Go.WideShapes Go.ChangeAt Go.RowKit
open Go.ChangeMaps (setBlock)
set_option linter.unusedVariables false
attribute [local go_sem] tay_bool tam_bool tan_bool tay_int tam_int tan_int tay_int8 tam_int8 tan_int8 tay_int16 tam_int16 tan_int16 tay_int32 tam_int32 tan_int32 tay_int64 tam_int64 tan_int64 tay_uint tam_uint tan_uint tay_uint8 tam_uint8 tan_uint8 tay_uint16 tam_uint16 tan_uint16 tay_uint32 tam_uint32 tan_uint32 tay_uint64 tam_uint64 tan_uint64 tay_float32 tam_float32 tan_float32 tay_float64 tam_float64 tan_float64 tay_string tam_string tan_string tay_sl tam_sl tan_sl tay_mp tam_mp tan_mp tay_fil tam_fil tan_fil tay_gint tam_gint tan_gint tay_gfl tam_gfl tan_gfl
set_option maxRecDepth 100000 in
set_option maxHeartbeats 2000000 in
theorem fmatch_nil (x : Value) (w : World) (P : Prop) (h : (x = .nilIface ∧ P) ∨ (∃ t u, x = .iface t u ∧ ¬ P)) :
    Calls Try.prog 68 #[x, .nilIface] w (IffBool P w) := by
  rcases h with ⟨rfl, hp⟩ | ⟨t, u, rfl, hp⟩
  · have hp' := Lib.hid hp
    clear hp
    go_enter Try.func68, Try.ntmps68
    go_wp2_with fail
    go_ret
    exact ⟨true, rfl, ⟨fun _ => hp'.out, fun _ => rfl⟩, rfl⟩
  · have hp' := Lib.hid hp
    clear hp
    go_enter Try.func68, Try.ntmps68
    go_wp2_with fail
    go_ret
    exact ⟨false, rfl, ⟨fun h => (by cases h), fun h => absurd h hp'.out⟩, rfl⟩

set_option maxRecDepth 100000 in
set_option maxHeartbeats 2000000 in
theorem fmatch_bool (c : Bool) (x : Value) (w : World) (P : Prop) (h : (∃ b, x = .iface 4 (.bool b) ∧ (b = c ↔ P)) ∨ (Other 4 x ∧ ¬ P)) :
    Calls Try.prog 68 #[x, .iface 4 (.bool c)] w (IffBool P w) := by
  rcases h with ⟨b, rfl, hp⟩ | ⟨ho, hp⟩
  · have hp' := Lib.hid hp
    clear hp
    cases b <;> cases c
    all_goals
      go_enter Try.func68, Try.ntmps68
      go_wp2_with fail
      go_ret
      exact ⟨_, rfl, by rw [← hp'.out]; try simp, rfl⟩
  · have hp' := Lib.hid (not_iff P hp)
    clear hp
    rcases ho with rfl | ⟨t, u, rfl, ht⟩
    all_goals
      go_enter Try.func68, Try.ntmps68
      go_wp2_with fail
      go_ret
      exact ⟨false, rfl, hp'.out, rfl⟩

set_option maxRecDepth 100000 in
set_option maxHeartbeats 2000000 in
theorem fmatch_str (c : ByteArray) (x : Value) (w : World) (P : Prop) (h : (∃ b, x = .iface 9 (.string b) ∧ (b = c ↔ P)) ∨ (Other 9 x ∧ ¬ P)) :
    Calls Try.prog 68 #[x, .iface 9 (.string c)] w (IffBool P w) := by
  rcases h with ⟨b, rfl, hp⟩ | ⟨ho, hp⟩
  · have hp' := Lib.hid hp
    clear hp
    cases hbc : (b.toList == c.toList) with
    | true =>
      have hP : Hid P := hp'.out.1 ((Lib.bytes_beq_iff _ _).1 hbc)
      go_enter Try.func68, Try.ntmps68
      go_wp2_with fail
      go_ret
      exact ⟨true, rfl, ⟨fun _ => hP.out, fun _ => rfl⟩, rfl⟩
    | false =>
      have hP : Hid ¬ P := fun h => (Lib.bytes_beq_false_iff _ _).1 hbc (hp'.out.2 h)
      go_enter Try.func68, Try.ntmps68
      go_wp2_with fail
      go_ret
      exact ⟨false, rfl, not_iff P hP.out, rfl⟩
  · have hp' := Lib.hid (not_iff P hp)
    clear hp
    rcases ho with rfl | ⟨t, u, rfl, ht⟩
    all_goals
      go_enter Try.func68, Try.ntmps68
      go_wp2_with fail
      go_ret
      exact ⟨false, rfl, hp'.out, rfl⟩

/-- No number, a filter's node among them. -/
def NotI (x : Value) : Prop := NoNum x ∨ ∃ b, x = .iface 56 (.map b)
set_option maxRecDepth 100000 in
theorem asInt_fil (y : Value) (w : World) (h : NotI y) :
    Calls Try.prog 62 #[y] w fun e w' => e = .returned (.tuple #[.int .i64 0, .bool false]) ∧ w = w' := by
  rcases h with h | ⟨b, rfl⟩
  · exact asInt_not y w h
  · go_enter Try.func62, Try.ntmps62
    go_wp2_with fail
    go_ret2
    exact ⟨rfl, rfl⟩

set_option maxRecDepth 100000 in
set_option maxHeartbeats 2000000 in
theorem fmatch_int (c : Int) (x : Value) (w : World) (P : Prop) (h : (∃ b, x = .iface 2 (.int .i64 b) ∧ (b = c ↔ P)) ∨ (NotI x ∧ ¬ P)) :
    Calls Try.prog 68 #[x, .iface 2 (.int .i64 c)] w (IffBool P w) := by
  rcases h with ⟨b, rfl, hp⟩ | ⟨ho, hp⟩
  · have hp' := Lib.hid hp
    clear hp
    by_cases hbc : b = c
    · have hP : Hid P := hp'.out.1 hbc
      have hb1 : (c == b) = true := by rw [hbc]; simp
      clear hbc
      go_enter Try.func68, Try.ntmps68
      go_wp2_with (go_at_call 62; refine (asInt_int _ _).mono ?_; rintro e w' ⟨rfl, rfl⟩)
      go_ret
      exact ⟨true, rfl, ⟨fun _ => hP.out, fun _ => rfl⟩, rfl⟩
    · have hP : Hid ¬ P := fun h => hbc (hp'.out.2 h)
      have hb1 : (c == b) = false := beq_eq_false_iff_ne.2 (fun e => hbc e.symm)
      clear hbc
      go_enter Try.func68, Try.ntmps68
      go_wp2_with (go_at_call 62; refine (asInt_int _ _).mono ?_; rintro e w' ⟨rfl, rfl⟩)
      go_ret
      exact ⟨false, rfl, not_iff P hP.out, rfl⟩
  · have hp' := Lib.hid (not_iff P hp)
    clear hp
    go_enter Try.func68, Try.ntmps68
    go_wp2_with fail
    refine (asInt_int c w).mono ?_
    rintro e w' ⟨rfl, rfl⟩
    go_wp2_with fail
    refine (asInt_fil x w ho).mono ?_
    rintro e w' ⟨rfl, rfl⟩
    go_wp2_with fail
    go_ret
    exact ⟨false, rfl, hp'.out, rfl⟩

set_option maxRecDepth 100000 in
set_option maxHeartbeats 2000000 in
theorem fmatch_obj_no (b : Option Nat) (x : Value) (w : World) (P : Prop) (hP : ¬ P) (ho : Other 56 x) :
    Calls Try.prog 68 #[x, .iface 54 (.map b)] w (IffB P w) := by
  have hp' := Lib.hid (not_iff P hP)
  clear hP
  rcases ho with rfl | ⟨t, u, rfl, ht⟩
  all_goals
    go_enter Try.func68, Try.ntmps68
    go_wp2_with fail
    go_ret
    exact ⟨false, rfl, hp'.out, Below.refl _ _⟩

set_option maxRecDepth 100000 in
set_option maxHeartbeats 4000000 in
theorem fmatch_arr (x : Value) (w : World) (g c : Nat) (cur : Array Value) (xs : List Value) (n : Nat) (hb : w.heap[g]? = some (.cells cur 20 (0, 0)))
    (ht : cur.toList.take n = xs) (hn : xs.length = n) (hlm : n ≤ 1000000)
    (P : Nat → Prop) (hcall : ∀ (i : Nat) y, xs[i]? = some y → ∀ wr, Below w.heap.size w wr → Calls Try.prog 68 #[x, y] wr (IffB (P i) wr)) :
    Calls Try.prog 68 #[x, .iface 67 (.slice (some ⟨g, 0, none⟩) n c)] w (IffB (∃ i, i < n ∧ P i) w) := by
  have hglt : g < w.heap.size := (Array.getElem?_eq_some_iff.1 hb).1
  have hb1 := Lib.hid hb
  have ht1 := Lib.hid ht
  have hn1 := Lib.hid hn
  have H := Lib.hid hcall
  clear hb ht hcall hn
  go_enter Try.func68, Try.ntmps68
  go_wp2_with fail
  go_loopw [4, 58] (fun s i wr => ∃ j : Nat, j ≤ n ∧ s = .bool false ∧ i = .int .i64 j ∧ Hid (∀ k, k < j → ¬ P k) ∧ Below w.heap.size w wr) (fun _ i _ => n - (intOf i).toNat)
  case atStart => exact ⟨0, Nat.zero_le _, rfl, rfl, fun k hk => by omega, Below.refl _ _⟩
  case round =>
    obtain ⟨j, hj, rfl, rfl, hg, hbel⟩ := hrel
    by_cases hlt : j < n
    · obtain ⟨y, hy⟩ : ∃ y, xs[j]? = some y := get_lt (by rw [hn1.out]; exact hlt)
      have q1 := row_at ((hbel.block g hglt).trans hb1.out) ht1.out hy
      have hy' := Lib.hid hy
      clear hy
      go_wp2_with fail
      refine (H.out j y hy'.out wr hbel).mono ?_
      rintro e w2 ⟨r, rfl, hr, hb3⟩
      have hbel2 := hbel.trans (hb3.mono hbel.size)
      have hr' := Lib.hid hr
      clear q1 hr
      cases r with
      | true =>
        go_wp2_with fail
        go_ret
        exact ⟨true, rfl, ⟨fun _ => ⟨j, hlt, hr'.out.1 (by first | rfl | trivial)⟩, fun _ => rfl⟩, hbel2⟩
      | false =>
        have hg' : Hid (∀ k, k < j + 1 → ¬ P k) := fun k hk => by
          by_cases hkj : k < j
          · exact hg.out k hkj
          · obtain rfl : k = j := by omega
            exact fun hp => by have := hr'.out.2 hp; cases this
        clear hg hr'
        go_wp2_with fail
        go_roundw
        case rel => exact ⟨j + 1, by omega, rfl, by go_num, hg', hbel2⟩
        case measure => simp [intOf]; omega
    · have hfin : Hid (¬ ∃ i, i < n ∧ P i) := fun ⟨i, hi, hp⟩ => hg.out i (by omega) hp
      clear hg
      go_wp2_with fail
      go_ret
      exact ⟨false, rfl, not_iff _ hfin.out, hbel⟩

set_option maxRecDepth 100000 in
set_option maxHeartbeats 4000000 in
theorem fmatch_obj (w : World) (b b2 : Nat) (es : Array MapEntry) (clock : Nat) (ps : List (ByteArray × Value)) (hb : w.heap[b]? = some (.map es clock)) (hst : MapKept.Stamped es clock) (he : Ents ps es)
    (P : Nat → Prop) (hcall : ∀ (i : Nat) s v, ps[i]? = some (s, v) → ∀ wr, Below w.heap.size w wr → ∃ z, (Instr.lookup 54 (.map (some b2)) (.string s) false).run Try.prog wr = .ok z wr ∧ Calls Try.prog 68 #[v, z] wr (IffB (P i) wr)) :
    Calls Try.prog 68 #[.iface 56 (.map (some b)), .iface 54 (.map (some b2))] w (IffB (∀ i, i < ps.length → P i) w) := by
  have hblt : b < w.heap.size := (Array.getElem?_eq_some_iff.1 hb).1
  have hb1 := Lib.hid hb
  have hst1 := Lib.hid hst
  have he1 := Lib.hid he
  have H := Lib.hid hcall
  clear hb hst he hcall
  go_enter Try.func68, Try.ntmps68
  go_wp2_with (at_range; refine wpList_range_str _ rfl _ 56 rfl _ _ Try.underlying56 b es clock rfl hb1.out ?_)
  go_frame
  go_loopw [4] (fun s wr => s = .bool true ∧ ∃ (seen : Array Nat) (c0 : Nat), Hid (wr.heap[w.heap.size]? = some (.mapIter (some b) clock seen c0)) ∧ clock ≤ c0 ∧ Hid (∀ (i : Nat) e, es.toList[i]? = some e → seen.contains e.born = true → P i) ∧ Below w.heap.size w wr) (fun _ wr => (leftOf es (wr.iterSeen w.heap.size)).size)
  case atStart => exact ⟨rfl, #[], clock, heap_alloc_new _ _, Nat.le_refl _, fun i e he h => by simp at h, (Below.refl _ _).alloc (Nat.le_refl _) _⟩
  case round =>
    obtain ⟨rfl, seen, c0, hr, hc0, hs, hbel⟩ := hrel
    have hbr : Hid (wr.heap[b]? = some (.map es clock)) := (hbel.block b hblt).trans hb1.out
    have hold : Hid (∀ x ∈ es.toList, x.born < clock) := hst1.out.1
    go_wp2_with (at_next; refine wpList_next_str _ rfl _ rfl w.heap.size b clock c0 seen es clock ps rfl hr.out hbr.out hold.out hc0 he1.out ?_ ?_)
    · intro h0
      have hfin : Hid (∀ i, i < ps.length → P i) := fun i hi => by
        obtain ⟨e, he⟩ : ∃ e, es.toList[i]? = some e := get_lt (by have := he1.out.size; simp; omega)
        exact hs.out i e he (all_seen es seen (by simpa using h0) e (List.mem_of_getElem? he))
      clear h0 hs
      go_wp2_with fail
      go_ret
      exact ⟨true, rfl, ⟨fun _ => hfin.out, fun _ => rfl⟩, hbel⟩
    · intro x s v w1 hx0 hsv hxk hxv hw1
      have hx : x ∈ (leftOf es seen).toList := by simpa using hx0
      clear hx0
      have hnw := next_world (clock := clock) (born := x.born) hr.out hw1 hbel (Nat.le_refl _)
      have hsh := Lib.hid (left_shrinks es seen x hx)
      have hxm := Lib.hid (mem_left hx).1
      have hsn := Lib.hid (iterSeen_of hr.out)
      clear hr hbr
      generalize setBlock w1 w.heap.size (.mapIter (some b) clock (seen.push x.born) clock) = W1 at hnw ⊢
      obtain ⟨hr1, hbel1⟩ := hnw
      have hb3 : Hid (W1.heap[b]? = some (.map es clock)) := (hbel1.block b hblt).trans hb1.out
      have hen : (Instr.entry (.pointer (some ⟨w.heap.size, 0, none⟩))).run Try.prog W1 = .ok (.tuple #[.string s, v]) W1 := by
        rw [← hxk, ← hxv]
        exact run_entry_at W1 w.heap.size b clock seen es clock x hr1 hb3.out hxm.out hst1.out.2.1
      have hr1' := Lib.hid hr1
      obtain ⟨i, hi⟩ := List.getElem?_of_mem hxm.out
      have hpi : Hid (ps[i]? = some (s, v)) := by
        have h1 := congrArg (fun l => l[i]?) he1.out
        simp only [List.getElem?_map, hi] at h1
        cases hp : ps[i]? with
        | none => rw [hp] at h1; simp at h1
        | some p =>
          rw [hp] at h1
          simp [hxk, hxv] at h1
          show some p = _
          rw [h1.1, h1.2]
      have hi' := Lib.hid hi
      obtain ⟨z, hz, hca⟩ := H.out i s v hpi.out W1 hbel1
      have hca' := Lib.hid hca
      clear hr1 hi hx hsv hxk hxv hw1 hbel hca
      go_wp2_with fail
      refine hca'.out.mono ?_
      rintro e w2 ⟨r, rfl, hr, hb4⟩
      have hbel2 := hbel1.trans (hb4.mono hbel1.size)
      have hr2 : Hid (w2.heap[w.heap.size]? = some (.mapIter (some b) clock (seen.push x.born) clock)) := (hb4.block _ (Array.getElem?_eq_some_iff.1 hr1'.out).1).trans hr1'.out
      have hrP := Lib.hid hr
      clear hr hen hz hbel1 hb4
      cases r with
      | false =>
        go_wp2_with fail
        go_ret
        exact ⟨false, rfl, not_iff _ (fun h => by have := hrP.out.2 (h i (List.getElem?_eq_some_iff.1 hpi.out).1); cases this), hbel2⟩
      | true =>
        have hs' : Hid (∀ (i : Nat) e, es.toList[i]? = some e → (seen.push x.born).contains e.born = true → P i) :=
          seen_step hst1.out.2.1 hxm.out hs.out (fun i2 hi2 => by
            have hji : i2 = i := by
              have hnd : es.toList.Nodup := by
                have := hst1.out.2.1
                exact (List.pairwise_map.1 this).imp (fun h e => h (by rw [e]))
              exact (List.getElem?_inj (List.getElem?_eq_some_iff.1 hi2).1 hnd).1 (hi2.trans hi'.out.symm)
            rw [hji]; exact hrP.out.1 rfl)
        clear hs hrP
        go_wp2_with fail
        go_roundw
        case rel => exact ⟨rfl, _, clock, hr2, Nat.le_refl _, hs', hbel2⟩
        case measure => rw [iterSeen_of hr2.out, hsn.out]; exact hsh.out
end Go.Proofs.Ytpdcoipfpffhnaa
