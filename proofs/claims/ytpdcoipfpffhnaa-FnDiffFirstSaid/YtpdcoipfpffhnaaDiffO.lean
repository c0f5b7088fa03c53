/-
  alt.diff at two objects. Conditions: none.
-/
import Derived.Test.YtpdcoipfpffhnaaDiffA
namespace Go.Proofs.Ytpdcoipfpffhnaa
open Go.ChangeShapes Go.WideShapes Go.ChangeAt Go.RowKit
open Go.ChangeMaps (setBlock)
set_option linter.unusedVariables false
attribute [local go_sem] tay_bool tam_bool tan_bool tay_int tam_int tan_int tay_int8 tam_int8 tan_int8 tay_int16 tam_int16 tan_int16 tay_int32 tam_int32 tan_int32 tay_int64 tam_int64 tan_int64 tay_uint tam_uint tan_uint tay_uint8 tam_uint8 tan_uint8 tay_uint16 tam_uint16 tan_uint16 tay_uint32 tam_uint32 tan_uint32 tay_uint64 tam_uint64 tan_uint64 tay_float32 tam_float32 tan_float32 tay_float64 tam_float64 tan_float64 tay_string tam_string tan_string tay_sl tam_sl tan_sl tay_mp tam_mp tan_mp tay_fil tam_fil tan_fil tay_gint tam_gint tan_gint tay_gfl tam_gfl tan_gfl
/-- A map whose keys are among P's, all of must's among them. -/
def KeysIn (w : World) (m : Nat) (P must : ByteArray → Prop) : Prop := ∃ qs, HasMap w m qs ∧ (∀ q ∈ qs, P q.1) ∧ ∀ k, must k → ∃ v, (k, v) ∈ qs
theorem KeysIn.put {w : World} {m : Nat} {P must : ByteArray → Prop} (h : KeysIn w m P must) {s : ByteArray} (hP : P s) :
    ∃ o, (Instr.mapUpdate 114 (.map (some m)) (.string s) (.bool true)).run Try.prog w = .ok () (setBlock w m o) ∧ KeysIn (setBlock w m o) m P (fun k => must k ∨ k = s) := by
  obtain ⟨qs, hm, hq, hk⟩ := h
  by_cases hin : ∃ v, (s, v) ∈ qs
  · obtain ⟨v0, hv0⟩ := hin
    obtain ⟨o, hrun, hm2, _⟩ := update_old (P := Try.prog) (t := 114) Try.underlying114 Try.underlying9 hm (.bool true) hv0
    refine ⟨o, hrun, _, hm2, fun q hq' => ?_, fun k hk' => ?_⟩
    · have : q.1 ∈ (putAt qs s (.bool true)).map (·.1) := List.mem_map_of_mem hq'
      rw [putAt_keys] at this
      obtain ⟨q', h1, h2⟩ := List.mem_map.1 this
      rw [← h2]; exact hq q' h1
    · have hex : ∃ v, (k, v) ∈ qs := by
        rcases hk' with h | rfl
        · exact hk k h
        · exact ⟨v0, hv0⟩
      obtain ⟨v, hv⟩ := hex
      have : k ∈ (putAt qs s (.bool true)).map (·.1) := by rw [putAt_keys]; exact List.mem_map.2 ⟨(k, v), hv, rfl⟩
      obtain ⟨q', h1, h2⟩ := List.mem_map.1 this
      exact ⟨q'.2, by rw [← h2]; exact h1⟩
  · obtain ⟨o, hrun, hm2⟩ := update_new (P := Try.prog) (t := 114) Try.underlying114 Try.underlying9 hm (.bool true) (s := s) (fun p hp e => hin ⟨p.2, by rw [← e]; exact hp⟩)
    refine ⟨o, hrun, _, hm2, fun q hq' => ?_, fun k hk' => ?_⟩
    · rcases List.mem_append.1 hq' with h | h
      · exact hq q h
      · rw [List.mem_singleton.1 h]; exact hP
    · rcases hk' with h | rfl
      · obtain ⟨v, hv⟩ := hk k h
        exact ⟨v, List.mem_append_left _ hv⟩
      · exact ⟨.bool true, by simp⟩
theorem KeysIn.same {w w1 : World} {m : Nat} {P must : ByteArray → Prop} (h : KeysIn w m P must) (hm : w1.heap[m]? = w.heap[m]?) : KeysIn w1 m P must := by
  obtain ⟨qs, h1, h2, h3⟩ := h
  exact ⟨qs, h1.same hm, h2, h3⟩
theorem KeysIn.mono {w : World} {m : Nat} {P Q must must' : ByteArray → Prop} (h : KeysIn w m P must) (h1 : ∀ k, P k → Q k) (h2 : ∀ k, must' k → must k) : KeysIn w m Q must' := by
  obtain ⟨qs, g1, g2, g3⟩ := h
  exact ⟨qs, g1, fun q hq => h1 _ (g2 q hq), fun k hk => g3 k (h2 k hk)⟩
theorem KeysIn.lt {w : World} {m : Nat} {P must : ByteArray → Prop} (h : KeysIn w m P must) : m < w.heap.size := by
  obtain ⟨qs, g1, _⟩ := h
  exact g1.lt
/-- The keys of a map's entries that were seen. -/
def SeenK (es : Array MapEntry) (seen : Array Nat) (k : ByteArray) : Prop := ∃ x ∈ es.toList, seen.contains x.born = true ∧ x.key = .string k
theorem seenK_push {es : Array MapEntry} {clock : Nat} (hst : MapKept.Stamped es clock) {seen : Array Nat} {x : MapEntry} {s : ByteArray} (hx : x ∈ es.toList) (hk : x.key = .string s) {k : ByteArray} (h : SeenK es (seen.push x.born) k) : SeenK es seen k ∨ k = s := by
  obtain ⟨y, hy, hc, hyk⟩ := h
  rw [contains_push] at hc
  cases h1 : seen.contains y.born with
  | true => exact Or.inl ⟨y, hy, h1, hyk⟩
  | false =>
    rw [h1] at hc
    simp only [Bool.false_or, beq_iff_eq] at hc
    have := born_inj hst.2.1 hy hx hc
    rw [this, hk] at hyk
    exact Or.inr (by simpa using hyk.symm)
theorem seenK_all {es : Array MapEntry} {seen : Array Nat} {ps : List (ByteArray × Value)} (he : Ents ps es) (h0 : (leftOf es seen).size = 0) {k : ByteArray} (hk : k ∈ ps.map (·.1)) : SeenK es seen k := by
  obtain ⟨p, hp, rfl⟩ := List.mem_map.1 hk
  obtain ⟨e, hm, h1, _⟩ := he.mem' hp
  exact ⟨e, hm, all_seen es seen h0 e hm, h1⟩

theorem ents_inj {es : Array MapEntry} {clock : Nat} {qs : List (ByteArray × Value)} (he : Ents qs es) (hst : MapKept.Stamped es clock) {x y : MapEntry} (hx : x ∈ es.toList) (hy : y ∈ es.toList) (hk : x.key = y.key) : x = y := by
  have hn := he.nodup hst
  obtain ⟨i, hi⟩ := List.getElem?_of_mem hx
  obtain ⟨j, hj⟩ := List.getElem?_of_mem hy
  have h1 := congrArg (fun l => l[i]?) he
  have h2 := congrArg (fun l => l[j]?) he
  simp only [List.getElem?_map, hi] at h1
  simp only [List.getElem?_map, hj] at h2
  cases hp : qs[i]? with
  | none => rw [hp] at h1; simp at h1
  | some p =>
    cases hq : qs[j]? with
    | none => rw [hq] at h2; simp at h2
    | some q =>
      rw [hp] at h1
      rw [hq] at h2
      simp at h1 h2
      have e : p.1 = q.1 := by have := (h1.1.symm.trans hk).trans h2.1; simpa using this
      have g1 : (qs.map (·.1))[i]? = some p.1 := by simp [hp]
      have g2 : (qs.map (·.1))[j]? = some p.1 := by simp [hq, e]
      have hij := (List.getElem?_inj (List.getElem?_eq_some_iff.1 g1).1 hn).1 (g1.trans g2.symm)
      subst hij
      exact Option.some.inj (hi.symm.trans hj)
theorem setCell_keep (w : World) {k h i : Nat} (hk : k ≠ h) (u : Value) : (w.setCell ⟨h, i, none⟩ u).heap[k]? = w.heap[k]? := by
  simp only [World.setCell, Array.getElem?_modify]
  rw [if_neg (fun e => hk e.symm)]
theorem next_other {wr w1 : World} (hw1 : w1 = wr ∨ w1 = wr.drew) {r k : Nat} (o : Obj) (hk : k ≠ r) : (setBlock w1 r o).heap[k]? = wr.heap[k]? := by
  have hh : w1.heap = wr.heap := by rcases hw1 with rfl | rfl <;> rfl
  simp only [setBlock, Array.getElem?_setIfInBounds]
  rw [if_neg (fun e => hk e.symm), hh]
theorem setBlock_other (w : World) {r k : Nat} (o : Obj) (hk : k ≠ r) : (setBlock w r o).heap[k]? = w.heap[k]? := by
  simp only [setBlock, Array.getElem?_setIfInBounds]
  rw [if_neg (fun e => hk e.symm)]

set_option maxRecDepth 100000 in
set_option maxHeartbeats 16000000 in
theorem diff_obj (one : Bool) (w : World) (b b2 : Nat) (es es2 : Array MapEntry) (clock clock2 : Nat) (ps ps2 : List (ByteArray × Value)) (hb : w.heap[b]? = some (.map es clock)) (hst : MapKept.Stamped es clock) (he : Ents ps es)
    (hb2 : w.heap[b2]? = some (.map es2 clock2)) (hst2 : MapKept.Stamped es2 clock2) (he2 : Ents ps2 es2)
    (D : List Step → Prop) (Dk : ByteArray → List Step → Prop) (hD : ∀ k q, (k ∈ ps.map (·.1) ∨ k ∈ ps2.map (·.1)) → Dk k q → D (.key k :: q))
    (hDn : (∀ k, (k ∈ ps.map (·.1) ∨ k ∈ ps2.map (·.1)) → ∀ q, ¬ Dk k q) → ∀ p, ¬ D p) (hDl : ∀ k q, Dk k q → q.length ≤ 1000000)
    (hone : one = true ∨ ∀ k k', (k ∈ ps.map (·.1) ∨ k ∈ ps2.map (·.1)) → (k' ∈ ps.map (·.1) ∨ k' ∈ ps2.map (·.1)) → k = k')
    (hcall : ∀ k, (k ∈ ps.map (·.1) ∨ k ∈ ps2.map (·.1)) → ∀ wr, Below w.heap.size w wr → ∃ z z2, (Instr.lookup 54 (.map (some b)) (.string k) false).run Try.prog wr = .ok z wr ∧ (Instr.lookup 54 (.map (some b2)) (.string k) false).run Try.prog wr = .ok z2 wr ∧
      Calls Try.prog 69 #[z, z2, .bool one, .slice none 0 0] wr (Told (Dk k) wr)) :
    Calls Try.prog 69 #[.iface 54 (.map (some b)), .iface 54 (.map (some b2)), .bool one, .slice none 0 0] w (Told D w) := by
  have hblt : b < w.heap.size := (Array.getElem?_eq_some_iff.1 hb).1
  have hblt2 : b2 < w.heap.size := (Array.getElem?_eq_some_iff.1 hb2).1
  have hb1 := Lib.hid hb
  have hst1 := Lib.hid hst
  have he1 := Lib.hid he
  have hb1' := Lib.hid hb2
  have hst1' := Lib.hid hst2
  have he1' := Lib.hid he2
  have H := Lib.hid hcall
  have hD' := Lib.hid hD
  have hDn' := Lib.hid hDn
  have hDl' := Lib.hid hDl
  have hone' := Lib.hid hone
  obtain ⟨i0, hi, hz0, hz1, hz2⟩ := info_parts info_path
  obtain ⟨i1, hi1, hz01, hz11, hz21⟩ := info_parts info_any
  clear hb hst he hb2 hst2 he2 hcall hD hDn hDl hone
  have hK0 : Hid (KeysIn (w.alloc (.map #[] 0)) w.heap.size (fun k => k ∈ ps.map (·.1) ∨ k ∈ ps2.map (·.1)) (fun _ => False)) := ⟨[], HasMap.made w, fun q hq => by simp at hq, fun k hk => hk.elim⟩
  have hbA : Hid ((w.alloc (.map #[] 0)).heap[b]? = some (.map es clock)) := (Below.heap_alloc _ _ _ hblt).trans hb1.out
  have hmm := @run_makeMap Try.prog
  have hmne0 : w.heap.size ≠ w.heap.size + 1 := by omega
  go_enter Try.func69, Try.ntmps69
  go_wp2_with (at_range; refine wpList_range_str _ rfl _ 54 rfl _ _ Try.underlying54 b es clock rfl hbA.out ?_)
  go_loopw [] (fun wr => ∃ (seen : Array Nat) (c0 : Nat), Hid (wr.heap[w.heap.size + 1]? = some (.mapIter (some b) clock seen c0)) ∧ clock ≤ c0 ∧ Hid (KeysIn wr w.heap.size (fun k => k ∈ ps.map (·.1) ∨ k ∈ ps2.map (·.1)) (fun k => False ∨ SeenK es seen k)) ∧ Below w.heap.size w wr) (fun wr => (leftOf es (wr.iterSeen (w.heap.size + 1))).size)
  case atStart => exact ⟨#[], clock, by have := heap_alloc_new (w.alloc (.map #[] 0)) (.mapIter (some b) clock #[] clock); rw [alloc_size] at this; exact this, Nat.le_refl _, (hK0.out.same (Below.heap_alloc _ _ _ (by simp))).mono (fun _ h => h) (fun k h => by rcases h with h | ⟨_, _, h, _⟩; exact h; simp at h), below_two w _ _⟩
  case round =>
    obtain ⟨seen, c0, hr, hc0, hk, hbel⟩ := hrel
    have hbr : Hid (wr.heap[b]? = some (.map es clock)) := (hbel.block b hblt).trans hb1.out
    have hold : Hid (∀ x ∈ es.toList, x.born < clock) := hst1.out.1
    go_wp2_with (at_next; refine wpList_next_str _ rfl _ rfl (w.heap.size + 1) b clock c0 seen es clock ps rfl hr.out hbr.out hold.out hc0 he1.out ?_ ?_)
    · intro h0
      have hkA : Hid (KeysIn wr w.heap.size (fun k => k ∈ ps.map (·.1) ∨ k ∈ ps2.map (·.1)) (fun k => k ∈ ps.map (·.1))) := hk.out.mono (fun _ h => h) (fun k h => Or.inr (seenK_all he1.out (by simpa using h0) h))
      have hbB : Hid (wr.heap[b2]? = some (.map es2 clock2)) := (hbel.block b2 hblt2).trans hb1'.out
      clear hk h0 hr hbr
      obtain ⟨V1, hV1⟩ : ∃ V1, V1 = wr := ⟨_, rfl⟩
      subst hV1
      have hmlt := hkA.out.lt
      have hmne : w.heap.size ≠ V1.heap.size := by omega
      have hbel1 := hbel
      go_wp2_with (at_range; refine wpList_range_str _ rfl _ 54 rfl _ _ Try.underlying54 b2 es2 clock2 rfl hbB.out ?_)
      go_loopw [] (fun wr => ∃ (seen : Array Nat) (c0 : Nat), Hid (wr.heap[V1.heap.size]? = some (.mapIter (some b2) clock2 seen c0)) ∧ clock2 ≤ c0 ∧ Hid (KeysIn wr w.heap.size (fun k => k ∈ ps.map (·.1) ∨ k ∈ ps2.map (·.1)) (fun k => k ∈ ps.map (·.1) ∨ SeenK es2 seen k)) ∧ Below w.heap.size w wr) (fun wr => (leftOf es2 (wr.iterSeen (V1.heap.size))).size)
      case atStart => exact ⟨#[], clock2, heap_alloc_new _ _, Nat.le_refl _, (hkA.out.same (Below.heap_alloc _ _ _ hmlt)).mono (fun _ h => h) (fun k h => by rcases h with h | ⟨_, _, h, _⟩; exact h; simp at h), hbel1.trans ((below_alloc V1 _).mono (Nat.le_of_lt hmlt))⟩
      case round =>
        obtain ⟨seen, c0, hr, hc0, hk, hbel⟩ := hrel
        have hbr : Hid (wr.heap[b2]? = some (.map es2 clock2)) := (hbel.block b2 hblt2).trans hb1'.out
        have hold : Hid (∀ x ∈ es2.toList, x.born < clock2) := hst1'.out.1
        go_wp2_with (at_next; refine wpList_next_str _ rfl _ rfl (V1.heap.size) b2 clock2 c0 seen es2 clock2 ps2 rfl hr.out hbr.out hold.out hc0 he1'.out ?_ ?_)
        · intro h0
          have hkA : Hid (KeysIn wr w.heap.size (fun k => k ∈ ps.map (·.1) ∨ k ∈ ps2.map (·.1)) (fun k => k ∈ ps.map (·.1) ∨ k ∈ ps2.map (·.1))) := hk.out.mono (fun _ h => h) (fun k h => by
            rcases h with h | h
            · exact Or.inl h
            · exact Or.inr (seenK_all he1'.out (by simpa using h0) h))
          clear hk h0 hr hbr
          obtain ⟨V2, hV2⟩ : ∃ V2, V2 = wr := ⟨_, rfl⟩
          subst hV2
          obtain ⟨qs, hmq, hqP0, hqM0⟩ := hkA.out
          obtain ⟨es3, clock3, hm30, hst30, he30⟩ := hmq
          have hm3 := Lib.hid hm30
          have hst3 := Lib.hid hst30
          have he3 := Lib.hid he30
          have hqP := Lib.hid hqP0
          have hqM := Lib.hid hqM0
          have hmlt2 : w.heap.size < V2.heap.size := (Array.getElem?_eq_some_iff.1 hm30).1
          have hr3le : w.heap.size ≤ V2.heap.size := Nat.le_of_lt hmlt2
          have hbelV := hbel
          clear hm30 hst30 he30 hqP0 hqM0 hbel hbel1 hkA hmlt hmne
          go_wp2_with (at_range; refine wpList_range_str _ rfl _ 114 rfl _ _ Try.underlying114 w.heap.size es3 clock3 rfl hm3.out ?_)
          go_loopw [8] (fun o wr => ∃ (seen : Array Nat) (c0 : Nat), Hid (wr.heap[V2.heap.size]? = some (.mapIter (some w.heap.size) clock3 seen c0)) ∧ clock3 ≤ c0 ∧ Hid (wr.heap[w.heap.size]? = some (.map es3 clock3)) ∧ Below w.heap.size w wr ∧ ((o = .slice none 0 0 ∧ Hid (∀ k, SeenK es3 seen k → ∀ q, ¬ Dk k q)) ∨ (∃ g1 c1 p, o = .slice (some ⟨g1, 0, none⟩) 1 c1 ∧ one = false ∧ Hid (D p ∧ OneP wr w.heap.size g1 c1 p) ∧ Hid (∀ e ∈ es3.toList, seen.contains e.born = true)))) (fun _ wr => (leftOf es3 (wr.iterSeen (V2.heap.size))).size)
          case atStart => exact ⟨#[], clock3, heap_alloc_new _ _, Nat.le_refl _, (Below.heap_alloc _ _ _ hmlt2).trans hm3.out, hbelV.trans ((below_alloc V2 _).mono hr3le), Or.inl ⟨rfl, fun k h => by obtain ⟨_, _, h, _⟩ := h; simp at h⟩⟩
          case round =>
            obtain ⟨seen, c0, hr, hc0, hmr, hbel, hcase⟩ := hrel
            have hold : Hid (∀ x ∈ es3.toList, x.born < clock3) := hst3.out.1
            rcases hcase with ⟨rfl, hs⟩ | ⟨g1, c1, p, rfl, hof, hDO, hall⟩
            · go_wp2_with (at_next; refine wpList_next_str _ rfl _ rfl (V2.heap.size) w.heap.size clock3 c0 seen es3 clock3 qs rfl hr.out hmr.out hold.out hc0 he3.out ?_ ?_)
              · intro h0
                have hfin : Hid (∀ p, ¬ D p) := hDn'.out (fun k hk q => hs.out k (by
                  obtain ⟨v, hv⟩ := hqM.out k hk
                  exact seenK_all he3.out (by simpa using h0) (List.mem_map.2 ⟨(k, v), hv, rfl⟩)) q)
                clear h0 hs
                go_wp2_with fail
                go_ret
                exact ⟨hbel, Or.inl ⟨rfl, hfin.out⟩⟩
              · intro x s v w1 hx0 hsv hxk hxv hw1
                have hx : x ∈ (leftOf es3 seen).toList := by simpa using hx0
                clear hx0
                have hnw := next_world (clock := clock3) (born := x.born) hr.out hw1 hbel hr3le
                have hmW1 := (next_other hw1 (.mapIter (some w.heap.size) clock3 (seen.push x.born) clock3) (by omega : w.heap.size ≠ V2.heap.size)).trans hmr.out
                have hsh := Lib.hid (left_shrinks es3 seen x hx)
                have hxm := Lib.hid (mem_left hx).1
                have hsn := Lib.hid (iterSeen_of hr.out)
                clear hr hmr
                generalize setBlock w1 (V2.heap.size) (.mapIter (some w.heap.size) clock3 (seen.push x.born) clock3) = W1 at hnw hmW1 ⊢
                obtain ⟨hr1, hbel1⟩ := hnw
                have hen : (Instr.entry (.pointer (some ⟨V2.heap.size, 0, none⟩))).run Try.prog W1 = .ok (.tuple #[.string s, v]) W1 := by
                  rw [← hxk, ← hxv]
                  exact run_entry_at W1 (V2.heap.size) w.heap.size clock3 seen es3 clock3 x hr1 hmW1 hxm.out hst3.out.2.1
                have hsP0 := hqP.out (s, v) hsv
                have hr3lt : V2.heap.size < W1.heap.size := (Array.getElem?_eq_some_iff.1 hr1).1
                have hmW : w.heap.size < W1.heap.size := by omega
                have hr1' := Lib.hid hr1
                have hm1' := Lib.hid hmW1
                have hxk' := Lib.hid hxk
                have hs' : Hid ((∀ q, ¬ Dk s q) → ∀ k, SeenK es3 (seen.push x.born) k → ∀ q, ¬ Dk k q) := fun hno k h q => by
                  rcases seenK_push hst3.out hxm.out hxk h with h | rfl
                  · exact hs.out k h q
                  · exact hno q
                have hsP := Lib.hid hsP0
                obtain ⟨z, z2, hlz, hlz2, hca0⟩ := H.out s hsP0 W1 hbel1
                have hca := Lib.hid hca0
                clear hr1 hmW1 hx hsv hxk hxv hw1 hbel hs hsP0 hca0
                go_wp2_with fail
                refine (ignoreKey_nil s W1).mono ?_
                rintro e w' ⟨rfl, rfl⟩
                go_wp2_with fail
                refine hca.out.mono ?_
                rintro e w2 ⟨hb2', hcase⟩
                have hsz2 := hb2'.size
                have hbel2 := hbel1.trans (hb2'.mono hbel1.size)
                clear hlz hlz2 hen
                rcases hcase with ⟨rfl, hno⟩ | ⟨g1, c1, p, rfl, hp, hone2⟩
                · have hs2 : Hid (∀ k, SeenK es3 (seen.push x.born) k → ∀ q, ¬ Dk k q) := hs'.out hno
                  have hr2 : Hid (w2.heap[V2.heap.size]? = some (.mapIter (some w.heap.size) clock3 (seen.push x.born) clock3)) := (hb2'.block _ hr3lt).trans hr1'.out
                  have hm2 : Hid (w2.heap[w.heap.size]? = some (.map es3 clock3)) := (hb2'.block _ hmW).trans hm1'.out
                  clear hno
                  go_wp2_with fail
                  refine wp_loop_rounds 2 ?_
                  rw [rounds_succ]
                  go_wp2_with fail
                  go_roundw
                  case rel => exact ⟨_, clock3, hr2, Nat.le_refl _, hm2, hbel2, Or.inl ⟨rfl, hs2⟩⟩
                  case measure => rw [iterSeen_of hr2.out, hsn.out]; exact hsh.out
                · have hDj : Hid (D (.key s :: p)) := hD'.out s p hsP.out hp
                  have hpl : p.length ≤ 1000000 := hDl'.out s p hp
                  obtain ⟨h1, d1, hne1, hro, hri⟩ := hone2
                  obtain ⟨g1lt, hBg, hc1, hcell1, _⟩ := row_cells hro
                  have k1 := hcell1 0 _ rfl
                  obtain ⟨h1lt, hBh, hd1, hcell2, hfz⟩ := row_cells hri
                  have hri' := Lib.hid hri
                  have hfz0 := hfz 0
                  have hcell2' := Lib.hid hcell2
                  have hkb : Hid (∀ k, k < W1.heap.size → w2.heap[k]? = W1.heap[k]?) := fun k hk => hb2'.block k hk
                  clear hp hro hri hcell1 hcell2 hfz hb2'
                  by_cases hp0 : p = []
                  · subst hp0
                    have k2 : w2.cell? ⟨h1, 0, none⟩ = some .nilIface := hcell2'.out 0 _ rfl
                    replace k1 : w2.cell? ⟨g1, 0, none⟩ = some (.slice (some ⟨h1, 0, none⟩) 1 d1) := k1
                    go_wp2_with fail
                    refine wp_loop_rounds 2 ?_
                    rw [rounds_succ]
                    go_wp2_with (at_builtin; refine wpList_append_own_at _ rfl _ _ 66 rfl w.heap.size 68 i0 (.slice none 0 0) 1 24 Try.underlying66 hi hz0 hz1 hz2 rfl (by decide) (.slice none 0 0) 0 [] rfl (World.ownsRow_nil _ _ _ _) ⟨w2.heap.size, 0, none⟩ 1 1 [.slice (some ⟨h1, 0, none⟩) 1 d1] rfl rfl ?c1 ?c2 ?c3 ?c4 ?c5 ?_)
                    case c1 => exact cell_set_new _ _ _ _ _
                    case c2 => intro u hu; rw [List.mem_singleton.1 hu]; rfl
                    case c3 => unfold maxLen; omega
                    case c4 => omega
                    case c5 => simp; omega
                    intro v' w' hown hgr hne hat
                    obtain ⟨gx, cx, hvx, -⟩ := hown.form (by omega)
                    subst hvx
                    have hown := Lib.hid hown
                    have hgr := Lib.hid hgr
                    have hat := Lib.hid hat
                    clear hne
                    have hat2 : (Value.slice (some ⟨gx, 0, none⟩) 1 cx).ownBlock = none ∨ (Value.slice (some ⟨gx, 0, none⟩) 1 cx).ownBlock = some (w2.heap.size + 1) := by simpa [alloc_size, setCell_size, Value.ownBlock] using hat.out
                    obtain ⟨p, hpe⟩ : ∃ p : List Step, p = [] := ⟨_, rfl⟩
                    have hDj : Hid (D (.key s :: p)) := by rw [hpe]; exact hDj.out
                    have hfinB : Below w.heap.size w w' := ((below_set hbel2 (by show w.heap.size ≤ h1; omega) _).alloc (by rw [setCell_size]; omega) _).grown hgr.out (by rw [alloc_size, setCell_size]; omega) (fun k hk => by cases hk)
                    have hfinO : Hid (OneP w' w.heap.size gx cx (.key s :: p)) := by rw [hpe]; exact slice_told (s := .key s) hri'.out (by omega) hown.out hgr.out hat2
                    have hkp : ∀ k, w.heap.size ≤ k → k < W1.heap.size → k ≠ h1 → w'.heap[k]? = W1.heap[k]? := fun k _ hk hkh => ((hgr.out.block k (by rw [alloc_size, setCell_size]; omega) (by intro e; cases e)).trans (Below.heap_alloc _ _ _ (by rw [setCell_size]; omega))).trans ((setCell_keep _ hkh _).trans (hkb.out k hk))
                    cases one with
                    | true =>
                      go_wp2_with fail
                      go_ret
                      exact ⟨hfinB, Or.inr ⟨gx, cx, _, rfl, hDj.out, hfinO.out⟩⟩
                    | false =>
                      have hall : Hid (∀ e ∈ es3.toList, (seen.push x.born).contains e.born = true) := fun e he => by
                        rcases hone'.out with h | h
                        · cases h
                        · obtain ⟨q, hq1, hq2, _⟩ := he3.out.mem he
                          have hqs := h q.1 s (hqP.out q hq1) hsP
                          rw [ents_inj he3.out hst3.out he hxm.out (hq2.trans (by rw [hqs, hxk']))]
                          rw [contains_push]
                          simp
                      have hr4 : Hid (w'.heap[V2.heap.size]? = some (.mapIter (some w.heap.size) clock3 (seen.push x.born) clock3)) := (hkp _ hr3le hr3lt (by omega)).trans hr1'.out
                      have hm4 : Hid (w'.heap[w.heap.size]? = some (.map es3 clock3)) := (hkp _ (Nat.le_refl _) hmW (by omega)).trans hm1'.out
                      go_wp2_with fail
                      rw [rounds_succ]
                      go_wp2_with fail
                      go_roundw
                      case rel => exact ⟨_, clock3, hr4, Nat.le_refl _, hm4, hfinB, Or.inr ⟨gx, cx, _, (by first | rfl | trivial), (by first | rfl | trivial), ⟨hDj.out, hfinO.out⟩, hall⟩⟩
                      case measure => rw [iterSeen_of hr4.out, hsn.out]; exact hsh.out
                  · have htl : (told p).length ≤ 1000001 := by have := told_len p; omega
                    have htp := told_pos p
                    by_cases hl1 : (told p).length = 1
                    · obtain ⟨ty, u, hk2⟩ : ∃ ty u, w2.cell? ⟨h1, 0, none⟩ = some (.iface ty u) := by
                        cases p with
                        | nil => exact absurd rfl hp0
                        | cons s r => cases s <;> exact ⟨_, _, hcell2'.out 0 _ rfl⟩
                      have hl2 : (((told p).length : Int) == 1) = true := by rw [beq_iff_eq]; omega
                      clear hl1
                      go_wp2_with fail
                      refine wp_loop_rounds 2 ?_
                      rw [rounds_succ]
                      go_wp2_with (at_builtin; refine wpList_append_own_at _ rfl _ _ 68 rfl w.heap.size 20 i1 .nilIface 1 16 Try.underlying68 hi1 hz01 hz11 hz21 rfl (by decide) (.slice (some ⟨w2.heap.size, 0, none⟩) 1 1) 1 [.iface 9 (.string s)] rfl (row_built w2 _ _ (by omega)) ⟨h1, 0, none⟩ (told p).length d1 (told p) rfl (by simp) ?n1 told_one ?n3 ?n4 ?n5 ?_)
                      case n1 => exact news_old hcell2'.out
                      case n3 => unfold maxLen; omega
                      case n4 => omega
                      case n5 => simp; omega
                      intro v3 w3 hown3 hgr3 hne3 hat3
                      obtain ⟨gy, cy, hvy, -⟩ := hown3.form (by omega)
                      subst hvy
                      have hown3 := Lib.hid hown3
                      have hsz3 : w2.heap.size + 1 ≤ w3.heap.size := by have := hgr3.size; rw [alloc_size] at this; exact this
                      have hkeep3 : Hid (∀ k, w.heap.size ≤ k → k < w2.heap.size → w3.heap[k]? = w2.heap[k]?) := fun k _ hk => (hgr3.block k (by rw [alloc_size]; omega) (by simp [Value.ownBlock]; omega)).trans (Below.heap_alloc _ _ _ hk)
                      have hbel3 := (hbel2.trans ((below_alloc w2 _).mono (by omega))).grown hgr3 (by rw [alloc_size]; omega) (fun k hk => by simp [Value.ownBlock] at hk; omega)
                      clear hne3 hat3 hgr3 k1
                      go_wp2_with (at_builtin; refine wpList_append_own_at _ rfl _ _ 66 rfl w.heap.size 68 i0 (.slice none 0 0) 1 24 Try.underlying66 hi hz0 hz1 hz2 rfl (by decide) (.slice none 0 0) 0 [] rfl (World.ownsRow_nil _ _ _ _) ⟨w3.heap.size, 0, none⟩ 1 1 [.slice (some ⟨gy, 0, none⟩) (1 + (told p).length) cy] rfl rfl ?c1 ?c2 ?c3 ?c4 ?c5 ?_)
                      case c1 => exact cell_one_new _ _ _
                      case c2 => intro u hu; rw [List.mem_singleton.1 hu]; rfl
                      case c3 => unfold maxLen; omega
                      case c4 => omega
                      case c5 => simp; omega
                      intro v' w' hown hgr hne hat
                      obtain ⟨gx, cx, hvx, -⟩ := hown.form (by omega)
                      subst hvx
                      have hown := Lib.hid hown
                      have hgr := Lib.hid hgr
                      have hat := Lib.hid hat
                      clear hne
                      have hat2 : (Value.slice (some ⟨gx, 0, none⟩) 1 cx).ownBlock = none ∨ (Value.slice (some ⟨gx, 0, none⟩) 1 cx).ownBlock = some (w3.heap.size + 1) := by simpa [alloc_size, setCell_size, Value.ownBlock] using hat.out
                      have hfinB : Below w.heap.size w w' := (hbel3.trans ((below_alloc w3 _).mono (by omega))).grown hgr.out (by rw [alloc_size]; omega) (fun k hk => by cases hk)
                      have hfinO : Hid (OneP w' w.heap.size gx cx (.key s :: p)) := cons_told (s := .key s) hp0 hown3.out hown.out hgr.out hat2
                      have hkp : ∀ k, w.heap.size ≤ k → k < W1.heap.size → k ≠ h1 → w'.heap[k]? = W1.heap[k]? := fun k h1' hk hkh => ((hgr.out.block k (by rw [alloc_size]; omega) (by intro e; cases e)).trans (Below.heap_alloc _ _ _ (by omega))).trans ((hkeep3.out k h1' (by omega)).trans (hkb.out k hk))
                      cases one with
                      | true =>
                        go_wp2_with fail
                        go_ret
                        exact ⟨hfinB, Or.inr ⟨gx, cx, _, rfl, hDj.out, hfinO.out⟩⟩
                      | false =>
                        have hall : Hid (∀ e ∈ es3.toList, (seen.push x.born).contains e.born = true) := fun e he => by
                          rcases hone'.out with h | h
                          · cases h
                          · obtain ⟨q, hq1, hq2, _⟩ := he3.out.mem he
                            have hqs := h q.1 s (hqP.out q hq1) hsP
                            rw [ents_inj he3.out hst3.out he hxm.out (hq2.trans (by rw [hqs, hxk']))]
                            rw [contains_push]
                            simp
                        have hr4 : Hid (w'.heap[V2.heap.size]? = some (.mapIter (some w.heap.size) clock3 (seen.push x.born) clock3)) := (hkp _ hr3le hr3lt (by omega)).trans hr1'.out
                        have hm4 : Hid (w'.heap[w.heap.size]? = some (.map es3 clock3)) := (hkp _ (Nat.le_refl _) hmW (by omega)).trans hm1'.out
                        go_wp2_with fail
                        rw [rounds_succ]
                        go_wp2_with fail
                        go_roundw
                        case rel => exact ⟨_, clock3, hr4, Nat.le_refl _, hm4, hfinB, Or.inr ⟨gx, cx, _, (by first | rfl | trivial), (by first | rfl | trivial), ⟨hDj.out, hfinO.out⟩, hall⟩⟩
                        case measure => rw [iterSeen_of hr4.out, hsn.out]; exact hsh.out
                    · have hl2 : (((told p).length : Int) == 1) = false := by rw [beq_eq_false_iff_ne]; omega
                      go_wp2_with fail
                      refine wp_loop_rounds 2 ?_
                      rw [rounds_succ]
                      go_wp2_with (at_builtin; refine wpList_append_own_at _ rfl _ _ 68 rfl w.heap.size 20 i1 .nilIface 1 16 Try.underlying68 hi1 hz01 hz11 hz21 rfl (by decide) (.slice (some ⟨w2.heap.size, 0, none⟩) 1 1) 1 [.iface 9 (.string s)] rfl (row_built w2 _ _ (by omega)) ⟨h1, 0, none⟩ (told p).length d1 (told p) rfl (by simp) ?n1 told_one ?n3 ?n4 ?n5 ?_)
                      case n1 => exact news_old hcell2'.out
                      case n3 => unfold maxLen; omega
                      case n4 => omega
                      case n5 => simp; omega
                      intro v3 w3 hown3 hgr3 hne3 hat3
                      obtain ⟨gy, cy, hvy, -⟩ := hown3.form (by omega)
                      subst hvy
                      have hown3 := Lib.hid hown3
                      have hsz3 : w2.heap.size + 1 ≤ w3.heap.size := by have := hgr3.size; rw [alloc_size] at this; exact this
                      have hkeep3 : Hid (∀ k, w.heap.size ≤ k → k < w2.heap.size → w3.heap[k]? = w2.heap[k]?) := fun k _ hk => (hgr3.block k (by rw [alloc_size]; omega) (by simp [Value.ownBlock]; omega)).trans (Below.heap_alloc _ _ _ hk)
                      have hbel3 := (hbel2.trans ((below_alloc w2 _).mono (by omega))).grown hgr3 (by rw [alloc_size]; omega) (fun k hk => by simp [Value.ownBlock] at hk; omega)
                      clear hne3 hat3 hgr3 k1
                      go_wp2_with (at_builtin; refine wpList_append_own_at _ rfl _ _ 66 rfl w.heap.size 68 i0 (.slice none 0 0) 1 24 Try.underlying66 hi hz0 hz1 hz2 rfl (by decide) (.slice none 0 0) 0 [] rfl (World.ownsRow_nil _ _ _ _) ⟨w3.heap.size, 0, none⟩ 1 1 [.slice (some ⟨gy, 0, none⟩) (1 + (told p).length) cy] rfl rfl ?c1 ?c2 ?c3 ?c4 ?c5 ?_)
                      case c1 => exact cell_one_new _ _ _
                      case c2 => intro u hu; rw [List.mem_singleton.1 hu]; rfl
                      case c3 => unfold maxLen; omega
                      case c4 => omega
                      case c5 => simp; omega
                      intro v' w' hown hgr hne hat
                      obtain ⟨gx, cx, hvx, -⟩ := hown.form (by omega)
                      subst hvx
                      have hown := Lib.hid hown
                      have hgr := Lib.hid hgr
                      have hat := Lib.hid hat
                      clear hne
                      have hat2 : (Value.slice (some ⟨gx, 0, none⟩) 1 cx).ownBlock = none ∨ (Value.slice (some ⟨gx, 0, none⟩) 1 cx).ownBlock = some (w3.heap.size + 1) := by simpa [alloc_size, setCell_size, Value.ownBlock] using hat.out
                      have hfinB : Below w.heap.size w w' := (hbel3.trans ((below_alloc w3 _).mono (by omega))).grown hgr.out (by rw [alloc_size]; omega) (fun k hk => by cases hk)
                      have hfinO : Hid (OneP w' w.heap.size gx cx (.key s :: p)) := cons_told (s := .key s) hp0 hown3.out hown.out hgr.out hat2
                      have hkp : ∀ k, w.heap.size ≤ k → k < W1.heap.size → k ≠ h1 → w'.heap[k]? = W1.heap[k]? := fun k h1' hk hkh => ((hgr.out.block k (by rw [alloc_size]; omega) (by intro e; cases e)).trans (Below.heap_alloc _ _ _ (by omega))).trans ((hkeep3.out k h1' (by omega)).trans (hkb.out k hk))
                      cases one with
                      | true =>
                        go_wp2_with fail
                        go_ret
                        exact ⟨hfinB, Or.inr ⟨gx, cx, _, rfl, hDj.out, hfinO.out⟩⟩
                      | false =>
                        have hall : Hid (∀ e ∈ es3.toList, (seen.push x.born).contains e.born = true) := fun e he => by
                          rcases hone'.out with h | h
                          · cases h
                          · obtain ⟨q, hq1, hq2, _⟩ := he3.out.mem he
                            have hqs := h q.1 s (hqP.out q hq1) hsP
                            rw [ents_inj he3.out hst3.out he hxm.out (hq2.trans (by rw [hqs, hxk']))]
                            rw [contains_push]
                            simp
                        have hr4 : Hid (w'.heap[V2.heap.size]? = some (.mapIter (some w.heap.size) clock3 (seen.push x.born) clock3)) := (hkp _ hr3le hr3lt (by omega)).trans hr1'.out
                        have hm4 : Hid (w'.heap[w.heap.size]? = some (.map es3 clock3)) := (hkp _ (Nat.le_refl _) hmW (by omega)).trans hm1'.out
                        go_wp2_with fail
                        rw [rounds_succ]
                        go_wp2_with fail
                        go_roundw
                        case rel => exact ⟨_, clock3, hr4, Nat.le_refl _, hm4, hfinB, Or.inr ⟨gx, cx, _, (by first | rfl | trivial), (by first | rfl | trivial), ⟨hDj.out, hfinO.out⟩, hall⟩⟩
                        case measure => rw [iterSeen_of hr4.out, hsn.out]; exact hsh.out
            · go_wp2_with (at_next; refine wpList_next_str _ rfl _ rfl (V2.heap.size) w.heap.size clock3 c0 seen es3 clock3 qs rfl hr.out hmr.out hold.out hc0 he3.out ?_ ?_)
              · intro h0
                clear h0
                go_wp2_with fail
                go_ret
                exact ⟨hbel, Or.inr ⟨g1, c1, p, rfl, hDO.out.1, hDO.out.2⟩⟩
              · intro x s v w1 hx0 hsv hxk hxv hw1
                have hx : x ∈ (leftOf es3 seen).toList := by simpa using hx0
                exact absurd (hall.out x (mem_left hx).1) (by rw [(mem_left hx).2]; simp)
        · intro x s v w1 hx0 hsv hxk hxv hw1
          have hx : x ∈ (leftOf es2 seen).toList := by simpa using hx0
          clear hx0
          have hnw := next_world (clock := clock2) (born := x.born) hr.out hw1 hbel (Nat.le_of_lt hmlt)
          have hkW := hk.out.same (next_other hw1 (.mapIter (some b2) clock2 (seen.push x.born) clock2) (hmne : w.heap.size ≠ V1.heap.size))
          have hsh := Lib.hid (left_shrinks es2 seen x hx)
          have hxm := Lib.hid (mem_left hx).1
          have hsn := Lib.hid (iterSeen_of hr.out)
          clear hr hbr hk
          generalize setBlock w1 (V1.heap.size) (.mapIter (some b2) clock2 (seen.push x.born) clock2) = W1 at hnw hkW ⊢
          obtain ⟨hr1, hbel1⟩ := hnw
          have hb3 : Hid (W1.heap[b2]? = some (.map es2 clock2)) := (hbel1.block b2 hblt2).trans hb1'.out
          have hen : (Instr.entry (.pointer (some ⟨V1.heap.size, 0, none⟩))).run Try.prog W1 = .ok (.tuple #[.string s, v]) W1 := by
            rw [← hxk, ← hxv]
            exact run_entry_at W1 (V1.heap.size) b2 clock2 seen es2 clock2 x hr1 hb3.out hxm.out hst1'.out.2.1
          obtain ⟨o, hrun, hk2⟩ := hkW.put (s := s) (Or.inr (List.mem_map.2 ⟨(s, v), hsv, rfl⟩))
          have hr2 : Hid ((setBlock W1 w.heap.size o).heap[V1.heap.size]? = some (.mapIter (some b2) clock2 (seen.push x.born) clock2)) := (setBlock_other W1 o (fun e => hmne e.symm)).trans hr1
          have hbel2 := below_setBlock' hbel1 (Nat.le_refl _) o
          have hk3 : Hid (KeysIn (setBlock W1 w.heap.size o) w.heap.size (fun k => k ∈ ps.map (·.1) ∨ k ∈ ps2.map (·.1)) (fun k => k ∈ ps.map (·.1) ∨ SeenK es2 (seen.push x.born) k)) := hk2.mono (fun _ h => h) (fun k h => by
            rcases h with h | h
            · exact Or.inl (Or.inl h)
            · rcases seenK_push hst1'.out hxm.out hxk h with h | h
              · exact Or.inl (Or.inr h)
              · exact Or.inr h)
          clear hr1 hx hsv hxk hxv hw1 hbel hkW hk2
          go_wp2_with fail
          go_roundw
          case rel => exact ⟨_, clock2, hr2, Nat.le_refl _, hk3, hbel2⟩
          case measure => rw [iterSeen_of hr2.out, hsn.out]; exact hsh.out

    · intro x s v w1 hx0 hsv hxk hxv hw1
      have hx : x ∈ (leftOf es seen).toList := by simpa using hx0
      clear hx0
      have hnw := next_world (clock := clock) (born := x.born) hr.out hw1 hbel (Nat.le_succ _)
      have hkW := hk.out.same (next_other hw1 (.mapIter (some b) clock (seen.push x.born) clock) (hmne0 : w.heap.size ≠ w.heap.size + 1))
      have hsh := Lib.hid (left_shrinks es seen x hx)
      have hxm := Lib.hid (mem_left hx).1
      have hsn := Lib.hid (iterSeen_of hr.out)
      clear hr hbr hk
      generalize setBlock w1 (w.heap.size + 1) (.mapIter (some b) clock (seen.push x.born) clock) = W1 at hnw hkW ⊢
      obtain ⟨hr1, hbel1⟩ := hnw
      have hb3 : Hid (W1.heap[b]? = some (.map es clock)) := (hbel1.block b hblt).trans hb1.out
      have hen : (Instr.entry (.pointer (some ⟨w.heap.size + 1, 0, none⟩))).run Try.prog W1 = .ok (.tuple #[.string s, v]) W1 := by
        rw [← hxk, ← hxv]
        exact run_entry_at W1 (w.heap.size + 1) b clock seen es clock x hr1 hb3.out hxm.out hst1.out.2.1
      obtain ⟨o, hrun, hk2⟩ := hkW.put (s := s) (Or.inl (List.mem_map.2 ⟨(s, v), hsv, rfl⟩))
      have hr2 : Hid ((setBlock W1 w.heap.size o).heap[w.heap.size + 1]? = some (.mapIter (some b) clock (seen.push x.born) clock)) := (setBlock_other W1 o (fun e => hmne0 e.symm)).trans hr1
      have hbel2 := below_setBlock' hbel1 (Nat.le_refl _) o
      have hk3 : Hid (KeysIn (setBlock W1 w.heap.size o) w.heap.size (fun k => k ∈ ps.map (·.1) ∨ k ∈ ps2.map (·.1)) (fun k => False ∨ SeenK es (seen.push x.born) k)) := hk2.mono (fun _ h => h) (fun k h => by
        rcases h with h | h
        · exact Or.inl (Or.inl h)
        · rcases seenK_push hst1.out hxm.out hxk h with h | h
          · exact Or.inl (Or.inr h)
          · exact Or.inr h)
      clear hr1 hx hsv hxk hxv hw1 hbel hkW hk2
      go_wp2_with fail
      go_roundw
      case rel => exact ⟨_, clock, hr2, Nat.le_refl _, hk3, hbel2⟩
      case measure => rw [iterSeen_of hr2.out, hsn.out]; exact hsh.out

end Go.Proofs.Ytpdcoipfpffhnaa
