/-
  Maps with string keys, as the pairs that they hold in the order of their laying: made, written, asked, ranged over, deleted from. Conditions: none.
-/
import Derived.Maps.RangeWalk
import Derived.Maps.OwnOps
import Derived.Maps.OwnSet
import Derived.WalkKit
import Derived.ProofKit
import Derived.Lib.Hide
namespace Go.Proofs.YthagnngckegekaaGreatDoor
open Go.MapKept
open Go.ChangeMaps (setBlock heap_setBlock_same heap_setBlock_other)
set_option linter.unusedVariables false

/-- The entries are these pairs. -/
def Ents (ps : List (ByteArray × Value)) (es : Array MapEntry) : Prop := es.toList.map (fun e => (e.key, e.val)) = ps.map (fun p => (Value.string p.1, p.2))
/-- Block b is a map of these pairs. -/
def HasMap (w : World) (b : Nat) (ps : List (ByteArray × Value)) : Prop := ∃ es clock, w.heap[b]? = some (.map es clock) ∧ Stamped es clock ∧ Ents ps es

theorem HasMap.lt {w : World} {b : Nat} {ps : List (ByteArray × Value)} (h : HasMap w b ps) : b < w.heap.size := by
  obtain ⟨es, clock, hb, _⟩ := h
  exact (Array.getElem?_eq_some_iff.1 hb).1
theorem HasMap.same {w w1 : World} {b : Nat} {ps : List (ByteArray × Value)} (h : HasMap w b ps) (hm : w1.heap[b]? = w.heap[b]?) : HasMap w1 b ps := by
  obtain ⟨es, clock, hb, hs, he⟩ := h
  exact ⟨es, clock, hm.trans hb, hs, he⟩
theorem HasMap.made (w : World) : HasMap (w.alloc (.map #[] 0)) w.heap.size [] := ⟨#[], 0, heap_alloc_new w _, stamped_empty 0, rfl⟩
theorem Ents.size {ps : List (ByteArray × Value)} {es : Array MapEntry} (h : Ents ps es) : es.size = ps.length := by
  have := congrArg List.length h
  simpa using this
theorem Ents.nodup {ps : List (ByteArray × Value)} {es : Array MapEntry} {clock : Nat} (h : Ents ps es) (hs : Stamped es clock) : (ps.map (·.1)).Nodup := by
  have h1 : es.toList.map (·.key) = (ps.map (·.1)).map Value.string := by
    have := congrArg (List.map Prod.fst) h
    simpa [List.map_map, Function.comp_def] using this
  have h2 := hs.2.2
  rw [h1] at h2
  exact (List.pairwise_map.1 h2).imp (fun hne e => hne (by rw [e]))
theorem Ents.mem {ps : List (ByteArray × Value)} {es : Array MapEntry} (h : Ents ps es) {e : MapEntry} (he : e ∈ es.toList) : ∃ p ∈ ps, e.key = .string p.1 ∧ e.val = p.2 := by
  have : (e.key, e.val) ∈ es.toList.map (fun e => (e.key, e.val)) := List.mem_map.2 ⟨e, he, rfl⟩
  rw [h] at this
  obtain ⟨p, hp, e1⟩ := List.mem_map.1 this
  simp only [Prod.mk.injEq] at e1
  exact ⟨p, hp, e1.1.symm, e1.2.symm⟩
theorem Ents.mem' {ps : List (ByteArray × Value)} {es : Array MapEntry} (h : Ents ps es) {p : ByteArray × Value} (hp : p ∈ ps) : ∃ e ∈ es.toList, e.key = .string p.1 ∧ e.val = p.2 := by
  have : (Value.string p.1, p.2) ∈ ps.map (fun p => (Value.string p.1, p.2)) := List.mem_map.2 ⟨p, hp, rfl⟩
  rw [← h] at this
  obtain ⟨e, he, e1⟩ := List.mem_map.1 this
  simp only [Prod.mk.injEq] at e1
  exact ⟨e, he, e1.1, e1.2⟩
theorem HasMap.nodup {w : World} {b : Nat} {ps : List (ByteArray × Value)} (h : HasMap w b ps) : (ps.map (·.1)).Nodup := by
  obtain ⟨es, clock, hb, hs, he⟩ := h
  exact he.nodup hs

/-! ### asked -/
theorem beq_no {a b : ByteArray} (h : a ≠ b) : (a == b) = false := by
  cases hc : a == b with
  | false => rfl
  | true => exact absurd ((bytes_beq a b).1 hc) h
theorem findNow_none (k : ByteArray) : ∀ (l : List MapEntry) (ps : List (ByteArray × Value)) (i : Nat), l.map (fun e => (e.key, e.val)) = ps.map (fun p => (Value.string p.1, p.2)) → (∀ p ∈ ps, p.1 ≠ k) → Instr.findNow .string (.string k) l i = some none
  | [], _, _, _, _ => rfl
  | e :: l, [], _, h, _ => by simp at h
  | e :: l, p :: ps, i, h, hn => by
    simp only [List.map_cons, List.cons.injEq, Prod.mk.injEq] at h
    obtain ⟨⟨h1, h2⟩, h3⟩ := h
    have hne : (k == p.1) = false := beq_no (fun e => hn p (by simp) e.symm)
    unfold Instr.findNow
    rw [h1]
    simp only [Instr.sameNow, hne]
    exact findNow_none k l ps (i + 1) h3 (fun q hq => hn q (by simp [hq]))

theorem findNow_some (k : ByteArray) (v : Value) : ∀ (l : List MapEntry) (ps : List (ByteArray × Value)) (i j : Nat), l.map (fun e => (e.key, e.val)) = ps.map (fun p => (Value.string p.1, p.2)) → (ps.map (·.1)).Nodup → ps[j]? = some (k, v) → Instr.findNow .string (.string k) l i = some (some (i + j, v))
  | [], [], _, _, _, _, h => by simp at h
  | [], p :: ps, _, _, h, _, _ => by simp at h
  | e :: l, [], _, _, h, _, _ => by simp at h
  | e :: l, p :: ps, i, j, h, hn, hj => by
    simp only [List.map_cons, List.cons.injEq, Prod.mk.injEq] at h
    obtain ⟨⟨h1, h2⟩, h3⟩ := h
    obtain ⟨hn1, hn2⟩ := List.nodup_cons.1 hn
    unfold Instr.findNow
    rw [h1]
    cases j with
    | zero =>
      simp only [List.getElem?_cons_zero, Option.some.injEq] at hj
      subst hj
      simp [Instr.sameNow, h2, (bytes_beq k k).2 rfl]
    | succ j =>
      simp only [List.getElem?_cons_succ] at hj
      have hne : (k == p.1) = false := beq_no (fun e => hn1 (List.mem_map.2 ⟨(k, v), List.mem_of_getElem? hj, e⟩))
      simp only [Instr.sameNow, hne]
      rw [findNow_some k v l ps (i + 1) j h3 hn2 hj]
      congr 3
      omega

section
variable {P : Program} {t k e : TypeId} {w : World} {b : Nat} {ps : List (ByteArray × Value)}

theorem check_str (hk : P.underlying k = some .string) (em : Bool) (s : ByteArray) (w : World) : (Instr.checkKey em 10000 k (.string s)).run P w = .ok () w := by
  exact run_checkKey hk (d := .string) (k := .string s) trivial em 9999

theorem lookup_has (ht : P.underlying t = some (.map k e)) (hk : P.underlying k = some .string) (h : HasMap w b ps) {s : ByteArray} {v : Value} (hv : (s, v) ∈ ps) :
    (Instr.lookup t (.map (some b)) (.string s) false).run P w = .ok v w := by
  obtain ⟨es, clock, hb, hs, he⟩ := h
  obtain ⟨j, hj⟩ := List.mem_iff_getElem?.1 hv
  have hf := findNow_some s v es.toList ps 0 j he (he.nodup hs) hj
  have hr : (Instr.findKey k (.string s) es.toList).run P w = .ok (some (0 + j, v)) w := run_findKey hk hf
  simp [Instr.lookup, run_underlying ht, MapKept.run_getObj_map hb, check_str hk, hr, Result.andThen]

theorem lookup_not (ht : P.underlying t = some (.map k e)) (hk : P.underlying k = some .string) {z : Value} (hz : (zeroValue e).run P w = .ok z w) (h : HasMap w b ps) {s : ByteArray} (hv : ∀ p ∈ ps, p.1 ≠ s) :
    (Instr.lookup t (.map (some b)) (.string s) false).run P w = .ok z w := by
  obtain ⟨es, clock, hb, hs, he⟩ := h
  have hf := findNow_none s es.toList ps 0 he hv
  have hr : (Instr.findKey k (.string s) es.toList).run P w = .ok none w := run_findKey hk hf
  simp [Instr.lookup, run_underlying ht, MapKept.run_getObj_map hb, check_str hk, hr, hz, Result.andThen]

/-! ### written -/
theorem run_setObj_m {es : Array MapEntry} {clock : Nat} (hb : w.heap[b]? = some (.map es clock)) (o' : Obj) : (setObj b o').run P w = .ok () (setBlock w b o') := by
  simp [setObj, Sem.run, hb, setBlock]

theorem update_new (ht : P.underlying t = some (.map k e)) (hk : P.underlying k = some .string) (h : HasMap w b ps) {s : ByteArray} (v : Value) (hv : ∀ p ∈ ps, p.1 ≠ s) :
    ∃ o, (Instr.mapUpdate t (.map (some b)) (.string s) v).run P w = .ok () (setBlock w b o) ∧ HasMap (setBlock w b o) b (ps ++ [(s, v)]) := by
  obtain ⟨es, clock, hb, hs, he⟩ := h
  have hf := findNow_none s es.toList ps 0 he hv
  have hr : (Instr.findKey k (.string s) es.toList).run P w = .ok none w := run_findKey hk hf
  refine ⟨.map (es.push ⟨.string s, v, clock⟩) (clock + 1), by simp [Instr.mapUpdate, run_underlying ht, MapKept.run_getObj_map hb, check_str hk, hr, run_setObj_m hb, Result.andThen], ?_⟩
  refine ⟨_, _, heap_setBlock_same hb _, stamped_push hs (fun x hx => ?_), ?_⟩
  · obtain ⟨p, hp, e1, _⟩ := he.mem hx
    rw [e1]
    intro e2
    exact hv p hp (by simpa using e2)
  · unfold Ents at he ⊢
    simp [he]

/-- The pairs, with another value at a key. -/
def putAt (ps : List (ByteArray × Value)) (s : ByteArray) (v : Value) : List (ByteArray × Value) := ps.map (fun p => if p.1 = s then (s, v) else p)
theorem putAt_keys (ps : List (ByteArray × Value)) (s : ByteArray) (v : Value) : (putAt ps s v).map (·.1) = ps.map (·.1) := by
  unfold putAt
  rw [List.map_map]
  refine List.map_congr_left (fun p _ => ?_)
  by_cases h : p.1 = s <;> simp [h]

theorem ents_modify {es : Array MapEntry} {s : ByteArray} {v0 v : Value} {j : Nat} (he : Ents ps es) (hn : (ps.map (·.1)).Nodup) (hj : ps[j]? = some (s, v0)) :
    Ents (putAt ps s v) (es.modify j fun e => { e with key := .string s, val := v }) := by
  unfold Ents at he ⊢
  apply List.ext_getElem?
  intro i
  have hei := congrArg (fun l => l[i]?) he
  simp only [List.getElem?_map, Array.getElem?_toList, putAt] at hei ⊢
  rw [Array.getElem?_modify]
  by_cases hij : j = i
  · subst hij
    rw [hj] at hei
    cases hes : es[j]? with
    | none => rw [hes] at hei; simp at hei
    | some x => simp [hj]
  · rw [if_neg hij]
    cases hpi : ps[i]? with
    | none => rw [hpi] at hei; rw [hei]; rfl
    | some p =>
      rw [hpi] at hei
      rw [hei]
      have hne : p.1 ≠ s := by
        intro e1
        apply hij
        have l1 := (List.getElem?_eq_some_iff.1 hj).1
        have l2 := (List.getElem?_eq_some_iff.1 hpi).1
        have g1 : (ps.map (·.1))[j]? = some s := by simp [hj]
        have g2 : (ps.map (·.1))[i]? = some s := by simp [hpi, e1]
        exact (List.getElem?_inj (by simpa using l1) hn).1 (g1.trans g2.symm)
      simp [hne]

theorem update_old (ht : P.underlying t = some (.map k e)) (hk : P.underlying k = some .string) (h : HasMap w b ps) {s : ByteArray} {v0 : Value} (v : Value) (hv : (s, v0) ∈ ps) :
    ∃ o, (Instr.mapUpdate t (.map (some b)) (.string s) v).run P w = .ok () (setBlock w b o) ∧ HasMap (setBlock w b o) b (putAt ps s v) ∧
      ∀ es clock, w.heap[b]? = some (.map es clock) → ∃ es', o = .map es' clock ∧ es'.toList.map (·.born) = es.toList.map (·.born) := by
  obtain ⟨es, clock, hb, hs, he⟩ := h
  obtain ⟨j, hj⟩ := List.mem_iff_getElem?.1 hv
  have hn := he.nodup hs
  have hf := findNow_some s v0 es.toList ps 0 j he hn hj
  have hr : (Instr.findKey k (.string s) es.toList).run P w = .ok (some (0 + j, v0)) w := run_findKey hk hf
  have hes : ∃ x, es[j]? = some x ∧ x.key = .string s := by
    have := congrArg (fun l => l[j]?) he
    simp only [List.getElem?_map, Array.getElem?_toList, hj] at this
    cases hx : es[j]? with
    | none => rw [hx] at this; simp at this
    | some x => rw [hx] at this; simp at this; exact ⟨x, rfl, this.1⟩
  obtain ⟨x, hx, hxk⟩ := hes
  have hst : (Instr.keyThatStays (.string s) (.string s)).run P w = .ok (.string s) w := by
    exact run_keyThatStays (d := .string) (k := .string s) trivial
  refine ⟨.map (es.modify j fun e => { e with key := .string s, val := v }) clock, ?_, ⟨_, _, heap_setBlock_same hb _, stamped_modify hs j _ (fun _ _ => rfl) (fun y _ hy => ?_), ents_modify he hn hj⟩, ?_⟩
  · simp [Instr.mapUpdate, run_underlying ht, MapKept.run_getObj_map hb, check_str hk, hr, hx, hxk, hst, run_setObj_m hb, Result.andThen]
  · rw [hx] at hy
    obtain rfl := Option.some.inj hy
    exact hxk.symm
  · intro es' clock' hb'
    rw [hb] at hb'
    simp only [Option.some.injEq, Obj.map.injEq] at hb'
    obtain ⟨rfl, rfl⟩ := hb'
    refine ⟨_, rfl, ?_⟩
    apply List.ext_getElem?
    intro i
    simp only [List.getElem?_map, Array.getElem?_toList, Array.getElem?_modify]
    by_cases hij : j = i
    · subst hij
      cases es[j]? <;> simp
    · simp [hij]
end

/-! ### at the operations -/
section
variable {P : Program} (w : World) {ops : Array Oper} {rest : List Oper} {o : Oper} {a : Act} {Q : Exit → Act → World → Prop}

theorem wpList_range_str (hg : o.guard = none) (m : Operand) (t : TypeId) (hop : o.op = Op.range t m) (k e : TypeId) (ht : P.underlying t = some (.map k e)) (b : Nat) (es : Array MapEntry) (clock : Nat)
    (hm : a.eval m = .map (some b)) (hb : w.heap[b]? = some (.map es clock))
    (hK : wpList P ops Q rest (a.put o.dst (.pointer (some ⟨w.heap.size, 0, none⟩))) (w.alloc (.mapIter (some b) clock #[] clock))) :
    wpList P ops Q (o :: rest) a w := by
  refine wpList_plain hg fun K' hK' => ?_
  have hrun := run_range_map (P := P) w t k e b es clock ht hb
  unfold Oper.wp
  simp [execOp, hop, hm, hrun, Result.andThen]
  exact hK' _ _ hK

theorem wpList_next_str (hg : o.guard = none) (it : Operand) (hop : o.op = Op.next it false) (r b since c0 : Nat) (seen : Array Nat) (es : Array MapEntry) (clock : Nat) (ps : List (ByteArray × Value))
    (hit : a.eval it = .pointer (some ⟨r, 0, none⟩)) (hr : w.heap[r]? = some (.mapIter (some b) since seen c0)) (hb : w.heap[b]? = some (.map es clock)) (hold : ∀ x ∈ es.toList, x.born < since) (hsc : since ≤ c0) (he : Ents ps es)
    (hDone : (leftOf es seen).size = 0 → wpList P ops Q rest (a.put o.dst (.tuple #[.bool false])) w)
    (hMore : ∀ (x : MapEntry) (s : ByteArray) (v : Value) (w1 : World), x ∈ (leftOf es seen).toList → (s, v) ∈ ps → x.key = .string s → x.val = v → (w1 = w ∨ w1 = w.drew) →
      wpList P ops Q rest (a.put o.dst (.tuple #[.bool true, .string s, v])) (setBlock w1 r (.mapIter (some b) since (seen.push x.born) clock))) :
    wpList P ops Q (o :: rest) a w := by
  refine wpList_plain hg fun K' hK' => ?_
  unfold Oper.wp
  rcases run_next_at (P := P) w o.type r b since c0 seen es clock hr hb hold hsc with ⟨h0, hrun⟩ | ⟨x, hx, w1, hw1, hrun⟩
  · simp [execOp, hop, hit, hrun, Result.andThen]
    exact hK' _ _ (hDone h0)
  · obtain ⟨p, hp, e1, e2⟩ := he.mem (mem_left hx).1
    rw [e1, e2] at hrun
    simp [execOp, hop, hit, hrun, Result.andThen]
    exact hK' _ _ (hMore x p.1 p.2 w1 hx hp e1 e2 hw1)

/-- A look-up whose answer is known. -/
theorem wpList_lookup_is (hg : o.guard = none) (m x : Operand) (t : TypeId) (ok : Bool) (hop : o.op = Op.lookup t m x ok) (mv key : Value) (hm : a.eval m = mv) (hx : a.eval x = key) (v : Value)
    (hrun : (Instr.lookup t mv key ok).run P w = .ok v w) (hK : wpList P ops Q rest (a.put o.dst v) w) :
    wpList P ops Q (o :: rest) a w := by
  refine wpList_plain hg fun K' hK' => ?_
  unfold Oper.wp
  simp [execOp, hop, hm, hx, hrun, Result.andThen]
  exact hK' _ _ hK

/-- A store whose world is known. -/
theorem wpList_update_is (hg : o.guard = none) (m x v : Operand) (t : TypeId) (hop : o.op = Op.mapUpdate t m x v) (mv key val : Value) (hm : a.eval m = mv) (hx : a.eval x = key) (hv : a.eval v = val) (w' : World)
    (hrun : (Instr.mapUpdate t mv key val).run P w = .ok () w') (hK : wpList P ops Q rest (a.put o.dst undef) w') :
    wpList P ops Q (o :: rest) a w := by
  refine wpList_plain hg fun K' hK' => ?_
  unfold Oper.wp
  simp [execOp, hop, hm, hx, hv, hrun, Result.andThen]
  exact hK' _ _ hK
end

end Go.Proofs.YthagnngckegekaaGreatDoor
