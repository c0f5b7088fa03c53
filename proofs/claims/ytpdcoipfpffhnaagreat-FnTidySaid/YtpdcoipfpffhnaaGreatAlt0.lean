/-
  A map from which members are left out while it is ranged over. Conditions: none.
-/
import Derived.Test.YtpdcoipfpffhnaaGreatDeco3
namespace Go.Proofs.YtpdcoipfpffhnaaGreat
open Go.ChangeShapes Go.WideShapes Go.ChangeAt Go.RowKit
open Go.ChangeMaps (setBlock heap_setBlock_same heap_setBlock_other)
set_option linter.unusedVariables false
set_option linter.unusedSimpArgs false

section
variable {P : Program} {t k e : TypeId} {w : World} {b : Nat}
/-- A value laid anew at its own key: the map stands. -/
theorem update_same (ht : P.underlying t = some (.map k e)) (hk : P.underlying k = some .string) {es : Array MapEntry} {clock : Nat} {ps : List (ByteArray × Value)} (hb : w.heap[b]? = some (.map es clock)) (hs : MapKept.Stamped es clock) (he : Ents ps es) {s : ByteArray} {v : Value} (hv : (s, v) ∈ ps) :
    (Instr.mapUpdate t (.map (some b)) (.string s) v).run P w = .ok () (setBlock w b (.map es clock)) := by
  obtain ⟨j, hj⟩ := List.mem_iff_getElem?.1 hv
  have hn := he.nodup hs
  have hf := findNow_some s v es.toList ps 0 j he hn hj
  have hr : (Instr.findKey k (.string s) es.toList).run P w = .ok (some (0 + j, v)) w := MapKept.run_findKey hk hf
  have hes : ∃ x, es[j]? = some x ∧ x.key = .string s ∧ x.val = v := by
    have := congrArg (fun l => l[j]?) he
    simp only [List.getElem?_map, Array.getElem?_toList, hj] at this
    cases hx : es[j]? with
    | none => rw [hx] at this; simp at this
    | some x => rw [hx] at this; simp at this; exact ⟨x, rfl, this.1, this.2⟩
  obtain ⟨x, hx, hxk, hxv⟩ := hes
  have hst : (Instr.keyThatStays (.string s) (.string s)).run P w = .ok (.string s) w := by
    exact MapKept.run_keyThatStays (d := .string) (k := .string s) trivial
  have hmod : (es.modify j fun e => { e with key := .string s, val := v }) = es := by
    apply Array.ext_getElem?
    intro i
    rw [Array.getElem?_modify]
    by_cases hij : j = i
    · subst hij
      rw [if_pos rfl, hx]
      simp only [Option.map_some]
      rw [← hxk, ← hxv]
    · rw [if_neg hij]
  have hmod' : (es.modify (0 + j) fun e => { e with key := .string s, val := v }) = es := by rw [Nat.zero_add]; exact hmod
  simp [Instr.mapUpdate, run_underlying ht, MapKept.run_getObj_map hb, check_str hk, hr, hx, hxk, hst, run_setObj_m hb, Result.andThen, hmod]

/-- A member deleted. -/
theorem run_delete (ht : P.underlying t = some (.map k e)) (hk : P.underlying k = some .string) {es : Array MapEntry} {clock : Nat} {ps : List (ByteArray × Value)} (hb : w.heap[b]? = some (.map es clock)) (hs : MapKept.Stamped es clock) (he : Ents ps es) {s : ByteArray} {v : Value} {j : Nat} (hj : ps[j]? = some (s, v)) (k' ty : TypeId) :
    (Builtin.delete_ #[t, k'] ty #[.map (some b), .string s]).run P w = .ok (.tuple #[]) (setBlock w b (.map (es.eraseIdxIfInBounds j) clock)) := by
  have hn := he.nodup hs
  have hf := findNow_some s v es.toList ps 0 j he hn hj
  have hr : (Instr.findKey k (.string s) es.toList).run P w = .ok (some (0 + j, v)) w := MapKept.run_findKey hk hf
  simp [Builtin.delete_, run_underlying ht, MapKept.run_getObj_map hb, check_str hk, hr, run_setObj_m hb, Result.andThen]
end

/-- What is left of the entries, when some have come up. -/
def keepE (on oe : Bool) (seen : Array Nat) : List MapEntry → List V → List MapEntry
  | e :: es, x :: l => if seen.contains e.born && (x.tidy on oe).drop on oe then keepE on oe seen es l else e :: keepE on oe seen es l
  | _, _ => []
def keepP (on oe : Bool) (seen : Array Nat) : List MapEntry → List V → List (ByteArray × Value) → List (ByteArray × Value)
  | e :: es, x :: l, p :: ps => if seen.contains e.born && (x.tidy on oe).drop on oe then keepP on oe seen es l ps else p :: keepP on oe seen es l ps
  | _, _, _ => []
theorem keepE_none (on oe : Bool) : ∀ (es : List MapEntry) (l : List V), es.length = l.length → keepE on oe #[] es l = es
  | [], [], _ => rfl
  | e :: es, x :: l, h => by
    simp only [keepE]
    rw [keepE_none on oe es l (by simpa using h)]
    simp
theorem keepP_none (on oe : Bool) : ∀ (es : List MapEntry) (l : List V) (ps : List (ByteArray × Value)), es.length = l.length → ps.length = l.length → keepP on oe #[] es l ps = ps
  | [], [], [], _, _ => rfl
  | e :: es, x :: l, p :: ps, h, h2 => by
    simp only [keepP]
    rw [keepP_none on oe es l ps (by simpa using h) (by simpa using h2)]
    simp
theorem keepE_sub (on oe : Bool) (seen : Array Nat) : ∀ (es : List MapEntry) (l : List V), (keepE on oe seen es l).Sublist es
  | [], l => by cases l <;> simp [keepE]
  | e :: es, [] => by simp [keepE]
  | e :: es, x :: l => by
    simp only [keepE]
    have ih := keepE_sub on oe seen es l
    split
    · exact ih.cons _
    · exact ih.cons_cons _
theorem keep_ents (on oe : Bool) (seen : Array Nat) : ∀ (es : List MapEntry) (l : List V) (ps : List (ByteArray × Value)), es.map (fun e => (e.key, e.val)) = ps.map (fun p => (Value.string p.1, p.2)) → (keepE on oe seen es l).map (fun e => (e.key, e.val)) = (keepP on oe seen es l ps).map (fun p => (Value.string p.1, p.2))
  | [], l, ps, h => by cases l <;> cases ps <;> simp [keepE, keepP] at h ⊢
  | e :: es, [], ps, h => by cases ps <;> simp [keepE, keepP] at h ⊢
  | e :: es, x :: l, [], h => by simp at h
  | e :: es, x :: l, p :: ps, h => by
    simp only [List.map_cons, List.cons.injEq] at h
    have ih := keep_ents on oe seen es l ps h.2
    simp only [keepE, keepP]
    split
    · exact ih
    · simp only [List.map_cons, ih, h.1]
/-- The next one that is left out. -/
theorem keepE_erase (on oe : Bool) (seen : Array Nat) : ∀ (es : List MapEntry) (l : List V) (i j : Nat) (e : MapEntry) (x : V), (es.map (·.born)).Nodup → es[i]? = some e → l[i]? = some x → seen.contains e.born = false → (x.tidy on oe).drop on oe = true → (keepE on oe seen es l)[j]? = some e → (keepE on oe seen es l).eraseIdx j = keepE on oe (seen.push e.born) es l
  | [], l, i, j, e, x, _, h, _, _, _, _ => by simp at h
  | e0 :: es, [], i, j, e, x, _, _, h, _, _, _ => by simp at h
  | e0 :: es, x0 :: l, i, j, e, x, hn, he, hx, hs, hd, hj => by
    have hn' := List.nodup_cons.1 (by simpa using hn : (e0.born :: es.map (·.born)).Nodup)
    cases i with
    | zero =>
      simp at he hx
      subst he hx
      have hrest : keepE on oe (seen.push e0.born) es l = keepE on oe seen es l := by
        have : ∀ (es : List MapEntry) (l : List V), e0.born ∉ es.map (·.born) → keepE on oe (seen.push e0.born) es l = keepE on oe seen es l := by
          intro es
          induction es with
          | nil => intro l _; cases l <;> rfl
          | cons y r ih =>
            intro l hy
            cases l with
            | nil => rfl
            | cons z t =>
              simp only [List.map_cons, List.mem_cons, not_or] at hy
              simp only [keepE, ih t hy.2]
              rw [contains_push]
              have : (y.born == e0.born) = false := beq_eq_false_iff_ne.2 (fun h => hy.1 h.symm)
              rw [this, Bool.or_false]
        exact this es l hn'.1
      simp only [keepE] at hj ⊢
      rw [hs] at hj ⊢
      simp only [Bool.false_and, Bool.false_eq_true, if_false] at hj ⊢
      rw [seen_self, hd, hrest]
      simp only [Bool.and_self, if_true]
      cases j with
      | zero => rfl
      | succ j =>
        simp only [List.getElem?_cons_succ] at hj
        have h1 := (keepE_sub on oe seen es l).subset (List.mem_of_getElem? hj)
        exact absurd (List.mem_map.2 ⟨e0, h1, rfl⟩) hn'.1
    | succ i =>
      simp only [List.getElem?_cons_succ] at he hx
      have hne : e0.born ≠ e.born := fun h => hn'.1 (by rw [h]; exact List.mem_map.2 ⟨e, List.mem_of_getElem? he, rfl⟩)
      have hb0 : (seen.push e.born).contains e0.born = seen.contains e0.born := by
        rw [contains_push]
        have : (e0.born == e.born) = false := beq_eq_false_iff_ne.2 hne
        rw [this, Bool.or_false]
      simp only [keepE] at hj ⊢
      rw [hb0]
      cases hc : (seen.contains e0.born && (x0.tidy on oe).drop on oe) with
      | true =>
        rw [hc] at hj
        simp only [if_true] at hj ⊢
        exact keepE_erase on oe seen es l i j e x hn'.2 he hx hs hd hj
      | false =>
        rw [hc] at hj
        simp only [Bool.false_eq_true, if_false] at hj ⊢
        cases j with
        | zero =>
          simp at hj
          exact absurd (by rw [hj]) hne
        | succ j =>
          simp only [List.getElem?_cons_succ] at hj
          simp only [List.eraseIdx_cons_succ]
          rw [keepE_erase on oe seen es l i j e x hn'.2 he hx hs hd hj]
/-- The next one that stays. -/
theorem keepE_stay (on oe : Bool) (seen : Array Nat) : ∀ (es : List MapEntry) (l : List V) (i : Nat) (e : MapEntry) (x : V), (es.map (·.born)).Nodup → es[i]? = some e → l[i]? = some x → (x.tidy on oe).drop on oe = false → keepE on oe (seen.push e.born) es l = keepE on oe seen es l
  | [], l, i, e, x, _, h, _, _ => by simp at h
  | e0 :: es, [], i, e, x, _, _, h, _ => by simp at h
  | e0 :: es, x0 :: l, i, e, x, hn, he, hx, hd => by
    have hn' := List.nodup_cons.1 (by simpa using hn : (e0.born :: es.map (·.born)).Nodup)
    cases i with
    | zero =>
      simp at he hx
      subst he hx
      have : ∀ (es : List MapEntry) (l : List V), e0.born ∉ es.map (·.born) → keepE on oe (seen.push e0.born) es l = keepE on oe seen es l := by
        intro es
        induction es with
        | nil => intro l _; cases l <;> rfl
        | cons y r ih =>
          intro l hy
          cases l with
          | nil => rfl
          | cons z t =>
            simp only [List.map_cons, List.mem_cons, not_or] at hy
            simp only [keepE, ih t hy.2]
            rw [contains_push]
            have : (y.born == e0.born) = false := beq_eq_false_iff_ne.2 (fun h => hy.1 h.symm)
            rw [this, Bool.or_false]
      simp only [keepE]
      rw [this es l hn'.1, hd]
      simp
    | succ i =>
      simp only [List.getElem?_cons_succ] at he hx
      have hne : e0.born ≠ e.born := fun h => hn'.1 (by rw [h]; exact List.mem_map.2 ⟨e, List.mem_of_getElem? he, rfl⟩)
      have hb0 : (seen.push e.born).contains e0.born = seen.contains e0.born := by
        rw [contains_push]
        have : (e0.born == e.born) = false := beq_eq_false_iff_ne.2 hne
        rw [this, Bool.or_false]
      simp only [keepE]
      rw [hb0, keepE_stay on oe seen es l i e x hn'.2 he hx hd]
/-- What has not come up is still there. -/
theorem keep_unseen (on oe : Bool) (seen : Array Nat) : ∀ (es : List MapEntry) (l : List V) (i : Nat) (e : MapEntry) (x : V), es[i]? = some e → l[i]? = some x → seen.contains e.born = false → e ∈ keepE on oe seen es l
  | [], l, i, e, x, h, _, _ => by simp at h
  | e0 :: es, [], i, e, x, _, h, _ => by simp at h
  | e0 :: es, x0 :: l, 0, e, x, he, hx, hs => by
    simp at he hx
    subst he hx
    simp only [keepE]
    rw [hs]
    simp
  | e0 :: es, x0 :: l, i + 1, e, x, he, hx, hs => by
    have ih := keep_unseen on oe seen es l i e x (by simpa using he) (by simpa using hx) hs
    simp only [keepE]
    split
    · exact ih
    · exact List.mem_cons_of_mem _ ih

/-! ### When all have come up -/
def keepQ (on oe : Bool) : List V → List (ByteArray × Value) → List (ByteArray × Value)
  | x :: l, p :: ps => if (x.tidy on oe).drop on oe then keepQ on oe l ps else p :: keepQ on oe l ps
  | _, _ => []
theorem keepP_all (on oe : Bool) (seen : Array Nat) : ∀ (es : List MapEntry) (l : List V) (ps : List (ByteArray × Value)), es.length = l.length → (∀ e ∈ es, seen.contains e.born = true) → keepP on oe seen es l ps = keepQ on oe l ps
  | [], [], ps, _, _ => by cases ps <;> rfl
  | e :: es, x :: l, [], _, _ => by simp [keepP, keepQ]
  | e :: es, x :: l, p :: ps, h, ha => by
    simp only [keepP, keepQ]
    rw [ha e (List.mem_cons_self ..), keepP_all on oe seen es l ps (by simpa using h) (fun e he => ha e (List.mem_cons_of_mem _ he))]
    simp
theorem keepQ_keys (on oe : Bool) : ∀ (l : List V) (ps : List (ByteArray × Value)), (keepQ on oe l ps).map (·.1) = V.tidyK on oe (ps.map (·.1)) l
  | [], ps => by cases ps <;> simp [keepQ, V.tidyK]
  | x :: l, [] => by simp [keepQ, V.tidyK]
  | x :: l, p :: ps => by
    simp only [keepQ, List.map_cons, V.tidyK]
    have ih := keepQ_keys on oe l ps
    split <;> simp [ih]
theorem keepQ_append (on oe : Bool) : ∀ (l : List V) (ps : List (ByteArray × Value)) (x : V) (p : ByteArray × Value), ps.length = l.length → keepQ on oe (l ++ [x]) (ps ++ [p]) = keepQ on oe l ps ++ (if (x.tidy on oe).drop on oe then [] else [p])
  | [], [], x, p, _ => by simp only [List.nil_append, keepQ]
  | x0 :: l, p0 :: ps, x, p, h => by
    simp only [List.cons_append, keepQ]
    have ih := keepQ_append on oe l ps x p (by simpa using h)
    split <;> simp [ih]
theorem kids_keep {on oe : Bool} {w : World} {lo : Nat} {keys : List ByteArray} {l : List V} {ps : List (ByteArray × Value)} {cut : Nat → Nat} (hkl : keys.length = l.length) (hpl : ps.length = l.length) (hlo : lo ≤ cut 0) (hm : ∀ i, i < l.length → cut i ≤ cut (i + 1)) (hk : ∀ (i : Nat) x p, l[i]? = some x → ps[i]? = some p → PT w (cut i) (cut (i + 1)) (x.tidy on oe) p.2) :
    ∀ n, n ≤ l.length → Kids w lo (cut n) (V.tidyL on oe (keys.take n) (l.take n)) ((keepQ on oe (l.take n) (ps.take n)).map (·.2)) := by
  intro n
  induction n with
  | zero =>
    intro _
    simp only [List.take_zero, keepQ, List.map_nil]
    cases keys <;> (simp only [List.take_zero, V.tidyL]; exact Kids.nil _ hlo)
  | succ n ih =>
    intro hn
    have ih' := ih (by omega)
    obtain ⟨k, hk1⟩ : ∃ k, keys[n]? = some k := get_lt (by omega)
    obtain ⟨x, hx⟩ : ∃ x, l[n]? = some x := get_lt (by omega)
    obtain ⟨p, hp⟩ : ∃ p, ps[n]? = some p := get_lt (by omega)
    rw [take_get hk1, take_get hx, take_get hp, tidyL_append on oe _ _ _ _ (by simp; omega), keepQ_append on oe _ _ _ _ (by simp; omega)]
    cases hd : (x.tidy on oe).drop on oe with
    | true =>
      simp only [if_true, List.append_nil]
      exact ih'.mono (Nat.le_refl _) (hm n (by omega))
    | false =>
      simp only [Bool.false_eq_true, if_false, List.map_append, List.map_cons, List.map_nil]
      exact ih'.snoc (hk n x p hx hp) (hm n (by omega))
end Go.Proofs.YtpdcoipfpffhnaaGreat
