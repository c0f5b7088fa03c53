/-
  alt.alter at objects: in place. Conditions: none.
-/
import Derived.Test.YtpdcoipfpffhnaaGreatAlt1
namespace Go.Proofs.YtpdcoipfpffhnaaGreat
open Go.ChangeShapes Go.WideShapes Go.ChangeAt Go.RowKit
open Go.ChangeMaps (setBlock heap_setBlock_same heap_setBlock_other)
set_option linter.unusedVariables false
set_option linter.unusedSimpArgs false
attribute [local go_sem] tay_bool tam_bool tan_bool tay_int tam_int tan_int tay_int8 tam_int8 tan_int8 tay_int16 tam_int16 tan_int16 tay_int32 tam_int32 tan_int32 tay_int64 tam_int64 tan_int64 tay_uint tam_uint tan_uint tay_uint8 tam_uint8 tan_uint8 tay_uint16 tam_uint16 tan_uint16 tay_uint32 tam_uint32 tan_uint32 tay_uint64 tam_uint64 tan_uint64 tay_float32 tam_float32 tan_float32 tay_float64 tam_float64 tan_float64 tay_string tam_string tan_string tay_sl tam_sl tan_sl tay_mp tam_mp tan_mp tay_gbool tam_gbool tan_gbool tay_gint tam_gint tan_gint tay_gfl tam_gfl tan_gfl tay_gstr tam_gstr tan_gstr tay_jnum tam_jnum tan_jnum tay_gbig tam_gbig tan_gbig tay_garr tam_garr tan_garr tay_lst tam_lst tan_lst tay_gobj tam_gobj tan_gobj tay_dct tam_dct tan_dct
/-- What stays, by its form. -/
def KeptWay (on oe : Bool) (y : Value) (w : World) : Prop :=
  (y = .nilIface ∧ on = false ∧ oe = false) ∨ (∃ f : Nat, y = .iface 22 (.float .f64 f)) ∨ (∃ t : Bool, y = .iface 4 (.bool t) ∧ (oe = false ∨ t = true)) ∨ (∃ n : Int, y = .iface 2 (.int .i64 n) ∧ (oe = false ∨ (n == 0) = false)) ∨
  (∃ s : ByteArray, y = .iface 9 (.string s) ∧ (oe = false ∨ ((s.size : Int) == 0) = false)) ∨ (∃ (A : Option Addr) (n c : Nat), y = .iface 57 (.slice A n c) ∧ (oe = false ∨ ((n : Int) == 0) = false)) ∨
  (∃ (g : Nat) (es : Array MapEntry) (clock : Nat), y = .iface 67 (.map (some g)) ∧ w.heap[g]? = some (.map es clock) ∧ (oe = false ∨ ((es.size : Int) == 0) = false))
/-- What is left out, by its form. -/
def DropWay (on oe : Bool) (y : Value) (w : World) : Prop :=
  (y = .nilIface ∧ (on = true ∨ (on = false ∧ oe = true))) ∨ (y = .iface 4 (.bool false) ∧ oe = true) ∨ (∃ n : Int, y = .iface 2 (.int .i64 n) ∧ oe = true ∧ (n == 0) = true) ∨
  (∃ s : ByteArray, y = .iface 9 (.string s) ∧ oe = true ∧ ((s.size : Int) == 0) = true) ∨ (∃ (A : Option Addr) (n c : Nat), y = .iface 57 (.slice A n c) ∧ oe = true ∧ ((n : Int) == 0) = true) ∨
  (∃ (g : Nat) (es : Array MapEntry) (clock : Nat), y = .iface 67 (.map (some g)) ∧ w.heap[g]? = some (.map es clock) ∧ oe = true ∧ ((es.size : Int) == 0) = true)
theorem ways_of {on oe : Bool} {v : V} {y : Value} {w : World} {lo hi : Nat} (hx : PT w lo hi v y) (hok : v.kind = 2 → v.n = 0 ∨ v.n = 1) : (v.drop on oe = false → KeptWay on oe y w) ∧ (v.drop on oe = true → DropWay on oe y w) := by
  unfold KeptWay DropWay
  cases hx with
  | null _ _ _ h =>
    have e : v.drop on oe = (on || oe) := by simp [V.drop, V.bare, h]
    rw [e]
    exact ⟨fun h => Or.inl ⟨rfl, by simpa using h⟩, fun h => Or.inl ⟨rfl, by cases on <;> simp at h ⊢; exact h⟩⟩
  | bool _ _ _ h =>
    have e : v.drop on oe = (oe && !(v.n == 1)) := by
      have hn := hok h
      rcases hn with hn | hn <;> simp [V.drop, V.bare, h, hn]
    rw [e]
    refine ⟨fun h => Or.inr (Or.inr (Or.inl ⟨_, rfl, ?_⟩)), fun h => Or.inr (Or.inl ⟨?_, ?_⟩)⟩
    · cases oe
      · exact Or.inl rfl
      · right; simpa using h
    · have : (v.n == 1) = false := by cases oe <;> simp at h ⊢; exact h
      rw [this]
    · cases oe <;> simp at h ⊢
  | int _ _ _ h =>
    have e : v.drop on oe = (oe && (v.n == 0)) := by
      simp only [V.drop, V.bare, h]
      by_cases hn : v.n = 0 <;> simp [hn]
    rw [e]
    refine ⟨fun h => Or.inr (Or.inr (Or.inr (Or.inl ⟨_, rfl, ?_⟩))), fun h => Or.inr (Or.inr (Or.inl ⟨_, rfl, ?_⟩))⟩
    · cases oe
      · exact Or.inl rfl
      · right; simpa using h
    · cases oe
      · cases h
      · exact ⟨rfl, by simpa using h⟩
  | float _ _ _ h =>
    have e : v.drop on oe = false := by simp [V.drop, V.bare, h]
    rw [e]
    exact ⟨fun _ => Or.inr (Or.inl ⟨_, rfl⟩), fun h => by cases h⟩
  | str _ _ _ h =>
    have e : v.drop on oe = (oe && ((v.s.size : Int) == 0)) := by rw [size_empty]; simp [V.drop, V.bare, h]
    rw [e]
    refine ⟨fun h => Or.inr (Or.inr (Or.inr (Or.inr (Or.inl ⟨_, rfl, ?_⟩)))), fun h => Or.inr (Or.inr (Or.inr (Or.inl ⟨_, rfl, ?_⟩)))⟩
    · cases oe
      · exact Or.inl rfl
      · right; simpa using h
    · cases oe
      · cases h
      · exact ⟨rfl, by simpa using h⟩
  | arr _ _ _ h =>
    have e : v.drop on oe = (oe && ((v.l.length : Int) == 0)) := by
      simp only [V.drop, V.bare, h]
      by_cases hn : v.l.length = 0 <;> simp [hn]
    rw [e]
    refine ⟨fun h => Or.inr (Or.inr (Or.inr (Or.inr (Or.inr (Or.inl ⟨_, _, _, rfl, ?_⟩))))), fun h => Or.inr (Or.inr (Or.inr (Or.inr (Or.inl ⟨_, _, _, rfl, ?_⟩))))⟩
    · cases oe
      · exact Or.inl rfl
      · right; simpa using h
    · cases oe
      · cases h
      · exact ⟨rfl, by simpa using h⟩
  | obj _ _ _ h g qs cut hlo hg hhi hmm hkeys hn =>
    obtain ⟨es, clock, hb, hst, he⟩ := hmm
    have hsz := he.size
    have e : v.drop on oe = (oe && ((es.size : Int) == 0)) := by
      rw [hsz, hn]
      simp only [V.drop, V.bare, h]
      by_cases hn : v.l.length = 0 <;> simp [hn]
    rw [e]
    refine ⟨fun h => Or.inr (Or.inr (Or.inr (Or.inr (Or.inr (Or.inr ⟨g, es, clock, rfl, hb, ?_⟩))))), fun h => Or.inr (Or.inr (Or.inr (Or.inr (Or.inr ⟨g, es, clock, rfl, hb, ?_⟩))))⟩
    · cases oe
      · exact Or.inl rfl
      · right; simpa using h
    · cases oe
      · cases h
      · exact ⟨rfl, by simpa using h⟩

/-- The map and its members, some of them tidy or left out. -/
structure ObjAt (on oe : Bool) (l : List V) (ps : List (ByteArray × Value)) (es : Array MapEntry) (clock : Nat) (cut : Nat → Nat) (b : Nat) (wr : World) (seen : Array Nat) (esr : Array MapEntry) : Prop where
  hb : wr.heap[b]? = some (.map esr clock)
  keep : esr.toList = keepE on oe seen es.toList l
  kids : ∀ (i : Nat) x p e, l[i]? = some x → ps[i]? = some p → es.toList[i]? = some e → PT wr (cut i) (cut (i + 1)) (if seen.contains e.born = true then x.tidy on oe else x) p.2

section
variable {on oe : Bool} {l : List V} {ps : List (ByteArray × Value)} {es esr : Array MapEntry} {clock b : Nat} {cut : Nat → Nat} {wr w2 : World} {seen : Array Nat}
theorem ObjAt.stamped (h : ObjAt on oe l ps es clock cut b wr seen esr) (hs : MapKept.Stamped es clock) : MapKept.Stamped esr clock := by
  have hsub : esr.toList.Sublist es.toList := by rw [h.keep]; exact keepE_sub on oe seen _ _
  exact ⟨fun x hx => hs.1 x (hsub.subset hx), (hsub.map _).nodup hs.2.1, (hsub.map _).nodup hs.2.2⟩
theorem ObjAt.ents (h : ObjAt on oe l ps es clock cut b wr seen esr) (he : Ents ps es) : Ents (keepP on oe seen es.toList l ps) esr := by
  unfold Ents
  rw [h.keep]
  exact keep_ents on oe seen _ _ _ he
theorem ObjAt.move (h : ObjAt on oe l ps es clock cut b wr seen esr) (hpl : ps.length = l.length) (hm : ∀ i, i < l.length → cut i ≤ cut (i + 1)) (hb : w2.heap[b]? = wr.heap[b]?) (hw : ∀ k, cut 0 ≤ k → k < cut l.length → w2.heap[k]? = wr.heap[k]?) : ObjAt on oe l ps es clock cut b w2 seen esr := by
  have hcm := cut_mono hm
  refine ⟨hb.trans h.hb, h.keep, fun i x p e hx hp he => (h.kids i x p e hx hp he).move (fun k k1 k2 => hw k ?_ ?_)⟩
  · have hi := (List.getElem?_eq_some_iff.1 hx).1
    have := hcm 0 i (by omega) (by omega); omega
  · have hi := (List.getElem?_eq_some_iff.1 hx).1
    have := hcm (i + 1) l.length (by omega) (by omega); omega

/-- One member more is tidy: it stays, or is left out. -/
theorem ObjAt.step (h : ObjAt on oe l ps es clock cut b wr seen esr) (hs : MapKept.Stamped es clock) (he : Ents ps es) (hpl : ps.length = l.length) (hm : ∀ i, i < l.length → cut i ≤ cut (i + 1)) (hb0 : b < cut 0) (hsz : cut l.length ≤ wr.heap.size)
    {i : Nat} {x : MapEntry} {xv : V} {s : ByteArray} {y : Value} (hi : es.toList[i]? = some x) (hx : l[i]? = some xv) (hp : ps[i]? = some (s, y)) (hxm : x ∈ esr.toList) (hu : seen.contains x.born = false) (hxk : x.key = .string s) (hxv : x.val = y)
    (hpt : PT w2 (cut i) (cut (i + 1)) (xv.tidy on oe) y) (ht : Touch wr w2 (cut i) (cut (i + 1))) :
    ((xv.tidy on oe).drop on oe = false → (Instr.mapUpdate 67 (.map (some b)) (.string s) y).run Tryz.prog w2 = .ok () (setBlock w2 b (.map esr clock)) ∧ ObjAt on oe l ps es clock cut b (setBlock w2 b (.map esr clock)) (seen.push x.born) esr) ∧
    ((xv.tidy on oe).drop on oe = true → ∃ es2, (Builtin.delete_ #[67, 9] 0 #[.map (some b), .string s]).run Tryz.prog w2 = .ok (.tuple #[]) (setBlock w2 b (.map es2 clock)) ∧ ObjAt on oe l ps es clock cut b (setBlock w2 b (.map es2 clock)) (seen.push x.born) es2) := by
  have hcm := cut_mono hm
  have hil := (List.getElem?_eq_some_iff.1 hx).1
  have hb2 : w2.heap[b]? = some (.map esr clock) := (ht.block b (by have := hcm 0 l.length (by omega) (by omega); omega) (Or.inl (by have := hcm 0 i (by omega) (by omega); omega))).trans h.hb
  have hst := h.stamped hs
  have hen := h.ents he
  obtain ⟨j, hj⟩ := List.getElem?_of_mem hxm
  have hpj : (keepP on oe seen es.toList l ps)[j]? = some (s, y) := by
    have h1 := congrArg (fun l => l[j]?) hen
    simp only [List.getElem?_map, hj] at h1
    cases hq : (keepP on oe seen es.toList l ps)[j]? with
    | none => rw [hq] at h1; simp at h1
    | some p =>
      rw [hq] at h1
      simp [hxk, hxv] at h1
      show some p = _
      rw [h1.1, h1.2]
  have hkids : ∀ o, ∀ (i2 : Nat) x2 p2 e2, l[i2]? = some x2 → ps[i2]? = some p2 → es.toList[i2]? = some e2 → PT (setBlock w2 b o) (cut i2) (cut (i2 + 1)) (if (seen.push x.born).contains e2.born = true then x2.tidy on oe else x2) p2.2 := by
    intro o i2 x2 p2 e2 hx2 hp2 he2
    have hi2 := (List.getElem?_eq_some_iff.1 hx2).1
    have hfar : ∀ k, cut i2 ≤ k → (setBlock w2 b o).heap[k]? = w2.heap[k]? := fun k hk => setBlock_far _ _ _ (by have := hcm 0 i2 (by omega) (by omega); omega)
    by_cases hij : i2 = i
    · subst hij
      obtain rfl := Option.some.inj (hx.symm.trans hx2)
      obtain rfl := Option.some.inj (hp.symm.trans hp2)
      obtain rfl := Option.some.inj (hi.symm.trans he2)
      rw [if_pos (seen_self _ _)]
      exact hpt.move (fun k k1 k2 => hfar k k1)
    · have hne : e2.born ≠ x.born := fun e => hij (by
        have := born_inj hs.2.1 (List.mem_of_getElem? he2) (List.mem_of_getElem? hi) e
        subst this
        exact (List.getElem?_inj (List.getElem?_eq_some_iff.1 he2).1 (es_nodup hs.2.1)).1 (he2.trans hi.symm))
      have hc : (seen.push x.born).contains e2.born = seen.contains e2.born := by
        rw [contains_push]
        have : (e2.born == x.born) = false := beq_eq_false_iff_ne.2 hne
        rw [this, Bool.or_false]
      rw [hc]
      refine (h.kids i2 x2 p2 e2 hx2 hp2 he2).move (fun k k1 k2 => (hfar k k1).trans (ht.block k ?_ ?_))
      · have := hcm (i2 + 1) l.length (by omega) (by omega); omega
      · by_cases h2 : i2 < i
        · have := hcm (i2 + 1) i (by omega) (by omega); left; omega
        · have := hcm (i + 1) i2 (by omega) (by omega); right; omega
  constructor
  · intro hd
    refine ⟨update_same Tryz.underlying67 Tryz.underlying9 hb2 hst hen (List.mem_of_getElem? hpj), heap_setBlock_same hb2 _, ?_, hkids _⟩
    rw [h.keep, keepE_stay on oe seen es.toList l i x xv hs.2.1 hi hx hd]
  · intro hd
    refine ⟨_, run_delete Tryz.underlying67 Tryz.underlying9 hb2 hst hen hpj _ _, heap_setBlock_same hb2 _, ?_, hkids _⟩
    rw [← keepE_erase on oe seen es.toList l i j x xv hs.2.1 hi hx hu hd (by rw [← h.keep]; exact hj), ← h.keep]
    simp
end
end Go.Proofs.YtpdcoipfpffhnaaGreat
