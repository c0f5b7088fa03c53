/-
  slices.Clone, slices.Sort, slices.Compact, slices.Index at []string, over the lists that the slices read as. Conditions: none.
-/
import Derived.Test.YthagnngckegekaaGreatDoorShelf
import Derived.Test.YthagnngckegekaaGreatDoorBox
import Derived.Sort.OwnSorted
import Derived.Maps.AppendAt
import Derived.Deep.AppendLies
namespace Go.Proofs.YthagnngckegekaaGreatDoor
open Go.ChangeShapes Go.WideShapes Go.ChangeAt Go.RowKit
set_option linter.unusedVariables false

theorem strs_addr {ok : Nat → Prop} {w : World} {A : Option Addr} {xs : List ByteArray} (h : Strs ok w A xs) (hne : xs ≠ []) :
    ∃ b off, A = some ⟨b, off, none⟩ ∧ ∀ j s, xs[j]? = some s → w.cell? ⟨b, off + j, none⟩ = some (.string s) := by
  obtain ⟨ad, rfl, _, hc⟩ := h hne
  obtain ⟨b, off, sp⟩ := ad
  cases sp with
  | some z =>
    cases xs with
    | nil => exact absurd rfl hne
    | cons x r =>
      have := (hc 0 x rfl).1
      simp [Addr.add, World.cell?] at this
      split at this <;> simp at this
  | none =>
    refine ⟨b, off, rfl, fun j s hj => ?_⟩
    have := (hc j s hj).1
    have e : (⟨b, off, none⟩ : Addr).add j = ⟨b, off + j, none⟩ := by
      by_cases h : j = 0
      · subst h; simp [Addr.add]
      · simp [Addr.add, h]
    rwa [e] at this

def strVs (xs : List ByteArray) : List Value := xs.map .string

/-- A slice of strings of the call's own. -/
def Own (w : World) (B : Nat) (v : Value) (xs : List ByteArray) : Prop := w.ownsRow B 9 1 v xs.length (strVs xs)

theorem getD_of {xs : List ByteArray} {j : Nat} (h : j < xs.length) : xs[j]? = some (xs.getD j ByteArray.empty) := by
  rw [List.getD_eq_getElem?_getD, List.getElem?_eq_getElem h]; rfl

def SomeOwn (P : List ByteArray → Prop) (w : World) (e : Ending) (w' : World) : Prop := ∃ v xs, e = .returned v ∧ P xs ∧ Own w' w.heap.size v xs ∧ Below w.heap.size w w'

theorem clone_any {ok : Nat → Prop} (A : Option Addr) (xs : List ByteArray) (c : Nat) (w : World) (hA : Strs ok w A xs) (hl : xs.length ≤ 1000000) :
    Calls Tryz.prog 36 #[.slice A xs.length c] w (SomeOwn (fun ys => ys = xs) w) := by
  by_cases hne : xs = []
  · subst hne
    cases A with
    | none =>
      refine (Tryz.slices_Clone_string_nil _ c w).mono ?_
      rintro e w' ⟨rfl, rfl⟩
      exact ⟨_, [], rfl, rfl, World.ownsRow_nil _ _ _ _, Below.refl _ _⟩
    | some a =>
      refine (Tryz.slices_Clone_string_zero a c w).mono ?_
      rintro e w' ⟨v', rfl, ho, _, hb⟩
      exact ⟨_, [], rfl, rfl, ho, hb⟩
  · obtain ⟨b, off, rfl, hc⟩ := strs_addr hA hne
    refine (Tryz.slices_Clone_string b off xs.length c xs w (Nat.le_refl _) (by omega) (fun j hj => hc j _ (getD_of hj))).mono ?_
    rintro e w' ⟨v', rfl, ho, _, hb⟩
    rw [List.take_length] at ho
    exact ⟨_, xs, rfl, rfl, ho, hb⟩

/-- The bytes of a string. -/
def byl (s : ByteArray) : List UInt8 := s.data.toList
theorem enc_byl (s : ByteArray) : encStr (byl s) = .string s := by simp [encStr, byl]
def ofl (l : List UInt8) : ByteArray := ⟨l.toArray⟩
theorem enc_ofl (l : List UInt8) : encStr l = .string (ofl l) := rfl
theorem ofl_byl (s : ByteArray) : ofl (byl s) = s := by simp [ofl, byl]
theorem byl_ofl (l : List UInt8) : byl (ofl l) = l := by simp [ofl, byl]
theorem byl_inj {a b : ByteArray} (h : byl a = byl b) : a = b := by rw [← ofl_byl a, h, ofl_byl]
theorem map_byl (xs : List ByteArray) : (xs.map byl).map encStr = strVs xs := by
  simp only [List.map_map, strVs]
  exact List.map_congr_left (fun s _ => enc_byl s)
theorem map_ofl (l : List (List UInt8)) : l.map encStr = strVs (l.map ofl) := by
  simp only [List.map_map, strVs]
  rfl

/-- Ascending. -/
def Asc (xs : List ByteArray) : Prop := (xs.map byl).Pairwise (fun a b => a ≤ b)
def Sorted (v : Value) (B : Nat) (xs : List ByteArray) (w : World) (e : Ending) (w' : World) : Prop := ∃ ys, e = .returned (.tuple #[]) ∧ ys.Perm xs ∧ Asc ys ∧ Own w' B v ys ∧ w.grownBy w' v.ownBlock

theorem asc_merge (l : List (List UInt8)) : (l.mergeSort fun x y => decide (x ≤ y)).Pairwise (fun a b => a ≤ b) := by
  have := List.pairwise_mergeSort (le := fun x y : List UInt8 => decide (x ≤ y)) (fun a b c hab hbc => by
    simp only [decide_eq_true_eq] at *; exact List.le_trans hab hbc) (fun a b => by
    simp only [Bool.or_eq_true, decide_eq_true_eq]; exact List.le_total a b) l
  exact this.imp (fun h => by simpa using h)

theorem sort_any (v : Value) (B : Nat) (xs : List ByteArray) (w : World) (ho : Own w B v xs) (hl : xs.length ≤ 1000000) :
    Calls Tryz.prog 37 #[v] w (Sorted v B xs w) := by
  rcases ho.2 with ⟨rfl, h0⟩ | ⟨g, cap, cur, rfl, hbase, hb, h1, h2, h3, h4⟩
  · obtain rfl : xs = [] := List.eq_nil_of_length_eq_zero h0
    refine (Tryz.slices_Sort_string_none none 0 w).mono ?_
    rintro e w' ⟨rfl, rfl⟩
    exact ⟨[], rfl, List.Perm.refl _, List.Pairwise.nil, ho, World.grownBy.refl _ _⟩
  · have hH : Go.Sort.Holds encStr w g 0 (xs.map byl).toArray := holds_of_block hb (by rw [map_byl, List.length_map]; simpa using h4)
    have hm := Tryz.slices_Sort_string g 0 cap (xs.map byl) w hH (Array.getElem?_eq_some_iff.1 hb).1 (by simp; omega)
    rw [List.length_map] at hm
    refine hm.mono ?_
    rintro e w' ⟨rfl, n, os, rfl⟩
    have hp : ((xs.map byl).mergeSort fun x y => decide (x ≤ y)).Perm (xs.map byl) := List.mergeSort_perm _ _
    refine ⟨((xs.map byl).mergeSort fun x y => decide (x ≤ y)).map ofl, rfl, ?_, ?_, ?_, ?_⟩
    · have := hp.map ofl
      rw [List.map_map] at this
      have e2 : (ofl ∘ byl) = id := funext ofl_byl
      rwa [e2, List.map_id] at this
    · unfold Asc
      rw [List.map_map]
      have e2 : (byl ∘ ofl) = id := funext byl_ofl
      rw [e2, List.map_id]
      exact asc_merge _
    · have := ownsRow_sorted (w := w) (base := B) (g := g) (cap := cap) (n := n) (os := os) (ss := xs.map byl) (ts := (xs.map byl).mergeSort fun x y => decide (x ≤ y)) (by simp) hbase hb (by simpa using h1) h2 h3
      rw [map_ofl, List.length_map] at this
      unfold Own
      rw [List.length_map, List.length_mergeSort, List.length_map]
      exact this
    · exact grownBy_sorted _

/-- Ascending, and no two neighbours are the same: no two are. -/
theorem nodup_of_asc {xs : List ByteArray} (h : Asc xs) (hn : ∀ j a b, xs[j]? = some a → xs[j + 1]? = some b → a ≠ b) : xs.Nodup := by
  induction xs with
  | nil => exact List.nodup_nil
  | cons x r ih =>
    unfold Asc at h
    rw [List.map_cons, List.pairwise_cons] at h
    refine List.nodup_cons.2 ⟨fun hx => ?_, ih h.2 (fun j a b ha hb => hn (j + 1) a b (by simpa using ha) (by simpa using hb))⟩
    cases r with
    | nil => simp at hx
    | cons y r =>
      have hxy : x ≠ y := hn 0 x y rfl rfl
      rcases List.mem_cons.1 hx with rfl | hx
      · exact hxy rfl
      · have h1 := h.1 (byl y) (by simp)
        have h2 := (List.pairwise_cons.1 (by simpa using h.2 : (byl y :: r.map byl).Pairwise (fun a b => a ≤ b))).1 (byl x) (List.mem_map.2 ⟨x, hx, rfl⟩)
        exact hxy (byl_inj (List.le_antisymm h1 h2))

def Cmp (v : Value) (B : Nat) (xs : List ByteArray) (w : World) (e : Ending) (w' : World) : Prop := ∃ v' ys, e = .returned v' ∧ (∀ s, s ∈ ys ↔ s ∈ xs) ∧ (xs.Nodup → ys = xs) ∧ Own w' B v' ys ∧ w.grownBy w' v.ownBlock ∧ v'.ownBlock = v.ownBlock

theorem compactUpTo_le (d : Array (List UInt8)) (m : Nat) : (Lib.compactUpTo d m).length ≤ m := by
  induction m with
  | zero => simp [Lib.compactUpTo]
  | succ m ih => rw [Lib.compactUpTo_succ, List.length_append]; split <;> simp <;> omega
theorem mem_compactUpTo (d : Array (List UInt8)) (m : Nat) (hm : m ≤ d.size) : ∀ s, s ∈ Lib.compactUpTo d m ↔ ∃ j, j < m ∧ d[j]! = s := by
  induction m with
  | zero => intro s; simp [Lib.compactUpTo]
  | succ m ih =>
    intro s
    rw [Lib.compactUpTo_succ, List.mem_append, ih (by omega) s]
    constructor
    · rintro (⟨j, hj, e⟩ | h)
      · exact ⟨j, by omega, e⟩
      · split at h
        · exact ⟨m, by omega, (List.mem_singleton.1 h).symm⟩
        · simp at h
    · rintro ⟨j, hj, e⟩
      by_cases hjm : j < m
      · exact Or.inl ⟨j, hjm, e⟩
      · obtain rfl : j = m := by omega
        by_cases hk : Lib.keeps d j = true
        · right; rw [if_pos hk]; simp [e]
        · left
          unfold Lib.keeps at hk
          simp at hk
          exact ⟨j - 1, by omega, by rw [← hk.2]; exact e⟩

theorem compact_any (v : Value) (B : Nat) (xs : List ByteArray) (w : World) (ho : Own w B v xs) (hl : xs.length ≤ 1000000) :
    Calls Tryz.prog 38 #[v] w (Cmp v B xs w) := by
  rcases ho.2 with ⟨rfl, h0⟩ | ⟨g, cap, cur, rfl, hbase, hb, h1, h2, h3, h4⟩
  · obtain rfl : xs = [] := List.eq_nil_of_length_eq_zero h0
    refine (Tryz.slices_Compact_string_empty none 0 w).mono ?_
    rintro e w' ⟨rfl, rfl⟩
    exact ⟨_, [], rfl, fun _ => Iff.rfl, fun _ => rfl, ho, World.grownBy.refl _ _, rfl⟩
  · have hH : Go.Sort.Holds encStr w g 0 (xs.map byl).toArray := holds_of_block hb (by rw [map_byl, List.length_map]; simpa using h4)
    have hm := Tryz.slices_Compact_string g 0 cap (xs.map byl) w hH (by simp; omega) (by simpa using h1)
    rw [List.length_map] at hm
    refine hm.mono ?_
    rintro e w' ⟨rfl, n, rfl⟩
    have hle : (Lib.compact (xs.map byl)).length ≤ xs.length := by have := compactUpTo_le (xs.map byl).toArray (xs.map byl).length; simpa [Lib.compact] using this
    have hgr := grownBy_sorted (w := w) (g := g) (n := n) (os := #[]) (Lib.compact (xs.map byl) ++ List.replicate (xs.length - (Lib.compact (xs.map byl)).length) []).toArray
    simp only [Sort.grow_empty] at hgr
    refine ⟨_, (Lib.compact (xs.map byl)).map ofl, rfl, ?_, ?_, ?_, hgr, rfl⟩
    · intro s
      constructor
      · intro hs
        obtain ⟨l, hl', rfl⟩ := List.mem_map.1 hs
        unfold Lib.compact at hl'
        obtain ⟨j, hj, e⟩ := (mem_compactUpTo _ _ (by simp) _).1 hl'
        rw [getElem!_pos _ j (by simpa using hj)] at e
        simp only [List.getElem_toArray, List.getElem_map] at e
        rw [← e, ofl_byl]
        exact List.getElem_mem _
      · intro hs
        refine List.mem_map.2 ⟨byl s, ?_, ofl_byl s⟩
        unfold Lib.compact
        obtain ⟨j, hj, e⟩ := List.getElem_of_mem hs
        refine (mem_compactUpTo _ _ (by simp) _).2 ⟨j, by simpa using hj, ?_⟩
        rw [getElem!_pos _ j (by simpa using hj)]
        simp [e]
    · intro hn
      have hk : ∀ j, j < (xs.map byl).length → Lib.keeps (xs.map byl).toArray j = true := by
        intro j hj
        unfold Lib.keeps
        simp only [decide_eq_true_eq]
        by_cases h0 : j = 0
        · exact Or.inl h0
        · right
          have hj' : j < xs.length := by simpa using hj
          rw [getElem!_pos _ j (by simpa using hj'), getElem!_pos _ (j - 1) (by simp; omega)]
          simp only [List.getElem_toArray, List.getElem_map]
          intro e
          have := byl_inj e
          have := (List.getElem_inj hn).1 this
          omega
      rw [Lib.compact_all _ hk, List.map_map]
      have e2 : (ofl ∘ byl) = id := funext ofl_byl
      rw [e2, List.map_id]
    · have hs := heap_sorted (w := w) (g := g) (n := n) (os := #[]) (Lib.compact (xs.map byl) ++ List.replicate (xs.length - (Lib.compact (xs.map byl)).length) []).toArray hb
      simp only [Sort.grow_empty] at hs
      refine ⟨by simp [strVs], .inr ⟨g, cap, _, by rw [List.length_map], hbase, hs, by rw [List.length_map]; omega, h2, by simp [Sort.putCells, h3], ?_⟩⟩
      have ht := take_putCells cur (Lib.compact (xs.map byl) ++ List.replicate (xs.length - (Lib.compact (xs.map byl)).length) []) (by simp; omega)
      have ht2 := congrArg (List.take (Lib.compact (xs.map byl)).length) ht
      rw [List.take_take, Nat.min_eq_left (by simp)] at ht2
      rw [Nat.mul_one, List.length_map, ht2]
      simp [strVs, List.map_append]
      exact fun _ _ => rfl

/-- Where a text stands first. -/
def idxS (xs : List ByteArray) (s : ByteArray) : Int := match xs.findIdx? (· == s) with | some i => (i : Int) | none => -1
theorem idx_from (x : ByteArray) : ∀ (xs : List ByteArray) (i : Nat), Lib.idxFromS xs x i = match xs.findIdx? (· == x) with | some j => ((i + j : Nat) : Int) | none => -1 := by
  intro xs
  induction xs with
  | nil => intro i; rfl
  | cons y r ih =>
    intro i
    unfold Lib.idxFromS
    rw [List.findIdx?_cons]
    by_cases h : y = x
    · subst h
      simp [(MapKept.bytes_beq y y).2 rfl]
    · have hb : (y == x) = false := by
        cases hc : y == x with
        | false => rfl
        | true => exact absurd ((MapKept.bytes_beq y x).1 hc) h
      rw [if_neg h, ih, hb]
      cases r.findIdx? (· == x) with
      | none => rfl
      | some j => show ((i + 1 + j : Nat) : Int) = ((i + (j + 1) : Nat) : Int); omega
theorem idxS_eq (xs : List ByteArray) (s : ByteArray) : Lib.idxOfS xs s = idxS xs s := by
  unfold Lib.idxOfS idxS
  rw [idx_from]
  cases xs.findIdx? (· == s) with
  | none => rfl
  | some j => simp

end Go.Proofs.YthagnngckegekaaGreatDoor
