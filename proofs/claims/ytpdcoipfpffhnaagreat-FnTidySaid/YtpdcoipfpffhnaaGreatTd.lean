/-
  Trees that are alike, keys in any order; a tree made tidy. No program in sight. Conditions: none.
-/
import Derived.Test.YtpdcoipfpffhnaaGreatKit5
namespace Go.Proofs.YtpdcoipfpffhnaaGreat
set_option linter.unusedVariables false
set_option linter.unusedSimpArgs false

/-- Alike, keys in any order. -/
inductive EqV : V → V → Prop
  | leaf (a b : V) (hk : a.kind = b.kind) (h5 : a.kind = 1 ∨ a.kind = 2 ∨ a.kind = 3 ∨ a.kind = 4 ∨ a.kind = 5) (hn : a.kind = 2 ∨ a.kind = 3 → a.n = b.n) (hf : a.kind = 4 → a.f = b.f ∧ finF a.f = true) (hs : a.kind = 5 → a.s = b.s) : EqV a b
  | arr (a b : V) (ha : a.kind = 7) (hb : b.kind = 7) (hl : a.l.length = b.l.length) (h : ∀ (i : Nat) x y, a.l[i]? = some x → b.l[i]? = some y → EqV x y) : EqV a b
  | obj (a b : V) (ha : a.kind = 8) (hb : b.kind = 8) (al : a.keys.length = a.l.length) (bl : b.keys.length = b.l.length) (an : a.keys.Nodup) (bn : b.keys.Nodup) (hm : ∀ k, k ∈ a.keys ↔ k ∈ b.keys) (h : ∀ (i : Nat) k x, a.keys[i]? = some k → a.l[i]? = some x → EqV x (b.member k)) : EqV a b

theorem EqV.kind {a b : V} (h : EqV a b) : a.kind = b.kind := by
  cases h with
  | leaf _ _ hk => exact hk
  | arr _ _ ha hb => rw [ha, hb]
  | obj _ _ ha hb => rw [ha, hb]

theorem EqV.refl : ∀ v : V, v.Ok → EqV v v := by
  intro v
  induction v using V.ind with
  | h v ih =>
  intro ho
  have ih' : ∀ x ∈ v.l, EqV x x := fun x hx => ih x hx (ho.kids x hx)
  cases ho with
  | null _ h => exact .leaf v v rfl (Or.inl h) (fun _ => rfl) (fun h' => by omega) (fun _ => rfl)
  | bool _ h => exact .leaf v v rfl (Or.inr (Or.inl h)) (fun _ => rfl) (fun h' => by omega) (fun _ => rfl)
  | int _ h => exact .leaf v v rfl (Or.inr (Or.inr (Or.inl h))) (fun _ => rfl) (fun h' => by omega) (fun _ => rfl)
  | float _ h hf => exact .leaf v v rfl (Or.inr (Or.inr (Or.inr (Or.inl h)))) (fun _ => rfl) (fun _ => ⟨rfl, hf⟩) (fun _ => rfl)
  | str _ h => exact .leaf v v rfl (Or.inr (Or.inr (Or.inr (Or.inr h)))) (fun _ => rfl) (fun h' => by omega) (fun _ => rfl)
  | arr _ h hk hl => exact .arr v v h h rfl (fun i x y hx hy => by
      obtain rfl := Option.some.inj (hx.symm.trans hy)
      exact ih' x (get_mem hx))
  | obj _ h hk hd hl => exact .obj v v h h hk hk hd hd (fun _ => Iff.rfl) (fun i k x hk' hx => by
      rw [member_some hd hk hk' hx]
      exact ih' x (get_mem hx))

theorem key_at {v : V} (hl : v.keys.length = v.l.length) (hd : v.keys.Nodup) {k : ByteArray} (hk : k ∈ v.keys) : ∃ (i : Nat) (x : V), v.keys[i]? = some k ∧ v.l[i]? = some x ∧ v.member k = x := by
  obtain ⟨i, hi⟩ := List.getElem?_of_mem hk
  obtain ⟨x, hx⟩ : ∃ x, v.l[i]? = some x := get_lt (by have := (List.getElem?_eq_some_iff.1 hi).1; omega)
  exact ⟨i, x, hi, hx, member_some hd hl hi hx⟩

theorem EqV.trans {a b : V} (h : EqV a b) : ∀ {c : V}, EqV b c → EqV a c := by
  induction h with
  | leaf a b hk h5 hn hf hs =>
    intro c h2
    cases h2 with
    | leaf _ _ hk' h5' hn' hf' hs' =>
      refine .leaf a c (hk.trans hk') h5 (fun h => (hn h).trans (hn' (by rw [← hk]; exact h))) (fun h => ⟨(hf h).1.trans (hf' (by rw [← hk]; exact h)).1, (hf h).2⟩) (fun h => (hs h).trans (hs' (by rw [← hk]; exact h)))
    | arr _ _ ha' => omega
    | obj _ _ ha' => omega
  | arr a b ha hb hl h ih =>
    intro c h2
    cases h2 with
    | leaf _ _ hk' h5' => omega
    | arr _ _ ha' hb' hl' h' =>
      refine .arr a c ha hb' (hl.trans hl') (fun i x z hx hz => ?_)
      obtain ⟨y, hy⟩ : ∃ y, b.l[i]? = some y := get_lt (by have := (List.getElem?_eq_some_iff.1 hx).1; omega)
      exact ih i x y hx hy (h' i y z hy hz)
    | obj _ _ ha' => omega
  | obj a b ha hb al bl an bn hm h ih =>
    intro c h2
    cases h2 with
    | leaf _ _ hk' h5' => omega
    | arr _ _ ha' => omega
    | obj _ _ ha' hb' al' bl' an' bn' hm' h' =>
      refine .obj a c ha hb' al bl' an bn' (fun k => (hm k).trans (hm' k)) (fun i k x hk hx => ?_)
      obtain ⟨j, y, hj, hy, e⟩ := key_at bl bn ((hm k).1 (get_mem hk))
      have h3 := h' j k y hj hy
      rw [← e] at h3
      exact ih i k x hk hx h3

/-! ### Tidy -/
/-- What is left out with what is empty. -/
def V.bare (v : V) : Bool := if v.kind = 1 then true else if v.kind = 2 ∨ v.kind = 3 then decide (v.n = 0) else if v.kind = 5 then v.s.toList.isEmpty else if v.kind = 4 then false else decide (v.l.length = 0)
def V.drop (on oe : Bool) (v : V) : Bool := (on && decide (v.kind = 1)) || (oe && v.bare)

mutual
def V.tidy (on oe : Bool) : V → V
  | ⟨k, n, f, s, l, ks⟩ => ⟨k, n, f, s, if k = 8 then V.tidyL on oe ks l else V.tidyA on oe l, if k = 8 then V.tidyK on oe ks l else []⟩
def V.tidyA (on oe : Bool) : List V → List V
  | [] => []
  | v :: r => v.tidy on oe :: V.tidyA on oe r
def V.tidyL (on oe : Bool) : List ByteArray → List V → List V
  | k :: ks, v :: r => if (v.tidy on oe).drop on oe then V.tidyL on oe ks r else v.tidy on oe :: V.tidyL on oe ks r
  | _, _ => []
def V.tidyK (on oe : Bool) : List ByteArray → List V → List ByteArray
  | k :: ks, v :: r => if (v.tidy on oe).drop on oe then V.tidyK on oe ks r else k :: V.tidyK on oe ks r
  | _, _ => []
end
theorem tidy_eq (on oe : Bool) (v : V) : v.tidy on oe = ⟨v.kind, v.n, v.f, v.s, if v.kind = 8 then V.tidyL on oe v.keys v.l else V.tidyA on oe v.l, if v.kind = 8 then V.tidyK on oe v.keys v.l else []⟩ := by
  cases v; simp [V.tidy]
theorem tidyA_map (on oe : Bool) (l : List V) : V.tidyA on oe l = l.map (V.tidy on oe) := by
  induction l with
  | nil => simp [V.tidyA]
  | cons v r ih => simp [V.tidyA, ih]
theorem tidyA_get {on oe : Bool} {l : List V} {i : Nat} {x : V} (h : l[i]? = some x) : (V.tidyA on oe l)[i]? = some (x.tidy on oe) := by
  rw [tidyA_map, List.getElem?_map, h]; rfl
theorem tidyA_len (on oe : Bool) (l : List V) : (V.tidyA on oe l).length = l.length := by rw [tidyA_map, List.length_map]
theorem tidyK_len (on oe : Bool) : ∀ (ks : List ByteArray) (l : List V), (V.tidyK on oe ks l).length = (V.tidyL on oe ks l).length
  | [], l => by cases l <;> simp [V.tidyK, V.tidyL]
  | k :: ks, [] => by simp [V.tidyK, V.tidyL]
  | k :: ks, v :: r => by
    simp only [V.tidyK, V.tidyL]
    have ih := tidyK_len on oe ks r
    split <;> simp [ih]
theorem tidyK_append (on oe : Bool) : ∀ (ks : List ByteArray) (l : List V) (k : ByteArray) (v : V), ks.length = l.length → V.tidyK on oe (ks ++ [k]) (l ++ [v]) = V.tidyK on oe ks l ++ (if (v.tidy on oe).drop on oe then [] else [k])
  | [], [], k, v, _ => by simp only [List.nil_append, V.tidyK]
  | k0 :: ks, v0 :: r, k, v, h => by
    simp only [List.cons_append, V.tidyK]
    have ih := tidyK_append on oe ks r k v (by simpa using h)
    split <;> simp [ih]
theorem tidyL_append (on oe : Bool) : ∀ (ks : List ByteArray) (l : List V) (k : ByteArray) (v : V), ks.length = l.length → V.tidyL on oe (ks ++ [k]) (l ++ [v]) = V.tidyL on oe ks l ++ (if (v.tidy on oe).drop on oe then [] else [v.tidy on oe])
  | [], [], k, v, _ => by simp only [List.nil_append, V.tidyL]
  | k0 :: ks, v0 :: r, k, v, h => by
    simp only [List.cons_append, V.tidyL]
    have ih := tidyL_append on oe ks r k v (by simpa using h)
    split <;> simp [ih]
/-- What is kept of an object: its keys in their order, each with its tidy value. -/
theorem tidy_zip (on oe : Bool) : ∀ (ks : List ByteArray) (l : List V) (j : Nat) (k : ByteArray), (V.tidyK on oe ks l)[j]? = some k → ∃ (i : Nat) (x : V), ks[i]? = some k ∧ l[i]? = some x ∧ (x.tidy on oe).drop on oe = false ∧ (V.tidyL on oe ks l)[j]? = some (x.tidy on oe)
  | [], l, j, k, h => by cases l <;> simp [V.tidyK] at h
  | k0 :: ks, [], j, k, h => by simp [V.tidyK] at h
  | k0 :: ks, v :: r, j, k, h => by
    simp only [V.tidyK, V.tidyL] at h ⊢
    cases hd : (v.tidy on oe).drop on oe with
    | true =>
      rw [hd] at h
      simp only [if_true] at h ⊢
      obtain ⟨i, x, h1, h2, h3, h4⟩ := tidy_zip on oe ks r j k h
      exact ⟨i + 1, x, h1, h2, h3, h4⟩
    | false =>
      rw [hd] at h
      simp only [Bool.false_eq_true, if_false] at h ⊢
      cases j with
      | zero =>
        simp at h
        subst h
        exact ⟨0, v, rfl, rfl, hd, rfl⟩
      | succ j =>
        obtain ⟨i, x, h1, h2, h3, h4⟩ := tidy_zip on oe ks r j k (by simpa using h)
        exact ⟨i + 1, x, h1, h2, h3, by simpa using h4⟩
theorem tidy_sub (on oe : Bool) : ∀ (ks : List ByteArray) (l : List V), (V.tidyK on oe ks l).Sublist ks
  | [], l => by cases l <;> simp [V.tidyK]
  | k0 :: ks, [] => by simp [V.tidyK]
  | k0 :: ks, v :: r => by
    simp only [V.tidyK]
    have ih := tidy_sub on oe ks r
    split
    · exact ih.cons _
    · exact ih.cons_cons _
theorem tidy_has (on oe : Bool) : ∀ (ks : List ByteArray) (l : List V) (i : Nat) (k : ByteArray) (x : V), ks[i]? = some k → l[i]? = some x → (x.tidy on oe).drop on oe = false → k ∈ V.tidyK on oe ks l
  | [], l, i, k, x, h, _, _ => by simp at h
  | k0 :: ks, [], i, k, x, _, h, _ => by simp at h
  | k0 :: ks, v :: r, 0, k, x, h1, h2, h3 => by
    simp at h1 h2
    subst h1 h2
    simp [V.tidyK, h3]
  | k0 :: ks, v :: r, i + 1, k, x, h1, h2, h3 => by
    have ih := tidy_has on oe ks r i k x (by simpa using h1) (by simpa using h2) h3
    simp only [V.tidyK]
    split
    · exact ih
    · exact List.mem_cons_of_mem _ ih

theorem V.tidy_kind (on oe : Bool) (v : V) : (v.tidy on oe).kind = v.kind := by rw [tidy_eq]
theorem V.Ok.leafs {v : V} (h : v.Ok) (h7 : v.kind ≠ 7) (h8 : v.kind ≠ 8) : v.l = [] ∧ v.keys = [] := by
  cases h <;> first | omega | exact ⟨by assumption, by assumption⟩
theorem tidy_leaf {on oe : Bool} {v : V} (h : v.Ok) (h7 : v.kind ≠ 7) (h8 : v.kind ≠ 8) : v.tidy on oe = v := by
  obtain ⟨h1, h2⟩ := h.leafs h7 h8
  rw [tidy_eq, if_neg h8, if_neg h8, h1]
  cases v
  simp_all [V.tidyA]

theorem V.Ok.tidy {on oe : Bool} : ∀ v : V, v.Ok → (v.tidy on oe).Ok := by
  intro v
  induction v using V.ind with
  | h v ih =>
  intro ho
  have ih' : ∀ x ∈ v.l, (x.tidy on oe).Ok := fun x hx => ih x hx (ho.kids x hx)
  by_cases h7 : v.kind = 7
  · refine .arr _ (by rw [V.tidy_kind]; exact h7) (by rw [tidy_eq]; show (if v.kind = 8 then _ else _) = _; rw [if_neg (by omega)]) (fun x hx => ?_)
    rw [tidy_eq] at hx
    dsimp only at hx
    rw [if_neg (by omega), tidyA_map] at hx
    obtain ⟨y, hy, rfl⟩ := List.mem_map.1 hx
    exact ih' y hy
  by_cases h8 : v.kind = 8
  · have hnd : v.keys.Nodup := by cases ho <;> first | omega | assumption
    have hln : v.keys.length = v.l.length := by cases ho <;> first | omega | assumption
    refine .obj _ (by rw [V.tidy_kind]; exact h8) ?_ ?_ (fun x hx => ?_)
    · rw [tidy_eq]
      dsimp only
      rw [if_pos h8, if_pos h8]
      exact tidyK_len on oe _ _
    · rw [tidy_eq]
      dsimp only
      rw [if_pos h8]
      exact (tidy_sub on oe _ _).nodup hnd
    · rw [tidy_eq] at hx
      dsimp only at hx
      rw [if_pos h8] at hx
      obtain ⟨j, hj⟩ := List.getElem?_of_mem hx
      obtain ⟨k, hk⟩ : ∃ k, (V.tidyK on oe v.keys v.l)[j]? = some k := get_lt (by rw [tidyK_len]; exact (List.getElem?_eq_some_iff.1 hj).1)
      obtain ⟨i, y, h1, h2, h3, h4⟩ := tidy_zip on oe _ _ j k hk
      obtain rfl := Option.some.inj (hj.symm.trans h4)
      exact ih' y (get_mem h2)
  · rw [tidy_leaf ho h7 h8]; exact ho

theorem wts_sub (on oe : Bool) : ∀ (ks : List ByteArray) (l : List V), (∀ x ∈ l, (x.tidy on oe).wt ≤ x.wt) → V.wts (V.tidyL on oe ks l) ≤ V.wts l
  | [], l, _ => by cases l <;> simp [V.tidyL, V.wts]
  | k :: ks, [], _ => by simp [V.tidyL, V.wts]
  | k :: ks, v :: r, h => by
    simp only [V.tidyL]
    have ih := wts_sub on oe ks r (fun x hx => h x (List.mem_cons_of_mem _ hx))
    have hv := h v (List.mem_cons_self ..)
    split <;> simp only [V.wts] <;> omega
theorem sumS_sub {a b : List ByteArray} (h : a.Sublist b) : sumS a ≤ sumS b ∧ a.length ≤ b.length := by
  induction h with
  | slnil => simp
  | cons x _ ih => simp only [sumS, List.map_cons, List.sum_cons, List.length_cons] at ih ⊢; omega
  | cons_cons x _ ih => simp only [sumS, List.map_cons, List.sum_cons, List.length_cons] at ih ⊢; omega
theorem tidy_wt (on oe : Bool) : ∀ v : V, (v.tidy on oe).wt ≤ v.wt := by
  intro v
  induction v using V.ind with
  | h v ih =>
  rw [V.wt_eq, V.wt_eq v, tidy_eq]
  dsimp only
  by_cases h8 : v.kind = 8
  · rw [if_pos h8, if_pos h8]
    have h1 := wts_sub on oe v.keys v.l ih
    have h2 := sumS_sub (tidy_sub on oe v.keys v.l)
    omega
  · rw [if_neg h8, if_neg h8]
    have h1 : V.wts (V.tidyA on oe v.l) ≤ V.wts v.l := by
      have : ∀ l : List V, (∀ x ∈ l, (x.tidy on oe).wt ≤ x.wt) → V.wts (V.tidyA on oe l) ≤ V.wts l := by
        intro l
        induction l with
        | nil => intro _; simp [V.tidyA, V.wts]
        | cons y r ih2 =>
          intro h
          have h1 := h y (List.mem_cons_self ..)
          have h2 := ih2 (fun x hx => h x (List.mem_cons_of_mem _ hx))
          simp only [V.tidyA, V.wts]
          omega
      exact this v.l ih
    simp only [List.length_nil, sumS, List.map_nil, List.sum_nil]
    omega

/-- What is alike is left out alike. -/
theorem EqV.drop {on oe : Bool} {a b : V} (h : EqV a b) : a.drop on oe = b.drop on oe := by
  have hk := h.kind
  unfold V.drop V.bare
  rw [hk]
  cases h with
  | leaf _ _ _ h5 hn hf hs =>
    by_cases h1 : b.kind = 1
    · simp [h1]
    by_cases h2 : b.kind = 2 ∨ b.kind = 3
    · rw [hn (by rw [hk]; exact h2)]
      simp [h1, h2]
    by_cases h3 : b.kind = 5
    · rw [hs (by rw [hk]; exact h3)]
      simp [h1, h2, h3]
    · have h4 : b.kind = 4 := by omega
      simp [h4]
  | arr _ _ ha hb hl => simp [hb, hl]
  | obj _ _ ha hb al bl an bn hm _ =>
    have h1 := nodup_le a.keys b.keys an (fun s hs => (hm s).1 hs)
    have h2 := nodup_le b.keys a.keys bn (fun s hs => (hm s).2 hs)
    have : a.l.length = b.l.length := by omega
    simp [hb, this]
end Go.Proofs.YtpdcoipfpffhnaaGreat
