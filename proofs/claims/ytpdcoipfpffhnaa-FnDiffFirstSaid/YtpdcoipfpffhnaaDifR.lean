/-
  Where two values differ. Conditions: none.
-/
import Derived.Test.YtpdcoipfpffhnaaFitL
namespace Go.Proofs.Ytpdcoipfpffhnaa
set_option linter.unusedVariables false

inductive Step where
  | idx (i : Nat)
  | key (k : ByteArray)

/-- The places at which two values differ. -/
inductive Dif : V → V → List Step → Prop
  | arr_in (a b : V) (i : Nat) (x y : V) (p : List Step) (ha : a.kind = 7) (hb : b.kind = 7) (hx : a.l[i]? = some x) (hy : b.l[i]? = some y) (h : Dif x y p) : Dif a b (.idx i :: p)
  | arr_len (a b : V) (ha : a.kind = 7) (hb : b.kind = 7) (h : a.l.length ≠ b.l.length) : Dif a b [.idx (min a.l.length b.l.length)]
  | obj (a b : V) (k : ByteArray) (p : List Step) (ha : a.kind = 8) (hb : b.kind = 8) (hk : k ∈ a.keys ∨ k ∈ b.keys) (h : Dif (a.member k) (b.member k) p) : Dif a b (.key k :: p)
  | leaf (a b : V) (h7 : ¬ (a.kind = 7 ∧ b.kind = 7)) (h8 : ¬ (a.kind = 8 ∧ b.kind = 8)) (h : ¬ LAlike a b) : Dif a b []

theorem dif_leaf {a b : V} {p : List Step} (h7 : ¬ (a.kind = 7 ∧ b.kind = 7)) (h8 : ¬ (a.kind = 8 ∧ b.kind = 8)) : Dif a b p ↔ p = [] ∧ ¬ LAlike a b := by
  constructor
  · intro h
    cases h with
    | arr_in _ _ _ _ _ _ ha hb => exact absurd ⟨ha, hb⟩ h7
    | arr_len _ _ ha hb => exact absurd ⟨ha, hb⟩ h7
    | obj _ _ _ _ ha hb => exact absurd ⟨ha, hb⟩ h8
    | leaf _ _ _ _ h => exact ⟨rfl, h⟩
  · rintro ⟨rfl, h⟩; exact .leaf a b h7 h8 h
theorem dif_arr {a b : V} {p : List Step} (ha : a.kind = 7) (hb : b.kind = 7) : Dif a b p ↔ (∃ i x y q, p = .idx i :: q ∧ a.l[i]? = some x ∧ b.l[i]? = some y ∧ Dif x y q) ∨ (a.l.length ≠ b.l.length ∧ p = [.idx (min a.l.length b.l.length)]) := by
  constructor
  · intro h
    cases h with
    | arr_in _ _ i x y q _ _ hx hy h => exact Or.inl ⟨i, x, y, q, rfl, hx, hy, h⟩
    | arr_len _ _ _ _ h => exact Or.inr ⟨h, rfl⟩
    | obj _ _ _ _ ha' => omega
    | leaf _ _ h7 => exact absurd ⟨ha, hb⟩ h7
  · rintro (⟨i, x, y, q, rfl, hx, hy, h⟩ | ⟨h, rfl⟩)
    · exact .arr_in a b i x y q ha hb hx hy h
    · exact .arr_len a b ha hb h
theorem dif_obj {a b : V} {p : List Step} (ha : a.kind = 8) (hb : b.kind = 8) : Dif a b p ↔ ∃ k q, p = .key k :: q ∧ (k ∈ a.keys ∨ k ∈ b.keys) ∧ Dif (a.member k) (b.member k) q := by
  constructor
  · intro h
    cases h with
    | arr_in _ _ _ _ _ _ ha' => omega
    | arr_len _ _ ha' => omega
    | obj _ _ k q _ _ hk h => exact ⟨k, q, rfl, hk, h⟩
    | leaf _ _ _ h8 => exact absurd ⟨ha, hb⟩ h8
  · rintro ⟨k, q, rfl, hk, h⟩
    exact .obj a b k q ha hb hk h

theorem dif_null {b : V} {p : List Step} (h : Dif V.null b p) : p = [] := by
  cases h with
  | arr_in _ _ _ _ _ _ ha' => exact absurd ha' (by decide)
  | arr_len _ _ ha' => exact absurd ha' (by decide)
  | obj _ _ _ _ ha' => exact absurd ha' (by decide)
  | leaf => rfl
theorem dif_len {a b : V} {p : List Step} (h : Dif a b p) : p.length ≤ a.wt := by
  induction h with
  | arr_in a b i x y p ha hb hx hy h ih => have := wt_kid (List.mem_of_getElem? hx); simp; omega
  | arr_len a b ha hb h =>
    have := wt_pos a
    simp; omega
  | obj a b k p ha hb hk h ih =>
    rcases a.member_cases k with e | e
    · rw [e] at h
      have := wt_pos a
      rw [dif_null h]
      simp; omega
    · have := wt_kid e
      simp; omega
  | leaf a b => simp

/-- A step as the program holds it. -/
def Step.val : Step → Value
  | .idx i => .iface 3 (.int .i64 i)
  | .key k => .iface 9 (.string k)
/-- A path as it is told: the whole by a nil. -/
def told : List Step → List Value
  | [] => [.nilIface]
  | s :: r => s.val :: r.map Step.val
theorem told_len (p : List Step) : (told p).length ≤ p.length + 1 := by cases p <;> simp [told]
theorem told_pos (p : List Step) : 1 ≤ (told p).length := by cases p <;> simp [told]
theorem told_ne {p : List Step} (h : p ≠ []) : told p = p.map Step.val := by cases p with
  | nil => exact absurd rfl h
  | cons s r => rfl
theorem told_one {p : List Step} : ∀ u ∈ told p, u.oneCell' = true := by
  intro u hu
  cases p with
  | nil => rw [List.mem_singleton.1 hu]; rfl
  | cons s r =>
    have : u ∈ (s :: r).map Step.val := hu
    obtain ⟨s', _, rfl⟩ := List.mem_map.1 this
    cases s' <;> rfl
end Go.Proofs.Ytpdcoipfpffhnaa
