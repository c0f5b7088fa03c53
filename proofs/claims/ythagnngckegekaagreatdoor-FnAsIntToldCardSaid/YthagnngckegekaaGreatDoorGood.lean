/-
  Which trees are values: clean, whole, without a kind. No program in sight. Conditions: none.
-/
import Derived.Test.YthagnngckegekaaGreatDoorTree
import Derived.Test.YthagnngckegekaaGreatDoorFlt
namespace Go.Proofs.YthagnngckegekaaGreatDoor
set_option linter.unusedVariables false

/-- Nothing that the kind does not use, as far as it is needed: leaves have no elements. -/
inductive V.Clean : V → Prop
  | leaf (v : V) (h1 : 1 ≤ v.kind) (h2 : v.kind ≤ 6) (hl : v.l = []) (hk : v.keys = []) : V.Clean v
  | arr (v : V) (h : v.kind = 7) (hk : v.keys = []) (hl : ∀ x ∈ v.l, V.Clean x) : V.Clean v
  | obj (v : V) (h : v.kind = 8) (hl : ∀ x ∈ v.l, V.Clean x) : V.Clean v

/-- A float that is a number. -/
def finF (f : Nat) : Bool := !nanF f && !infF f

/-- One, with whole kinds. -/
inductive V.Whole : V → Prop
  | leaf (v : V) (h : v.kind = 1 ∨ v.kind = 3 ∨ v.kind = 5 ∨ v.kind = 6) : V.Whole v
  | bool (v : V) (h : v.kind = 2) (hn : v.n = 0 ∨ v.n = 1) : V.Whole v
  | float (v : V) (h : v.kind = 4) (hn : finF v.f = true) : V.Whole v
  | arr (v : V) (h : v.kind = 7) (hl : ∀ x ∈ v.l, V.Whole x) : V.Whole v
  | obj (v : V) (h : v.kind = 8) (hk : v.keys.length = v.l.length) (hd : v.keys.Nodup) (hl : ∀ x ∈ v.l, V.Whole x) : V.Whole v

/-- No value of a kind is in it. -/
inductive V.No (k : Int) : V → Prop
  | mk (v : V) (h : v.kind ≠ k) (hl : v.kind = 7 ∨ v.kind = 8 → ∀ x ∈ v.l, V.No k x) : V.No k v

/-- What the laws speak of: a value, leaves without elements, no number that is a text. -/
inductive V.Ok : V → Prop
  | null (v : V) (h : v.kind = 1) (hl : v.l = []) (hk : v.keys = []) : V.Ok v
  | bool (v : V) (h : v.kind = 2) (hn : v.n = 0 ∨ v.n = 1) (hl : v.l = []) (hk : v.keys = []) : V.Ok v
  | int (v : V) (h : v.kind = 3) (hl : v.l = []) (hk : v.keys = []) : V.Ok v
  | float (v : V) (h : v.kind = 4) (hn : finF v.f = true) (hl : v.l = []) (hk : v.keys = []) : V.Ok v
  | str (v : V) (h : v.kind = 5) (hl : v.l = []) (hk : v.keys = []) : V.Ok v
  | arr (v : V) (h : v.kind = 7) (hk : v.keys = []) (hl : ∀ x ∈ v.l, V.Ok x) : V.Ok v
  | obj (v : V) (h : v.kind = 8) (hk : v.keys.length = v.l.length) (hd : v.keys.Nodup) (hl : ∀ x ∈ v.l, V.Ok x) : V.Ok v

theorem V.ok_of : ∀ v : V, v.Clean → v.Whole → v.No 6 → v.Ok := by
  intro v
  induction v using V.ind with
  | h v ih =>
  intro hc hw hn
  cases hn with
  | mk _ hne hn =>
  cases hc with
  | leaf _ h1 h2 hl hk =>
    cases hw with
    | leaf _ h =>
      rcases h with h | h | h | h
      · exact .null v h hl hk
      · exact .int v h hl hk
      · exact .str v h hl hk
      · exact absurd h hne
    | bool _ h hb => exact .bool v h hb hl hk
    | float _ h hb => exact .float v h hb hl hk
    | arr _ h => omega
    | obj _ h => omega
  | arr _ h hk hl =>
    cases hw with
    | leaf _ h => omega
    | bool _ h => omega
    | float _ h => omega
    | arr _ h hw => exact .arr v h hk (fun x hx => ih x hx (hl x hx) (hw x hx) (hn (Or.inl h) x hx))
    | obj _ h => omega
  | obj _ h hl =>
    cases hw with
    | leaf _ h => omega
    | bool _ h => omega
    | float _ h => omega
    | arr _ h => omega
    | obj _ h hk hd hw => exact .obj v h hk hd (fun x hx => ih x hx (hl x hx) (hw x hx) (hn (Or.inr h) x hx))

theorem V.Ok.kids {v : V} (h : v.Ok) : ∀ x ∈ v.l, x.Ok := by
  cases h with
  | arr _ _ _ hl => exact hl
  | obj _ _ _ _ hl => exact hl
  | _ _ _ => rename_i hl _; intro x hx; rw [hl] at hx; simp at hx
theorem V.No.kids {k : Int} {v : V} (h : v.No k) (ho : v.Ok) : ∀ x ∈ v.l, x.No k := by
  cases h with
  | mk _ hne hl =>
    cases ho with
    | arr _ h _ _ => exact hl (Or.inl h)
    | obj _ h _ _ _ => exact hl (Or.inr h)
    | _ _ _ => rename_i hl' _; intro x hx; rw [hl'] at hx; simp at hx

theorem wt_kid {v x : V} (hx : x ∈ v.l) : x.wt < v.wt := by
  have : ∀ l : List V, x ∈ l → x.wt ≤ V.wts l := by
    intro l
    induction l with
    | nil => intro h; simp at h
    | cons y r ih =>
      intro h
      simp only [V.wts]
      rcases List.mem_cons.1 h with rfl | h
      · omega
      · have := ih h; omega
  have := this v.l hx
  rw [V.wt_eq v]
  omega
theorem wts_len (l : List V) : l.length ≤ V.wts l := by
  induction l with
  | nil => simp
  | cons x r ih => have := wt_pos x; simp only [V.wts, List.length_cons]; omega
theorem wt_len (v : V) : v.l.length < v.wt := by have := wts_len v.l; rw [V.wt_eq]; omega
theorem wt_klen (v : V) : v.keys.length < v.wt := by rw [V.wt_eq]; omega
theorem sumS_mem {s : ByteArray} : ∀ {xs : List ByteArray}, s ∈ xs → s.size ≤ sumS xs
  | x :: r, h => by
    rcases List.mem_cons.1 h with rfl | h
    · simp [sumS]
    · have := sumS_mem h; simp [sumS] at this ⊢; omega
theorem wt_str (v : V) : v.s.size < v.wt := by rw [V.wt_eq]; omega

/-- The zero of nothing: null. -/
def V.null : V := ⟨1, 0, 0, ⟨#[]⟩, [], []⟩
/-- The value of a key; null if there is none. -/
def V.member (v : V) (k : ByteArray) : V :=
  match v.keys.findIdx? (· == k) with
  | some i => v.l.getD i V.null
  | none => V.null
theorem V.Ok.of_null : V.null.Ok := .null _ rfl rfl rfl
theorem V.No.of_null {k : Int} (h : k ≠ 1) : V.null.No k := .mk _ (fun e => h e.symm) (fun e => by rcases e with e | e <;> cases e)
theorem V.member_cases (v : V) (k : ByteArray) : v.member k = V.null ∨ v.member k ∈ v.l := by
  unfold V.member
  split
  · rename_i i _
    rw [List.getD_eq_getElem?_getD]
    cases h : v.l[i]? with
    | none => exact Or.inl rfl
    | some x => exact Or.inr (List.mem_of_getElem? h)
  · exact Or.inl rfl
theorem V.Ok.member {v : V} (h : v.Ok) (k : ByteArray) : (v.member k).Ok := by
  rcases v.member_cases k with e | e
  · rw [e]; exact V.Ok.of_null
  · exact h.kids _ e
end Go.Proofs.YthagnngckegekaaGreatDoor
