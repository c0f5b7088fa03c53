/-
  The tables of discover.find, taken out of the program's own constants, and what they say of the bytes that matter. Conditions: none.
-/
import Derived.Test.YtlebdceidmkddaaStr
namespace Go.Proofs.Ytlebdceidmkddaa
open Go.ChangeShapes Go.WideShapes Go.ChangeAt Go.RowKit
set_option linter.unusedVariables false

def opStrs : Op → List ByteArray
  | .assign (.const (.string s)) => [s]
  | .store _ _ (.const (.string s)) => [s]
  | .binOp _ _ _ (.const (.string s)) _ => [s]
  | .index _ (.const (.string s)) _ => [s]
  | _ => []
def codeStrs : Code → List ByteArray
  | .region _ ops _ => ops.toList.flatMap fun o => opStrs o.op
  | .seq a b => codeStrs a ++ codeStrs b
  | .cond _ a b => codeStrs a ++ codeStrs b
  | .block _ c => codeStrs c
  | .loop c => codeStrs c
  | .scope c => codeStrs c
  | _ => []
noncomputable def allStrs : List ByteArray := match Try.f26.body with | some c => codeStrs c | none => []

inductive M where
  | scan | arr | obj | colon | pre | val | q2
  deriving DecidableEq

/-- The table of a mode. -/
noncomputable def tabOf : M → ByteArray
  | .scan => allStrs.getD 0 ⟨#[]⟩
  | .arr => allStrs.getD 3 ⟨#[]⟩
  | .obj => allStrs.getD 6 ⟨#[]⟩
  | .colon => allStrs.getD 9 ⟨#[]⟩
  | .pre => allStrs.getD 1 ⟨#[]⟩
  | .val => allStrs.getD 2 ⟨#[]⟩
  | .q2 => allStrs.getD 12 ⟨#[]⟩
noncomputable def quoteOk : ByteArray := allStrs.getD 11 ⟨#[]⟩

theorem tab_size (m : M) : (tabOf m).size = 257 := by cases m <;> kernel_rfl
theorem quoteOk_size : quoteOk.size = 256 := by kernel_rfl
def isBlank (b : Nat) : Bool := b == 32 || b == 10 || b == 9 || b == 13
def isAtom (b : Nat) : Bool := b == 45 || (decide (48 ≤ b) && decide (b ≤ 57)) || (decide (97 ≤ b) && decide (b ≤ 122))
/-- A table's entry, where we speak of it. -/
def code : M → Nat → Option Nat
  | .scan, b => some (if b == 91 then 91 else if b == 123 then 123 else 46)
  | .arr, b => if isBlank b || b == 44 || isAtom b then some 46 else if b == 91 then some 91 else if b == 123 then some 123 else if b == 93 then some 93 else if b == 34 then some 81 else none
  | .obj, b => if isBlank b || b == 44 then some 46 else if b == 34 then some 81 else if b == 125 then some 125 else none
  | .colon, b => if isBlank b then some 46 else if b == 58 then some 58 else none
  | .pre, b => if isBlank b then some 46 else if isAtom b then some 118 else if b == 91 then some 91 else if b == 123 then some 123 else if b == 34 then some 81 else none
  | .val, b => if isAtom b then some 46 else if isBlank b || b == 44 then some 86 else if b == 125 then some 125 else none
  | .q2, b => if b == 34 then some 122 else if decide (32 ≤ b) && b != 92 && b != 127 then some 46 else none
def okCode (t : ByteArray) (m : M) (b : Nat) : Bool := match code m b with | some c => (t.get! b).toNat == c | none => true
theorem code_all (m : M) : ((List.range 256).all fun b => okCode (tabOf m) m b) = true := by cases m <;> kernel_rfl
theorem code_tab {m : M} {b c : Nat} (h : code m b = some c) (hb : b < 256) (hs : b < (tabOf m).size) : (((tabOf m)[b]'hs).toNat : Int) = c := by
  have := List.all_eq_true.1 (code_all m) b (by simpa using hb)
  unfold okCode at this
  rw [h] at this
  have h2 : ((tabOf m).get! b).toNat = c := by simpa using this
  rw [← h2]
  congr 1
  show _ = ((tabOf m).get! b).toNat
  congr 1
  simp [ByteArray.get!, getElem!_pos, hs]
  rfl
def isOk (b : Nat) : Bool := isBlank b || b == 44 || b == 58 || b == 91 || b == 93 || b == 123 || b == 125
theorem ok_all : ((List.range 256).all fun b => !isOk b || (quoteOk.get! b).toNat == 111) = true := by kernel_rfl
theorem ok_tab {b : Nat} (h : isOk b = true) (hb : b < 256) (hs : b < quoteOk.size) : ((quoteOk[b]'hs).toNat : Int) = 111 := by
  have := List.all_eq_true.1 ok_all b (by simpa using hb)
  rw [h] at this
  have h2 : (quoteOk.get! b).toNat = 111 := by simpa using this
  have e : (quoteOk[b]'hs) = quoteOk.get! b := by
    simp [ByteArray.get!, getElem!_pos, hs]
    rfl
  rw [e, h2]; rfl
theorem tab_pre (m : M) : (tabOf m == tabOf .pre) = decide (m = .pre) := by cases m <;> kernel_rfl
theorem tab_val (m : M) : (tabOf m == tabOf .val) = decide (m = .val) := by cases m <;> kernel_rfl
theorem tab_obj (m : M) : (tabOf m == tabOf .obj) = decide (m = .obj) := by cases m <;> kernel_rfl

theorem tabL_pre (m : M) : ((tabOf m).data.toList == (tabOf .pre).data.toList) = decide (m = .pre) := by cases m <;> kernel_rfl
theorem tabL_val (m : M) : ((tabOf m).data.toList == (tabOf .val).data.toList) = decide (m = .val) := by cases m <;> kernel_rfl
theorem tabL_obj (m : M) : ((tabOf m).data.toList == (tabOf .obj).data.toList) = decide (m = .obj) := by cases m <;> kernel_rfl

/-- One byte of the automaton. -/
def step (prev : Nat) (m : M) (st : List M) (b : Nat) : Option (M × List M) :=
  match code m b with
  | some 46 => some (m, st)
  | some 91 => some (.arr, (if m = .pre ∨ m = .val then .obj else m) :: st)
  | some 123 => some (.obj, (if m = .pre ∨ m = .val then .obj else m) :: st)
  | some 93 => match st with | p :: st' => some (p, st') | [] => none
  | some 125 => match st with | p :: st' => some (p, st') | [] => none
  | some 58 => some (.pre, st)
  | some 81 => if isOk prev = true ∧ st ≠ [] then some (.q2, m :: st) else none
  | some 122 => match st with | p :: q :: st' => some (if p = .obj then .colon else if p = .pre then .obj else p, q :: st') | _ => none
  | some 118 => some (.val, st)
  | some 86 => some (.obj, st)
  | _ => none

/-- What is found: the bytes from an opening bracket to the closing one. -/
def run (prev : UInt8) (m : M) (st : List M) (cur : List UInt8) : List UInt8 → Option (List (List UInt8))
  | [] => if st = [] then some [] else none
  | b :: rest =>
    match step prev.toNat m st b.toNat with
    | none => none
    | some (m', st') =>
      if st' = [] then (if st = [] then run b m' [] [] rest else (run b m' [] [] rest).map ((cur ++ [b]) :: ·))
      else run b m' st' (if st = [] then [b] else cur ++ [b]) rest

def pushed (m : M) : M := if m = .pre ∨ m = .val then .obj else m
def closed (p : M) : M := if p = .obj then .colon else if p = .pre then .obj else p
theorem code_34 {m : M} {b : Nat} (h : code m b = some 81) : b = 34 := by
  cases m <;> simp only [code] at h <;> repeat' (split at h)
  all_goals simp_all

theorem code_val (b : Nat) {k : Nat} (h1 : k ≠ 46) (h2 : k ≠ 86) (h3 : k ≠ 125 := by decide) : code .val b ≠ some k := by
  simp only [code]
  repeat' split
  all_goals simp
  all_goals omega

/-- The ways of one byte. -/
theorem step_inv {prev : Nat} {m m' : M} {st st' : List M} {b : Nat} (h : step prev m st b = some (m', st')) :
    (code m b = some 46 ∧ m' = m ∧ st' = st) ∨ (code m b = some 91 ∧ m' = .arr ∧ st' = pushed m :: st) ∨ (code m b = some 123 ∧ m' = .obj ∧ st' = pushed m :: st) ∨
    ((code m b = some 93 ∨ code m b = some 125) ∧ st = m' :: st') ∨ (code m b = some 58 ∧ m' = .pre ∧ st' = st) ∨ (code m b = some 81 ∧ b = 34 ∧ (isOk prev = true ∧ st ≠ []) ∧ m' = .q2 ∧ st' = m :: st) ∨
    (code m b = some 122 ∧ ∃ p q r, st = p :: q :: r ∧ st' = q :: r ∧ m' = closed p) ∨ (code m b = some 118 ∧ m' = .val ∧ st' = st) ∨ (code m b = some 86 ∧ m' = .obj ∧ st' = st) := by
  unfold step at h
  split at h
  · rename_i hc; simp at h; exact Or.inl ⟨hc, h.1.symm, h.2.symm⟩
  · rename_i hc; simp at h; exact Or.inr (Or.inl ⟨hc, h.1.symm, h.2.symm⟩)
  · rename_i hc; simp at h; exact Or.inr (Or.inr (Or.inl ⟨hc, h.1.symm, h.2.symm⟩))
  · rename_i hc
    cases st with
    | nil => simp at h
    | cons p r => simp at h; exact Or.inr (Or.inr (Or.inr (Or.inl ⟨Or.inl hc, by rw [h.1, h.2]⟩)))
  · rename_i hc
    cases st with
    | nil => simp at h
    | cons p r => simp at h; exact Or.inr (Or.inr (Or.inr (Or.inl ⟨Or.inr hc, by rw [h.1, h.2]⟩)))
  · rename_i hc; simp at h; exact Or.inr (Or.inr (Or.inr (Or.inr (Or.inl ⟨hc, h.1.symm, h.2.symm⟩))))
  · rename_i hc
    split at h
    · rename_i ho; simp at h; exact Or.inr (Or.inr (Or.inr (Or.inr (Or.inr (Or.inl ⟨hc, code_34 hc, ho, h.1.symm, h.2.symm⟩)))))
    · simp at h
  · rename_i hc
    match st, h with
    | p :: q :: r, h => simp at h; exact Or.inr (Or.inr (Or.inr (Or.inr (Or.inr (Or.inr (Or.inl ⟨hc, p, q, r, rfl, h.2.symm, h.1.symm⟩))))))
    | [p], h => simp at h
    | [], h => simp at h
  · rename_i hc; simp at h; exact Or.inr (Or.inr (Or.inr (Or.inr (Or.inr (Or.inr (Or.inr (Or.inl ⟨hc, h.1.symm, h.2.symm⟩)))))))
  · rename_i hc; simp at h; exact Or.inr (Or.inr (Or.inr (Or.inr (Or.inr (Or.inr (Or.inr (Or.inr ⟨hc, h.1.symm, h.2.symm⟩)))))))
  · simp at h

theorem run_cons {prev : UInt8} {m : M} {st : List M} {cur : List UInt8} {b : UInt8} {tl : List UInt8} {rest : List (List UInt8)} (h : run prev m st cur (b :: tl) = some rest) :
    ∃ m' st', step prev.toNat m st b.toNat = some (m', st') ∧ ((st' = [] ∧ st = [] ∧ run b m' [] [] tl = some rest) ∨ (st' = [] ∧ st ≠ [] ∧ ∃ rest', run b m' [] [] tl = some rest' ∧ rest = (cur ++ [b]) :: rest') ∨
      (st' ≠ [] ∧ run b m' st' (if st = [] then [b] else cur ++ [b]) tl = some rest)) := by
  unfold run at h
  split at h
  · simp at h
  · rename_i m' st' hs
    refine ⟨m', st', hs, ?_⟩
    split at h
    · rename_i h0
      split at h
      · rename_i h1; exact Or.inl ⟨h0, h1, h⟩
      · rename_i h1
        obtain ⟨r, hr, he⟩ := Option.map_eq_some_iff.1 h
        exact Or.inr (Or.inl ⟨h0, h1, r, hr, he.symm⟩)
    · rename_i h0; exact Or.inr (Or.inr ⟨h0, h⟩)
end Go.Proofs.Ytlebdceidmkddaa
