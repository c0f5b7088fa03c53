/-
  Decimal digits: the number that digits say, the order of digit texts, and the table of leftcheats. No program in sight. Conditions: none.
-/
import Derived.Test.YthagnngckegekaaGreatDoorBox
import GoSem.PinnedTables
import Derived.KernelRfl
namespace Go.Proofs.YthagnngckegekaaGreatDoor
set_option linter.unusedVariables false
set_option linter.unusedSimpArgs false

/-- A text's bytes. -/
def L (s : ByteArray) : List UInt8 := s.data.toList
theorem L_len (s : ByteArray) : (L s).length = s.size := data_size s
theorem L_get {s : ByteArray} {k : Nat} (h : k < s.size) : (L s)[k]? = some (s[k]'h) := by
  unfold L
  rw [List.getElem?_eq_getElem (by rw [data_size]; exact h)]
  rfl
theorem L_extract (s : ByteArray) (a b : Nat) : L (s.extract a b) = ((L s).drop a).take (b - a) := by simp [L]

/-- The number that digits say. -/
def val (l : List Nat) : Nat := l.foldl (fun a d => a * 10 + d) 0
theorem foldl_val (l : List Nat) (a : Nat) : l.foldl (fun a d => a * 10 + d) a = a * 10 ^ l.length + val l := by
  unfold val
  induction l generalizing a with
  | nil => simp
  | cons d r ih =>
    simp only [List.foldl_cons, List.length_cons]
    rw [ih (a * 10 + d), ih (0 * 10 + d), Nat.pow_succ]
    rw [Nat.add_mul, Nat.zero_mul, Nat.zero_add, Nat.mul_assoc, Nat.mul_comm 10, Nat.add_assoc]
theorem val_append (a b : List Nat) : val (a ++ b) = val a * 10 ^ b.length + val b := by
  unfold val
  rw [List.foldl_append, foldl_val]
  rfl
theorem val_cons (d : Nat) (r : List Nat) : val (d :: r) = d * 10 ^ r.length + val r := by
  have := val_append [d] r
  simpa [val] using this
theorem val_snoc (a : List Nat) (d : Nat) : val (a ++ [d]) = val a * 10 + d := by
  rw [val_append]
  simp [val]

def Digs (l : List Nat) : Prop := ∀ d ∈ l, d ≤ 9
theorem val_lt {l : List Nat} (h : Digs l) : val l < 10 ^ l.length := by
  induction l with
  | nil => simp [val]
  | cons d r ih =>
    have h1 := ih (fun x hx => h x (by simp [hx]))
    have h2 : d ≤ 9 := h d (by simp)
    rw [val_cons, List.length_cons, Nat.pow_succ]
    have : d * 10 ^ r.length ≤ 9 * 10 ^ r.length := Nat.mul_le_mul_right _ h2
    omega
theorem val_ge {d : Nat} {r : List Nat} (h : 1 ≤ d) : 10 ^ r.length ≤ val (d :: r) := by
  rw [val_cons]
  have : 1 * 10 ^ r.length ≤ d * 10 ^ r.length := Nat.mul_le_mul_right _ h
  omega

/-- Digits stand ahead of others, a shorter text ahead of its continuations. -/
def lexN : List Nat → List Nat → Bool
  | _, [] => false
  | [], _ :: _ => true
  | b :: bs, c :: cs => if b = c then lexN bs cs else decide (b < c)

theorem lex_true : ∀ {bs cs : List Nat}, Digs bs → Digs cs → cs.getLast? ≠ some 0 → lexN bs cs = true → val bs * 10 ^ cs.length < val cs * 10 ^ bs.length
  | _, [], _, _, _, h => by simp [lexN] at h
  | [], c :: cs, _, hc, hl, _ => by
    have h0 : 0 < val (c :: cs) := by
      clear hc
      induction cs generalizing c with
      | nil =>
        simp [val] at hl ⊢
        omega
      | cons d r ih =>
        rw [val_cons]
        exact Nat.lt_of_lt_of_le (ih d (by simpa using hl) (by simp [lexN])) (Nat.le_add_left _ _)
    simpa [val] using h0
  | b :: bs, c :: cs, hb, hc, hl, h => by
    have hb' : Digs bs := fun x hx => hb x (by simp [hx])
    have hc' : Digs cs := fun x hx => hc x (by simp [hx])
    simp only [lexN] at h
    split at h
    · rename_i e
      subst e
      cases cs with
      | nil => cases bs <;> simp [lexN] at h
      | cons d r =>
        have ih := lex_true hb' hc' (by simpa using hl) h
        rw [val_cons b bs, val_cons b (d :: r)]
        have l1 : (b :: bs).length = bs.length + 1 := rfl
        have l2 : (b :: d :: r).length = (d :: r).length + 1 := rfl
        rw [l1, l2, Nat.pow_succ, Nat.pow_succ]
        generalize 10 ^ (d :: r).length = P at *
        generalize 10 ^ bs.length = Q at *
        generalize val (d :: r) = X at *
        generalize val bs = Y at *
        have e1 : (b * Q + Y) * (P * 10) = b * Q * P * 10 + Y * P * 10 := by
          rw [Nat.add_mul]; simp only [Nat.mul_assoc]
        have e2 : (b * P + X) * (Q * 10) = b * Q * P * 10 + X * Q * 10 := by
          rw [Nat.add_mul]; simp only [Nat.mul_assoc]
          rw [Nat.mul_left_comm P Q 10]
        omega
    · have hlt : b < c := of_decide_eq_true h
      have h1 := val_lt hb'
      have hpos : 0 < 10 ^ cs.length := Nat.pow_pos (by decide)
      rw [val_cons b bs, val_cons c cs, List.length_cons, List.length_cons, Nat.pow_succ, Nat.pow_succ]
      generalize 10 ^ cs.length = P at *
      generalize 10 ^ bs.length = Q at *
      have h2 : b * Q + val bs < c * Q := by
        have : (b + 1) * Q ≤ c * Q := Nat.mul_le_mul_right _ hlt
        rw [Nat.add_mul] at this
        omega
      have hP : 0 < P * 10 := by omega
      calc (b * Q + val bs) * (P * 10) < c * Q * (P * 10) := Nat.mul_lt_mul_of_pos_right h2 hP
          _ = c * P * (Q * 10) := by simp only [Nat.mul_assoc]; rw [Nat.mul_left_comm Q P 10]
          _ ≤ (c * P + val cs) * (Q * 10) := Nat.mul_le_mul_right _ (by omega)

theorem lex_false : ∀ {bs cs : List Nat}, Digs bs → Digs cs → lexN bs cs = false → val cs * 10 ^ bs.length ≤ val bs * 10 ^ cs.length
  | bs, [], _, _, _ => by simp [val]
  | [], c :: cs, _, _, h => by simp [lexN] at h
  | b :: bs, c :: cs, hb, hc, h => by
    have hb' : Digs bs := fun x hx => hb x (by simp [hx])
    have hc' : Digs cs := fun x hx => hc x (by simp [hx])
    simp only [lexN] at h
    split at h
    · rename_i e
      subst e
      have ih := lex_false hb' hc' h
      rw [val_cons b bs, val_cons b cs]
      have l1 : (b :: bs).length = bs.length + 1 := rfl
      have l2 : (b :: cs).length = cs.length + 1 := rfl
      rw [l1, l2, Nat.pow_succ, Nat.pow_succ]
      generalize 10 ^ cs.length = P at *
      generalize 10 ^ bs.length = Q at *
      generalize val cs = X at *
      generalize val bs = Y at *
      have e1 : (b * Q + Y) * (P * 10) = b * Q * P * 10 + Y * P * 10 := by
        rw [Nat.add_mul]; simp only [Nat.mul_assoc]
      have e2 : (b * P + X) * (Q * 10) = b * Q * P * 10 + X * Q * 10 := by
        rw [Nat.add_mul]; simp only [Nat.mul_assoc]
        rw [Nat.mul_left_comm P Q 10]
      omega
    · rename_i hne
      have hlt : c < b := by have := of_decide_eq_false h; omega
      have h1 := val_lt hc'
      rw [val_cons b bs, val_cons c cs, List.length_cons, List.length_cons, Nat.pow_succ, Nat.pow_succ]
      generalize 10 ^ cs.length = P at *
      generalize 10 ^ bs.length = Q at *
      have h2 : c * P + val cs ≤ b * P := by
        have : (c + 1) * P ≤ b * P := Nat.mul_le_mul_right _ hlt
        rw [Nat.add_mul] at this
        omega
      calc (c * P + val cs) * (Q * 10) ≤ b * P * (Q * 10) := Nat.mul_le_mul_right _ h2
        _ = b * Q * (P * 10) := by simp only [Nat.mul_assoc]; rw [Nat.mul_left_comm P Q 10]
        _ ≤ (b * Q + val bs) * (P * 10) := Nat.mul_le_mul_right _ (by omega)

/-- A row of the table. -/
def cheatD (k : Nat) : Nat := (Pinned.cheatRows.getD k (0, [])).1
def cheatS (k : Nat) : List UInt8 := (Pinned.cheatRows.getD k (0, [])).2
def cheatN (k : Nat) : List Nat := (cheatS k).map (·.toNat - 48)
def cheatOk (k : Nat) : Bool :=
  ((cheatS k).all fun b => decide (48 ≤ b.toNat ∧ b.toNat ≤ 57)) && decide ((cheatN k).getLast? = some 5) && decide (val (cheatN k) = 5 ^ k) && decide ((cheatN k).length + cheatD k = k + 1) && decide (1 ≤ cheatD k) && decide (cheatD k ≤ 19) && decide (2 ^ k ≤ 10 ^ cheatD k) && decide (10 ^ (cheatD k - 1) ≤ 2 ^ k)
set_option maxRecDepth 100000 in
theorem cheats_ok : ((List.range 60).all fun j => cheatOk (j + 1)) = true := by kernel_rfl
structure Cheat (k : Nat) : Prop where
  bytes : ∀ b ∈ cheatS k, 48 ≤ b.toNat ∧ b.toNat ≤ 57
  last : (cheatN k).getLast? = some 5
  num : val (cheatN k) = 5 ^ k
  len : (cheatN k).length + cheatD k = k + 1
  one : 1 ≤ cheatD k
  few : cheatD k ≤ 19
  up : 2 ^ k ≤ 10 ^ cheatD k
  low : 10 ^ (cheatD k - 1) ≤ 2 ^ k
theorem cheat {k : Nat} (h1 : 1 ≤ k) (h2 : k ≤ 60) : Cheat k := by
  have h := List.all_eq_true.1 cheats_ok (k - 1) (by simp; omega)
  rw [show k - 1 + 1 = k by omega] at h
  simp only [cheatOk, Bool.and_eq_true, decide_eq_true_eq, List.all_eq_true] at h
  obtain ⟨⟨⟨⟨⟨⟨⟨a1, a2⟩, a3⟩, a4⟩, a5⟩, a6⟩, a7⟩, a8⟩ := h
  exact ⟨a1, a2, a3, a4, a5, a6, a7, a8⟩
theorem Cheat.digs {k : Nat} (h : Cheat k) : Digs (cheatN k) := by
  intro d hd
  obtain ⟨b, hb, rfl⟩ := List.mem_map.1 hd
  have := h.bytes b hb
  omega
theorem Cheat.lastne {k : Nat} (h : Cheat k) : (cheatN k).getLast? ≠ some 0 := by rw [h.last]; simp

/-- How many digits more a product with 2^k has. -/
def more (k : Nat) (ds : List Nat) : Nat := if lexN ds (cheatN k) then cheatD k - 1 else cheatD k

theorem ten_pow (k : Nat) : 10 ^ k = 5 ^ k * 2 ^ k := by rw [← Nat.mul_pow]

theorem more_up {k : Nat} {ds : List Nat} (h1 : 1 ≤ k) (h2 : k ≤ 60) (hd : Digs ds) : val ds * 2 ^ k < 10 ^ (ds.length + more k ds) := by
  have c := cheat h1 h2
  unfold more
  cases hl : lexN ds (cheatN k) with
  | false =>
    simp only [Bool.false_eq_true, if_false]
    rw [Nat.pow_add]
    exact Nat.lt_of_lt_of_le (Nat.mul_lt_mul_of_pos_right (val_lt hd) (Nat.pow_pos (by decide))) (Nat.mul_le_mul_left _ c.up)
  | true =>
    simp only [if_true]
    have h := lex_true hd c.digs c.lastne hl
    rw [c.num] at h
    have hlen : (cheatN k).length + (cheatD k - 1) = k := by have := c.len; have := c.one; omega
    apply Nat.lt_of_mul_lt_mul_right (a := 10 ^ (cheatN k).length)
    have e : 10 ^ (ds.length + (cheatD k - 1)) * 10 ^ (cheatN k).length = 5 ^ k * 10 ^ ds.length * 2 ^ k := by
      rw [← Nat.pow_add, show ds.length + (cheatD k - 1) + (cheatN k).length = ds.length + k by omega, Nat.pow_add, ten_pow k]
      rw [Nat.mul_comm (10 ^ ds.length), Nat.mul_assoc, Nat.mul_assoc, Nat.mul_comm (2 ^ k)]
    rw [e, Nat.mul_assoc, Nat.mul_comm (2 ^ k), ← Nat.mul_assoc]
    exact Nat.mul_lt_mul_of_pos_right h (Nat.pow_pos (by decide))

theorem more_low {k d : Nat} {ds : List Nat} (h1 : 1 ≤ k) (h2 : k ≤ 60) (hd : Digs (d :: ds)) (h0 : 1 ≤ d) (hm : 1 ≤ more k (d :: ds)) : 10 ^ ((d :: ds).length + more k (d :: ds) - 1) ≤ val (d :: ds) * 2 ^ k := by
  have c := cheat h1 h2
  have hv := val_ge (r := ds) h0
  revert hm
  unfold more
  cases hl : lexN (d :: ds) (cheatN k) with
  | false =>
    simp only [Bool.false_eq_true, if_false]
    intro hm
    have h := lex_false hd c.digs hl
    rw [c.num] at h
    have hlen : (cheatN k).length + (cheatD k - 1) = k := by have := c.len; have := c.one; omega
    have hp : 0 < 10 ^ (cheatN k).length := Nat.pow_pos (by decide)
    refine Nat.le_of_mul_le_mul_right (c := 10 ^ (cheatN k).length) ?_ hp
    have e : 10 ^ ((d :: ds).length + cheatD k - 1) * 10 ^ (cheatN k).length = 5 ^ k * 10 ^ (d :: ds).length * 2 ^ k := by
      rw [← Nat.pow_add, show (d :: ds).length + cheatD k - 1 + (cheatN k).length = (d :: ds).length + k by omega, Nat.pow_add, ten_pow k]
      rw [Nat.mul_comm (10 ^ (d :: ds).length), Nat.mul_assoc, Nat.mul_assoc, Nat.mul_comm (2 ^ k)]
    rw [e, Nat.mul_assoc (val (d :: ds)), Nat.mul_comm (2 ^ k), ← Nat.mul_assoc]
    exact Nat.mul_le_mul_right _ h
  | true =>
    simp only [if_true]
    intro hm
    rw [show (d :: ds).length + (cheatD k - 1) - 1 = ds.length + (cheatD k - 1) by rw [List.length_cons]; omega, Nat.pow_add]
    exact Nat.mul_le_mul hv c.low

theorem more_le {k : Nat} {ds : List Nat} (h1 : 1 ≤ k) (h2 : k ≤ 60) : more k ds ≤ 19 ∧ cheatD k - 1 ≤ more k ds ∧ more k ds ≤ cheatD k := by
  have c := cheat h1 h2
  have := c.few
  unfold more
  split <;> omega
end Go.Proofs.YthagnngckegekaaGreatDoor
