/-
  What the automaton of find makes of the texts that are said. No program in sight. Conditions: none.
-/
import Derived.Test.YtlebdceidmkddaaTab
import Derived.Test.YtlebdceidmkddaaSayO
namespace Go.Proofs.Ytlebdceidmkddaa
set_option linter.unusedVariables false

/-- The automaton within a document: the stack never runs empty. -/
def go (prev : UInt8) (m : M) (st : List M) : List UInt8 → Option (UInt8 × M × List M)
  | [] => some (prev, m, st)
  | b :: r =>
    match step prev.toNat m st b.toNat with
    | none => none
    | some (m', st') => if st' = [] then none else go b m' st' r

theorem go_append {a b : List UInt8} : ∀ {prev : UInt8} {m : M} {st : List M} {p' : UInt8} {m' : M} {st' : List M}, go prev m st a = some (p', m', st') → go prev m st (a ++ b) = go p' m' st' b := by
  induction a with
  | nil => intro prev m st p' m' st' h; simp [go] at h; obtain ⟨rfl, rfl, rfl⟩ := h; rfl
  | cons x r ih =>
    intro prev m st p' m' st' h
    simp only [go, List.cons_append] at h ⊢
    cases hs : step prev.toNat m st x.toNat with
    | none => rw [hs] at h; simp at h
    | some q =>
      obtain ⟨m2, s2⟩ := q
      rw [hs] at h
      simp only at h ⊢
      split at h
      · simp at h
      · rename_i h0; rw [if_neg h0]; exact ih h

theorem run_go {a rest : List UInt8} : ∀ {prev : UInt8} {m : M} {st : List M} {cur : List UInt8} {p' : UInt8} {m' : M} {st' : List M}, st ≠ [] → go prev m st a = some (p', m', st') → run prev m st cur (a ++ rest) = run p' m' st' (cur ++ a) rest := by
  induction a with
  | nil => intro prev m st cur p' m' st' h0 h; simp [go] at h; obtain ⟨rfl, rfl, rfl⟩ := h; simp
  | cons x r ih =>
    intro prev m st cur p' m' st' h0 h
    simp only [go] at h
    cases hs : step prev.toNat m st x.toNat with
    | none => rw [hs] at h; simp at h
    | some q =>
      obtain ⟨m2, s2⟩ := q
      rw [hs] at h
      simp only at h
      split at h
      · simp at h
      · rename_i h1
        rw [List.cons_append, run, hs]
        simp only
        rw [if_neg h1, if_neg h0, ih h1 h]
        simp

/-- A byte that leaves mode and stack alone. -/
theorem step46 {p : Nat} {m : M} {st : List M} {b : Nat} (h : code m b = some 46) : step p m st b = some (m, st) := by unfold step; rw [h]; rfl
theorem go_one {p b : UInt8} {m m' : M} {st st' : List M} {r : List UInt8} (h : step p.toNat m st b.toNat = some (m', st')) (h0 : st' ≠ []) : go p m st (b :: r) = go b m' st' r := by
  rw [go, h]; simp [h0]
theorem go_stay {m : M} {st : List M} (h0 : st ≠ []) {a : List UInt8} (h : ∀ b ∈ a, code m b.toNat = some 46) : ∀ {p : UInt8}, ∃ p', go p m st a = some (p', m, st) ∧ (a = [] ∧ p' = p ∨ p' ∈ a) := by
  induction a with
  | nil => intro p; exact ⟨p, rfl, Or.inl ⟨rfl, rfl⟩⟩
  | cons x r ih =>
    intro p
    obtain ⟨p', h1, h2⟩ := ih (fun b hb => h b (List.mem_cons_of_mem _ hb)) (p := x)
    refine ⟨p', by rw [go_one (step46 (h x (List.mem_cons_self ..))) h0, h1], Or.inr ?_⟩
    rcases h2 with ⟨_, rfl⟩ | h2
    · exact List.mem_cons_self ..
    · exact List.mem_cons_of_mem _ h2

theorem blank_is {b : UInt8} (h : blankB b) : isBlank b.toNat = true := by
  unfold isBlank; rcases h with h | h | h | h <;> rw [h] <;> rfl
theorem atom_is {b : UInt8} (h : atomB b) : isAtom b.toNat = true := by
  unfold isAtom
  rcases h with h | h | h
  · rw [h]; rfl
  · simp [h.1, h.2]
  · simp [h.1, h.2]
theorem blank_ok {b : UInt8} (h : blankB b) : isOk b.toNat = true := by unfold isOk; rw [blank_is h]; rfl
theorem ok_after {a : List UInt8} {p p' : UInt8} (ha : Blk a) (hp : isOk p.toNat = true) (h : a = [] ∧ p' = p ∨ p' ∈ a) : isOk p'.toNat = true := by
  rcases h with ⟨_, rfl⟩ | h
  · exact hp
  · exact blank_ok (ha _ h)
/-- The modes in which blanks stay. -/
def Calm (m : M) : Prop := m = .arr ∨ m = .obj ∨ m = .colon ∨ m = .pre
theorem calm_blank {m : M} (h : Calm m) {a : List UInt8} (ha : Blk a) : ∀ b ∈ a, code m b.toNat = some 46 := by
  intro b hb
  have := blank_is (ha b hb)
  rcases h with rfl | rfl | rfl | rfl <;> simp [code, this]
theorem go_blank {m : M} (h : Calm m) {st : List M} (h0 : st ≠ []) {a : List UInt8} (ha : Blk a) (p : UInt8) : ∃ p', go p m st a = some (p', m, st) ∧ (isOk p.toNat = true → isOk p'.toNat = true) := by
  obtain ⟨p', h1, h2⟩ := go_stay h0 (calm_blank h ha) (p := p)
  exact ⟨p', h1, fun hp => ok_after ha hp h2⟩

/-- No backslash and no 127. -/
def Tame (l : List UInt8) : Prop := ∀ b ∈ l, b.toNat ≠ 92 ∧ b.toNat ≠ 127
theorem Tame.left {a b : List UInt8} (h : Tame (a ++ b)) : Tame a := fun x hx => h x (List.mem_append_left _ hx)
theorem Tame.right {a b : List UInt8} (h : Tame (a ++ b)) : Tame b := fun x hx => h x (List.mem_append_right _ hx)
theorem Tame.tail {a : UInt8} {b : List UInt8} (h : Tame (a :: b)) : Tame b := fun x hx => h x (List.mem_cons_of_mem _ hx)

theorem go_word {n : Nat} {l : List UInt8} (hw : Word n l) (ht : Tame l) {m : M} (hm : m = .arr ∨ m = .obj ∨ m = .pre) {st : List M} (h0 : st ≠ []) {p : UInt8} (hp : isOk p.toNat = true) : go p m st l = some (34, closed m, st) := by
  obtain ⟨body, rfl, hb, _⟩ := hw
  have hst1 : step p.toNat m st (34 : UInt8).toNat = some (.q2, m :: st) := by
    have hc : code m (34 : UInt8).toNat = some 81 := by rcases hm with rfl | rfl | rfl <;> decide
    unfold step; rw [hc]; simp [hp, h0]
  rw [go_one hst1 (by simp)]
  have hq : ∀ b ∈ body, code .q2 b.toNat = some 46 := by
    intro b hx
    have h1 := ht b (List.mem_cons_of_mem _ (List.mem_append_left _ hx))
    rcases hb with h92 | hb
    · have := ht 92 (List.mem_cons_of_mem _ (List.mem_append_left _ h92))
      exact absurd rfl this.1
    · have h2 := hb b hx
      simp [code, h1.1, h1.2, h2.1, h2.2]
  obtain ⟨p', h1, _⟩ := go_stay (m := .q2) (st := m :: st) (by simp) hq (p := 34)
  rw [go_append h1]
  obtain ⟨q, r, rfl⟩ := List.exists_cons_of_ne_nil h0
  have hst2 : step p'.toNat .q2 (m :: q :: r) (34 : UInt8).toNat = some (closed m, q :: r) := by
    have hc : code .q2 (34 : UInt8).toNat = some 122 := by decide
    unfold step; rw [hc]; rfl
  rw [go_one hst2 (by simp)]
  rfl

theorem go_atom_arr {l : List UInt8} (h : ∀ b ∈ l, atomB b) {st : List M} (h0 : st ≠ []) (p : UInt8) : ∃ p', go p .arr st l = some (p', .arr, st) := by
  obtain ⟨p', h1, _⟩ := go_stay (m := .arr) h0 (a := l) (fun b hb => by simp [code, atom_is (h b hb)]) (p := p)
  exact ⟨p', h1⟩
theorem atom_not_blank {b : UInt8} (h : atomB b) : isBlank b.toNat = false := by
  unfold isBlank; unfold atomB at h; simp; omega
theorem go_atom_pre {l : List UInt8} (h : ∀ b ∈ l, atomB b) (hl : l ≠ []) {st : List M} (h0 : st ≠ []) (p : UInt8) : ∃ p', go p .pre st l = some (p', .val, st) := by
  obtain ⟨x, r, rfl⟩ := List.exists_cons_of_ne_nil hl
  have hx := h x (List.mem_cons_self ..)
  have hs : step p.toNat .pre st x.toNat = some (.val, st) := by
    have hc : code .pre x.toNat = some 118 := by simp [code, atom_is hx, atom_not_blank hx]
    unfold step; rw [hc]; rfl
  rw [go_one hs h0]
  obtain ⟨p', h1, _⟩ := go_stay (m := .val) h0 (a := r) (fun b hb => by simp [code, atom_is (h b (List.mem_cons_of_mem _ hb))]) (p := x)
  exact ⟨p', h1⟩

def ValGo (l : List UInt8) : Prop := Tame l → (∀ (st : List M) (p : UInt8), st ≠ [] → isOk p.toNat = true → ∃ p', go p .arr st l = some (p', .arr, st)) ∧
  (∀ (st : List M) (p : UInt8), st ≠ [] → isOk p.toNat = true → ∃ p' m', go p .pre st l = some (p', m', st) ∧ (m' = .obj ∨ m' = .val))
def ElsGo (l : List UInt8) : Prop := Tame l → ∀ (st : List M) (p : UInt8), st ≠ [] → isOk p.toNat = true → ∃ p', go p .arr st l = some (p', .arr, st)
def MemsGo (l : List UInt8) : Prop := Tame l → ∀ (st : List M) (p : UInt8), st ≠ [] → isOk p.toNat = true → ∃ p' m', go p .obj st l = some (p', m', st) ∧ (m' = .obj ∨ m' = .val)

/-- Behind a member's value: blanks. -/
theorem go_behind {m : M} (hm : m = .obj ∨ m = .val) {st : List M} (h0 : st ≠ []) {a : List UInt8} (ha : Blk a) (p : UInt8) : ∃ p' m', go p m st a = some (p', m', st) ∧ (m' = .obj ∨ m' = .val) := by
  rcases hm with rfl | rfl
  · obtain ⟨p', h1, _⟩ := go_blank (m := .obj) (Or.inr (Or.inl rfl)) h0 ha p
    exact ⟨p', _, h1, Or.inl rfl⟩
  · cases a with
    | nil => exact ⟨p, _, rfl, Or.inr rfl⟩
    | cons x r =>
      have hx := blank_is (ha x (List.mem_cons_self ..))
      have hxa : isAtom x.toNat = false := by
        have := ha x (List.mem_cons_self ..)
        unfold isAtom; rcases this with h | h | h | h <;> rw [h] <;> rfl
      have hs : step p.toNat .val st x.toNat = some (.obj, st) := by
        have hc : code .val x.toNat = some 86 := by simp [code, hx, hxa]
        unfold step; rw [hc]; rfl
      rw [go_one hs h0]
      obtain ⟨p', h1, _⟩ := go_blank (m := .obj) (Or.inr (Or.inl rfl)) h0 (a := r) (fun b hb => ha b (List.mem_cons_of_mem _ hb)) x
      exact ⟨p', _, h1, Or.inl rfl⟩
/-- A comma between members. -/
theorem go_comma {m : M} (hm : m = .obj ∨ m = .val) {st : List M} (h0 : st ≠ []) {r : List UInt8} (p : UInt8) : go p m st (44 :: r) = go 44 .obj st r := by
  rcases hm with rfl | rfl
  · exact go_one (step46 (by decide)) h0
  · refine go_one ?_ h0
    have hc : code .val (44 : UInt8).toNat = some 86 := by decide
    unfold step; rw [hc]; rfl
theorem go_arr_comma {st : List M} (h0 : st ≠ []) {r : List UInt8} (p : UInt8) : go p .arr st (44 :: r) = go 44 .arr st r := go_one (step46 (by decide)) h0
theorem go_colon {st : List M} (h0 : st ≠ []) {r : List UInt8} (p : UInt8) : go p .colon st (58 :: r) = go 58 .pre st r := by
  refine go_one ?_ h0
  have hc : code .colon (58 : UInt8).toNat = some 58 := by decide
  unfold step; rw [hc]; rfl
theorem step_open {m : M} (hm : m = .arr ∨ m = .pre ∨ m = .scan) {st : List M} (p : Nat) : step p m st (91 : UInt8).toNat = some (.arr, pushed m :: st) ∧ step p m st (123 : UInt8).toNat = some (.obj, pushed m :: st) := by
  have hc : code m (91 : UInt8).toNat = some 91 ∧ code m (123 : UInt8).toNat = some 123 := by rcases hm with rfl | rfl | rfl <;> decide
  constructor
  · unfold step; rw [hc.1]; rfl
  · unfold step; rw [hc.2]; rfl
theorem step_shut_arr {q : M} {st : List M} (p : Nat) : step p .arr (q :: st) (93 : UInt8).toNat = some (q, st) := by
  have hc : code .arr (93 : UInt8).toNat = some 93 := by decide
  unfold step; rw [hc]; rfl
theorem step_shut_obj {m q : M} (hm : m = .obj ∨ m = .val) {st : List M} (p : Nat) : step p m (q :: st) (125 : UInt8).toNat = some (q, st) := by
  have hc : code m (125 : UInt8).toNat = some 125 := by rcases hm with rfl | rfl <;> decide
  unfold step; rw [hc]; rfl

/-- An array's inside, or an object's. -/
inductive Inside : UInt8 → List UInt8 → UInt8 → Prop
  | arr (e : List UInt8) : (Blk e ∨ Els e) → Inside 91 e 93
  | obj (e : List UInt8) : (Blk e ∨ Mems e) → Inside 123 e 125

theorem go_inside_arr {e : List UInt8} (h : Blk e ∨ ElsGo e) (ht : Tame e) {st : List M} (h0 : st ≠ []) : ∃ p', go 91 .arr st e = some (p', .arr, st) := by
  rcases h with h | h
  · obtain ⟨p', h1, _⟩ := go_blank (m := .arr) (Or.inl rfl) h0 h 91
    exact ⟨p', h1⟩
  · exact h ht st 91 h0 (by decide)
theorem go_inside_obj {e : List UInt8} (h : Blk e ∨ MemsGo e) (ht : Tame e) {st : List M} (h0 : st ≠ []) : ∃ p' m', go 123 .obj st e = some (p', m', st) ∧ (m' = .obj ∨ m' = .val) := by
  rcases h with h | h
  · obtain ⟨p', h1, _⟩ := go_blank (m := .obj) (Or.inr (Or.inl rfl)) h0 h 123
    exact ⟨p', _, h1, Or.inl rfl⟩
  · exact h ht st 123 h0 (by decide)
theorem val_arr {e : List UInt8} (h : Blk e ∨ ElsGo e) : ValGo (91 :: (e ++ [93])) := by
  intro ht
  have hte := ht.tail.left
  have key : ∀ (m : M) (hm : m = .arr ∨ m = .pre ∨ m = .scan) (st : List M) (p : UInt8), st ≠ [] → go p m st (91 :: (e ++ [93])) = some (93, pushed m, st) := by
    intro m hm st p h0
    rw [go_one (step_open hm _).1 (by simp)]
    obtain ⟨p', h1⟩ := go_inside_arr h hte (st := pushed m :: st) (by simp)
    rw [go_append h1, go_one (step_shut_arr _) h0]
    rfl
  exact ⟨fun st p h0 _ => ⟨93, key .arr (Or.inl rfl) st p h0⟩, fun st p h0 _ => ⟨93, .obj, key .pre (Or.inr (Or.inl rfl)) st p h0, Or.inl rfl⟩⟩
theorem val_obj {e : List UInt8} (h : Blk e ∨ MemsGo e) : ValGo (123 :: (e ++ [125])) := by
  intro ht
  have hte := ht.tail.left
  have key : ∀ (m : M) (hm : m = .arr ∨ m = .pre ∨ m = .scan) (st : List M) (p : UInt8), st ≠ [] → go p m st (123 :: (e ++ [125])) = some (125, pushed m, st) := by
    intro m hm st p h0
    rw [go_one (step_open hm _).2 (by simp)]
    obtain ⟨p', m', h1, hm'⟩ := go_inside_obj h hte (st := pushed m :: st) (by simp)
    rw [go_append h1, go_one (step_shut_obj hm' _) h0]
    rfl
  exact ⟨fun st p h0 _ => ⟨125, key .arr (Or.inl rfl) st p h0⟩, fun st p h0 _ => ⟨125, .obj, key .pre (Or.inr (Or.inl rfl)) st p h0, Or.inl rfl⟩⟩

theorem member_go {a k b c v d : List UInt8} {m : Nat} (ha : Blk a) (hk : Word m k) (hb : Blk b) (hc : Blk c) (hv : ValGo v) (hd : Blk d) (ht : Tame (a ++ k ++ b ++ 58 :: (c ++ v ++ d))) {st : List M} (h0 : st ≠ []) {p : UInt8} (hp : isOk p.toNat = true) :
    ∃ p' m', go p .obj st (a ++ k ++ b ++ 58 :: (c ++ v ++ d)) = some (p', m', st) ∧ (m' = .obj ∨ m' = .val) := by
  obtain ⟨p1, g1, o1⟩ := go_blank (m := .obj) (Or.inr (Or.inl rfl)) h0 ha p
  have g2 := go_word hk ht.left.left.right (m := .obj) (Or.inr (Or.inl rfl)) h0 (o1 hp)
  obtain ⟨p3, g3, o3⟩ := go_blank (m := .colon) (Or.inr (Or.inr (Or.inl rfl))) h0 hb 34
  obtain ⟨p4, g4, o4⟩ := go_blank (m := .pre) (Or.inr (Or.inr (Or.inr rfl))) h0 hc 58
  obtain ⟨p5, m5, g5, hm5⟩ := (hv ht.right.tail.left.right).2 st p4 h0 (o4 (by decide))
  obtain ⟨p6, m6, g6, hm6⟩ := go_behind hm5 h0 hd p5
  refine ⟨p6, m6, ?_, hm6⟩
  rw [List.append_assoc, List.append_assoc, go_append g1, go_append g2]
  show go 34 .colon st _ = _
  rw [go_append g3, go_colon h0, List.append_assoc, go_append g4, go_append g5, g6]
theorem element_go {a v b : List UInt8} (ha : Blk a) (hv : ValGo v) (hb : Blk b) (ht : Tame (a ++ v ++ b)) {st : List M} (h0 : st ≠ []) {p : UInt8} (hp : isOk p.toNat = true) : ∃ p', go p .arr st (a ++ v ++ b) = some (p', .arr, st) := by
  obtain ⟨p1, g1, o1⟩ := go_blank (m := .arr) (Or.inl rfl) h0 ha p
  obtain ⟨p2, g2⟩ := (hv ht.left.right).1 st p1 h0 (o1 hp)
  obtain ⟨p3, g3, _⟩ := go_blank (m := .arr) (Or.inl rfl) h0 hb p2
  exact ⟨p3, by rw [List.append_assoc, go_append g1, go_append g2, g3]⟩

theorem val_go {l : List UInt8} (h : Val l) : ValGo l := by
  refine Val.rec (motive_1 := fun l _ => ValGo l) (motive_2 := fun l _ => ElsGo l) (motive_3 := fun l _ => MemsGo l) ?_ ?_ ?_ ?_ ?_ ?_ ?_ ?_ ?_ ?_ h
  · intro l hl ha ht
    exact ⟨fun st p h0 _ => go_atom_arr ha h0 p, fun st p h0 _ => let ⟨p', h1⟩ := go_atom_pre ha hl h0 p; ⟨p', .val, h1, Or.inr rfl⟩⟩
  · intro m l hw ht
    exact ⟨fun st p h0 hp => ⟨_, go_word hw ht (Or.inl rfl) h0 hp⟩, fun st p h0 hp => ⟨_, .obj, go_word hw ht (Or.inr (Or.inr rfl)) h0 hp, Or.inl rfl⟩⟩
  · intro b hb; exact val_arr (Or.inl hb)
  · intro e _ he; exact val_arr (Or.inr he)
  · intro b hb; exact val_obj (Or.inl hb)
  · intro e _ he; exact val_obj (Or.inr he)
  · intro a v b ha _ hb hv ht st p h0 hp; exact element_go ha hv hb ht h0 hp
  · intro e a v b _ ha _ hb he hv ht st p h0 hp
    obtain ⟨p1, g1⟩ := he ht.left st p h0 hp
    obtain ⟨p2, g2⟩ := element_go ha hv hb ht.right.tail h0 (p := 44) (by decide)
    exact ⟨p2, by rw [go_append g1, go_arr_comma h0, g2]⟩
  · intro a k b c v d m ha hk hb hc _ hd hv ht st p h0 hp; exact member_go ha hk hb hc hv hd ht h0 hp
  · intro e a k b c v d m _ ha hk hb hc _ hd he hv ht st p h0 hp
    obtain ⟨p1, m1, g1, hm1⟩ := he ht.left st p h0 hp
    obtain ⟨p2, m2, g2, hm2⟩ := member_go ha hk hb hc hv hd ht.right.tail h0 (p := 44) (by decide)
    exact ⟨p2, m2, by rw [go_append g1, go_comma hm1 h0, g2], hm2⟩
end Go.Proofs.Ytlebdceidmkddaa
