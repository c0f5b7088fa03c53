/-
  What find finds in a text of documents among other text; what trimmed leaves of a said document. No program in sight. Conditions: none.
-/
import Derived.Test.YtlebdceidmkddaaRun
import Derived.Test.YtlebdceidmkddaaFindS
namespace Go.Proofs.Ytlebdceidmkddaa
set_option linter.unusedVariables false

/-- An array's text, or an object's. -/
def Doc (v : List UInt8) : Prop := (∃ e, v = 91 :: (e ++ [93]) ∧ (Blk e ∨ Els e)) ∨ (∃ e, v = 123 :: (e ++ [125]) ∧ (Blk e ∨ Mems e))
theorem val_doc {v : List UInt8} (h : Val v) (hd : v.head? = some 91 ∨ v.head? = some 123) : Doc v := by
  cases h with
  | atom l hl ha =>
    obtain ⟨x, r, rfl⟩ := List.exists_cons_of_ne_nil hl
    have hx := ha x (List.mem_cons_self ..)
    unfold atomB at hx
    rcases hd with hd | hd
    all_goals
      simp only [List.head?_cons, Option.some.injEq] at hd
      subst hd
      exact absurd hx (by decide)
  | word m l hw =>
    obtain ⟨body, rfl, _⟩ := hw
    rcases hd with hd | hd <;> simp at hd
  | arr0 b hb => exact Or.inl ⟨b, rfl, Or.inl hb⟩
  | arr e he => exact Or.inl ⟨e, rfl, Or.inr he⟩
  | obj0 b hb => exact Or.inr ⟨b, rfl, Or.inl hb⟩
  | obj e he => exact Or.inr ⟨e, rfl, Or.inr he⟩

theorem els_go {e : List UInt8} (h : Els e) : ElsGo e := by
  refine Els.rec (motive_1 := fun l _ => ValGo l) (motive_2 := fun l _ => ElsGo l) (motive_3 := fun l _ => MemsGo l) ?_ ?_ ?_ ?_ ?_ ?_ ?_ ?_ ?_ ?_ h
  · intro l hl ha; exact val_go (Val.atom l hl ha)
  · intro m l hw; exact val_go (Val.word m l hw)
  · intro b hb; exact val_arr (Or.inl hb)
  · intro e _ he; exact val_arr (Or.inr he)
  · intro b hb; exact val_obj (Or.inl hb)
  · intro e _ he; exact val_obj (Or.inr he)
  · intro a v b ha _ hb hv ht st p h0 hp; exact element_go ha hv hb ht h0 hp
  · intro e a v b _ ha _ hb he hv ht st p h0 hp
    obtain ⟨p1, g1⟩ := he ht.left st p h0 hp
    obtain ⟨p2, g2⟩ := element_go ha hv hb ht.right.tail h0 (p := 44) (by decide)
    exact ⟨p2, by rw [go_append g1, go_arr_comma h0, g2]⟩
  · intro a k b c v d m ha hk hb hc _ hd hv ht st p h0 hp; exact member_go ha hk hb hc hv hd ht h0 hp
  · intro e a k b c v d m _ ha hk hb hc _ hd he hv ht st p h0 hp
    obtain ⟨p1, m1, g1, hm1⟩ := he ht.left st p h0 hp
    obtain ⟨p2, m2, g2, hm2⟩ := member_go ha hk hb hc hv hd ht.right.tail h0 (p := 44) (by decide)
    exact ⟨p2, m2, by rw [go_append g1, go_comma hm1 h0, g2], hm2⟩
theorem mems_go {e : List UInt8} (h : Mems e) : MemsGo e := by
  refine Mems.rec (motive_1 := fun l _ => ValGo l) (motive_2 := fun l _ => ElsGo l) (motive_3 := fun l _ => MemsGo l) ?_ ?_ ?_ ?_ ?_ ?_ ?_ ?_ ?_ ?_ h
  · intro l hl ha; exact val_go (Val.atom l hl ha)
  · intro m l hw; exact val_go (Val.word m l hw)
  · intro b hb; exact val_arr (Or.inl hb)
  · intro e _ he; exact val_arr (Or.inr he)
  · intro b hb; exact val_obj (Or.inl hb)
  · intro e _ he; exact val_obj (Or.inr he)
  · intro a v b ha _ hb hv ht st p h0 hp; exact element_go ha hv hb ht h0 hp
  · intro e a v b h1 ha _ hb he hv; exact els_go (Els.snoc e a v b h1 ha ‹_› hb)
  · intro a k b c v d m ha hk hb hc _ hd hv ht st p h0 hp; exact member_go ha hk hb hc hv hd ht h0 hp
  · intro e a k b c v d m _ ha hk hb hc _ hd he hv ht st p h0 hp
    obtain ⟨p1, m1, g1, hm1⟩ := he ht.left st p h0 hp
    obtain ⟨p2, m2, g2, hm2⟩ := member_go ha hk hb hc hv hd ht.right.tail h0 (p := 44) (by decide)
    exact ⟨p2, m2, by rw [go_append g1, go_comma hm1 h0, g2], hm2⟩

theorem run_doc {v rest : List UInt8} (h : Doc v) (ht : Tame v) (p : UInt8) : ∃ p', run p .scan [] [] (v ++ rest) = (run p' .scan [] [] rest).map (v :: ·) := by
  rcases h with ⟨e, rfl, he⟩ | ⟨e, rfl, he⟩
  · obtain ⟨p', g⟩ := go_inside_arr (he.imp id els_go) ht.tail.left (st := [.scan]) (by simp)
    refine ⟨93, ?_⟩
    have h1 : (91 :: (e ++ [93])) ++ rest = 91 :: (e ++ (93 :: rest)) := by simp
    have h2 : pushed .scan = .scan := rfl
    rw [h1, run, (step_open (Or.inr (Or.inr rfl)) _).1, h2]
    simp only [List.cons_ne_nil, if_false, if_true]
    rw [run_go (by simp) g, run, step_shut_arr]
    simp
  · obtain ⟨p', m', g, hm⟩ := go_inside_obj (he.imp id mems_go) ht.tail.left (st := [.scan]) (by simp)
    refine ⟨125, ?_⟩
    have h1 : (123 :: (e ++ [125])) ++ rest = 123 :: (e ++ (125 :: rest)) := by simp
    have h2 : pushed .scan = .scan := rfl
    rw [h1, run, (step_open (Or.inr (Or.inr rfl)) _).2, h2]
    simp only [List.cons_ne_nil, if_false, if_true]
    rw [run_go (by simp) g, run, step_shut_obj hm]
    simp
/-- Bytes that the scan passes over. -/
def Dull (l : List UInt8) : Prop := ∀ b ∈ l, b.toNat ≠ 91 ∧ b.toNat ≠ 123
theorem run_dull {l rest : List UInt8} (h : Dull l) : ∀ p : UInt8, ∃ p', run p .scan [] [] (l ++ rest) = run p' .scan [] [] rest := by
  induction l with
  | nil => intro p; exact ⟨p, rfl⟩
  | cons x r ih =>
    intro p
    obtain ⟨p', h'⟩ := ih (fun b hb => h b (List.mem_cons_of_mem _ hb)) x
    refine ⟨p', ?_⟩
    have hx := h x (List.mem_cons_self ..)
    have hc : code .scan x.toNat = some 46 := by simp [code, hx.1, hx.2]
    rw [List.cons_append, run, step46 hc]
    simpa using h'

/-- A text of documents, each behind other text and a blank. -/
def txt : List (List UInt8 × List UInt8) → List UInt8
  | [] => []
  | x :: r => x.1 ++ 32 :: (x.2 ++ txt r)
theorem txt_snoc (l : List (List UInt8 × List UInt8)) (a v : List UInt8) : txt (l ++ [(a, v)]) = txt l ++ (a ++ 32 :: v) := by
  induction l with
  | nil => simp [txt]
  | cons x r ih => simp [txt, ih]
def Fine (x : List UInt8 × List UInt8) : Prop := Dull x.1 ∧ Doc x.2 ∧ Tame x.2
theorem run_txt {l : List (List UInt8 × List UInt8)} (h : ∀ x ∈ l, Fine x) : ∀ p : UInt8, run p .scan [] [] (txt l ++ [32]) = some (l.map (·.2)) := by
  induction l with
  | nil =>
    intro p
    obtain ⟨p', h'⟩ := run_dull (l := [32]) (rest := []) (by intro b hb; simp at hb; subst hb; decide) p
    simpa [txt, run] using h'
  | cons x r ih =>
    intro p
    obtain ⟨h1, h2, h3⟩ := h x (List.mem_cons_self ..)
    have h4 : Dull (x.1 ++ [32]) := by
      intro b hb
      rcases List.mem_append.1 hb with hb | hb
      · exact h1 b hb
      · simp at hb; subst hb; decide
    obtain ⟨p1, e1⟩ := run_dull (rest := x.2 ++ (txt r ++ [32])) h4 p
    obtain ⟨p2, e2⟩ := run_doc (rest := txt r ++ [32]) h2 h3 p1
    have e3 := ih (fun y hy => h y (List.mem_cons_of_mem _ hy)) p2
    have e4 : txt (x :: r) ++ [32] = (x.1 ++ [32]) ++ (x.2 ++ (txt r ++ [32])) := by simp [txt]
    rw [e4, e1, e2, e3]
    rfl
theorem run_known : run 0 .scan [] [] [120, 91, 55, 93, 121] = some [[91, 55, 93]] := by decide

theorem drop_blank {a r : List UInt8} (ha : ∀ x ∈ a, blankB x) (hr : ∀ x, r.head? = some x → ¬ blankB x) : (a ++ r).dropWhile (fun b => isBlank b.toNat) = r := by
  induction a with
  | nil =>
    cases r with
    | nil => rfl
    | cons x t =>
      have hx := hr x rfl
      have : isBlank x.toNat = false := by unfold isBlank; unfold blankB at hx; simp; omega
      simp [this]
  | cons x t ih =>
    have := blank_is (ha x (List.mem_cons_self ..))
    simp [this, ih (fun y hy => ha y (List.mem_cons_of_mem _ hy))]
theorem doc_ends {v : List UInt8} (h : Doc v) : (∀ x, v.head? = some x → ¬ blankB x) ∧ (∀ x, v.getLast? = some x → ¬ blankB x) ∧ v ≠ [] := by
  rcases h with ⟨e, rfl, _⟩ | ⟨e, rfl, _⟩
  · refine ⟨?_, ?_, by simp⟩
    · intro x hx; simp at hx; subst hx; unfold blankB; decide
    · intro x hx; rw [show (91 : UInt8) :: (e ++ [93]) = (91 :: e) ++ [93] by simp, List.getLast?_concat] at hx; simp at hx; subst hx; unfold blankB; decide
  · refine ⟨?_, ?_, by simp⟩
    · intro x hx; simp at hx; subst hx; unfold blankB; decide
    · intro x hx; rw [show (123 : UInt8) :: (e ++ [125]) = (123 :: e) ++ [125] by simp, List.getLast?_concat] at hx; simp at hx; subst hx; unfold blankB; decide
theorem trimmed_doc {s r a v b : List UInt8} (h : Trimmed s r) (hs : s = a ++ v ++ b) (ha : Blk a) (hb : Blk b) (hv : Doc v) : r = v := by
  obtain ⟨a', b', hs', ha', hb'⟩ := h.eq
  obtain ⟨v1, v2, v3⟩ := doc_ends hv
  obtain ⟨x, t, rfl⟩ := List.exists_cons_of_ne_nil v3
  have h1 : s.dropWhile (fun b => isBlank b.toNat) = x :: t ++ b := by
    rw [hs, List.append_assoc]; exact drop_blank ha (by intro y hy; exact v1 y (by simpa using hy))
  cases hr : r with
  | nil =>
    rw [hr] at hs'
    have h2 : s.dropWhile (fun b => isBlank b.toNat) = [] := by
      rw [hs']
      have := drop_blank (a := a' ++ [] ++ b') (r := []) (by intro y hy; simp at hy; rcases hy with hy | hy; exact ha' y hy; exact hb' y hy) (by simp)
      simpa using this
    rw [h1] at h2
    simp at h2
  | cons y u =>
    have hh := h.head
    have hl := h.last
    rw [hr] at hs' hh hl
    have h2 : s.dropWhile (fun b => isBlank b.toNat) = y :: u ++ b' := by
      rw [hs', List.append_assoc]; exact drop_blank ha' (by intro z hz; exact hh z (by simpa using hz))
    rw [h1] at h2
    have h3 := congrArg List.reverse h2
    rw [List.reverse_append, List.reverse_append] at h3
    have h4 := drop_blank (a := b.reverse) (r := (x :: t).reverse) (by intro z hz; exact hb z (by simpa using hz)) (by intro z hz; rw [List.head?_reverse] at hz; exact v2 z hz)
    have h5 := drop_blank (a := b'.reverse) (r := (y :: u).reverse) (by intro z hz; exact hb' z (by simpa using hz)) (by intro z hz; rw [List.head?_reverse] at hz; exact hl z hz)
    rw [h3, h5] at h4
    have := congrArg List.reverse h4
    simpa using this
end Go.Proofs.Ytlebdceidmkddaa
