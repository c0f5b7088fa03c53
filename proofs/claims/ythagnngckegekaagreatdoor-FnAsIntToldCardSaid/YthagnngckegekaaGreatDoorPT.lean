/-
  Plain data in memory: when an any value holds a tree, in blocks of its own. Conditions: none.
-/
import Derived.Test.YthagnngckegekaaGreatDoorMap
import Derived.Test.YthagnngckegekaaGreatDoorGood
import Derived.Test.YthagnngckegekaaGreatDoorBox
namespace Go.Proofs.YthagnngckegekaaGreatDoor
open Go.ChangeShapes Go.WideShapes Go.ChangeAt Go.RowKit
set_option linter.unusedVariables false

/-- The any value x holds the tree v; its blocks lie from lo on, below hi; those of two elements apart. -/
inductive PT (w : World) : Nat → Nat → V → Value → Prop
  | null (lo hi : Nat) (v : V) (h : v.kind = 1) : PT w lo hi v .nilIface
  | bool (lo hi : Nat) (v : V) (h : v.kind = 2) : PT w lo hi v (.iface 4 (.bool (v.n == 1)))
  | int (lo hi : Nat) (v : V) (h : v.kind = 3) : PT w lo hi v (.iface 2 (.int .i64 v.n))
  | float (lo hi : Nat) (v : V) (h : v.kind = 4) : PT w lo hi v (.iface 22 (.float .f64 v.f))
  | str (lo hi : Nat) (v : V) (h : v.kind = 5) : PT w lo hi v (.iface 9 (.string v.s))
  | arr (lo hi : Nat) (v : V) (h : v.kind = 7) (g cap : Nat) (cur : Array Value) (xs : List Value) (cut : Nat → Nat) (hlo : lo ≤ g) (hg : g < cut 0) (hhi : cut v.l.length ≤ hi)
      (hb : w.heap[g]? = some (.cells cur 20 (0, 0))) (hn : xs.length = v.l.length) (hc1 : v.l.length ≤ cap) (hc2 : cap ≤ maxLen) (hs : cur.size = cap) (ht : cur.toList.take v.l.length = xs)
      (hm : ∀ i, i < v.l.length → cut i ≤ cut (i + 1)) (hk : ∀ i x y, v.l[i]? = some x → xs[i]? = some y → PT w (cut i) (cut (i + 1)) x y) :
      PT w lo hi v (.iface 64 (.slice (some ⟨g, 0, none⟩) v.l.length cap))
  | obj (lo hi : Nat) (v : V) (h : v.kind = 8) (b : Nat) (ps : List (ByteArray × Value)) (cut : Nat → Nat) (hlo : lo ≤ b) (hg : b < cut 0) (hhi : cut v.l.length ≤ hi)
      (hb : HasMap w b ps) (hkeys : ps.map (·.1) = v.keys) (hn : ps.length = v.l.length)
      (hm : ∀ i, i < v.l.length → cut i ≤ cut (i + 1)) (hk : ∀ i x p, v.l[i]? = some x → ps[i]? = some p → PT w (cut i) (cut (i + 1)) x p.2) :
      PT w lo hi v (.iface 65 (.map (some b)))

theorem cut_mono {cut : Nat → Nat} {n : Nat} (hm : ∀ i, i < n → cut i ≤ cut (i + 1)) : ∀ i j, i ≤ j → j ≤ n → cut i ≤ cut j := by
  intro i j hij
  induction hij with
  | refl => intro _; exact Nat.le_refl _
  | step h ih => intro hj; exact Nat.le_trans (ih (by omega)) (hm _ (by omega))

theorem PT.mono {w : World} {lo hi : Nat} {v : V} {x : Value} (h : PT w lo hi v x) : ∀ {lo' hi' : Nat}, lo' ≤ lo → hi ≤ hi' → PT w lo' hi' v x := by
  intro lo' hi' h1 h2
  cases h with
  | null _ _ _ h => exact .null _ _ _ h
  | bool _ _ _ h => exact .bool _ _ _ h
  | int _ _ _ h => exact .int _ _ _ h
  | float _ _ _ h => exact .float _ _ _ h
  | str _ _ _ h => exact .str _ _ _ h
  | arr _ _ _ h g cap cur xs cut hlo hg hhi hb hn hc1 hc2 hs ht hm hk => exact .arr _ _ _ h g cap cur xs cut (by omega) hg (by omega) hb hn hc1 hc2 hs ht hm hk
  | obj _ _ _ h b ps cut hlo hg hhi hb hkeys hn hm hk => exact .obj _ _ _ h b ps cut (by omega) hg (by omega) hb hkeys hn hm hk

theorem PT.move {w w1 : World} {lo hi : Nat} {v : V} {x : Value} (h : PT w lo hi v x) : (∀ k, lo ≤ k → k < hi → w1.heap[k]? = w.heap[k]?) → PT w1 lo hi v x := by
  induction h with
  | null _ _ _ h => intro _; exact .null _ _ _ h
  | bool _ _ _ h => intro _; exact .bool _ _ _ h
  | int _ _ _ h => intro _; exact .int _ _ _ h
  | float _ _ _ h => intro _; exact .float _ _ _ h
  | str _ _ _ h => intro _; exact .str _ _ _ h
  | arr lo hi v h g cap cur xs cut hlo hg hhi hb hn hc1 hc2 hs ht hm hk ih =>
    intro hw
    have hcm := cut_mono hm
    refine .arr _ _ _ h g cap cur xs cut hlo hg hhi ?_ hn hc1 hc2 hs ht hm (fun i x y hx hy => ih i x y hx hy (fun k h1 h2 => hw k ?_ ?_))
    · rw [hw g hlo (by have := hcm 0 v.l.length (by omega) (by omega); omega)]; exact hb
    · have hi := (List.getElem?_eq_some_iff.1 hx).1
      have := hcm 0 i (by omega) (by omega); omega
    · have hi := (List.getElem?_eq_some_iff.1 hx).1
      have := hcm (i + 1) v.l.length (by omega) (by omega); omega
  | obj lo hi v h b ps cut hlo hg hhi hb hkeys hn hm hk ih =>
    intro hw
    have hcm := cut_mono hm
    refine .obj _ _ _ h b ps cut hlo hg hhi ?_ hkeys hn hm (fun i x p hx hy => ih i x p hx hy (fun k h1 h2 => hw k ?_ ?_))
    · exact hb.same (hw b hlo (by have := hcm 0 v.l.length (by omega) (by omega); omega))
    · have hi := (List.getElem?_eq_some_iff.1 hx).1
      have := hcm 0 i (by omega) (by omega); omega
    · have hi := (List.getElem?_eq_some_iff.1 hx).1
      have := hcm (i + 1) v.l.length (by omega) (by omega); omega

theorem PT.bel {w w1 : World} {lo hi : Nat} {v : V} {x : Value} (h : PT w lo hi v x) (hb : Below hi w w1) : PT w1 lo hi v x :=
  h.move (fun k _ hk => hb.block k hk)
theorem PT.form {w : World} {lo hi : Nat} {v : V} {x : Value} (h : PT w lo hi v x) : x = .nilIface ∨ ∃ t u, x = .iface t u := by
  cases h
  · exact Or.inl rfl
  all_goals exact Or.inr ⟨_, _, rfl⟩
theorem PT.cells {w : World} {lo hi : Nat} {v : V} {x : Value} (h : PT w lo hi v x) : x.cells = #[x] := by
  cases h <;> rfl
theorem PT.one {w : World} {lo hi : Nat} {v : V} {x : Value} (h : PT w lo hi v x) : x.oneCell' = true := by
  cases h <;> rfl

/-- A row of trees, in the order of their blocks. -/
def Kids (w : World) (lo hi : Nat) (l : List V) (xs : List Value) : Prop := ∃ cut : Nat → Nat, lo ≤ cut 0 ∧ cut l.length ≤ hi ∧ xs.length = l.length ∧ (∀ i, i < l.length → cut i ≤ cut (i + 1)) ∧ ∀ i x y, l[i]? = some x → xs[i]? = some y → PT w (cut i) (cut (i + 1)) x y

theorem Kids.nil (w : World) {lo hi : Nat} (h : lo ≤ hi) : Kids w lo hi [] [] := ⟨fun _ => lo, Nat.le_refl _, h, rfl, fun i hi => by simp at hi, fun i x y hx => by simp at hx⟩
theorem Kids.le {w : World} {lo hi : Nat} {l : List V} {xs : List Value} (h : Kids w lo hi l xs) : lo ≤ hi := by
  obtain ⟨cut, h1, h2, _, h3, _⟩ := h
  have := cut_mono h3 0 l.length (by omega) (by omega)
  omega
theorem Kids.move {w w1 : World} {lo hi : Nat} {l : List V} {xs : List Value} (h : Kids w lo hi l xs) (hw : ∀ k, lo ≤ k → k < hi → w1.heap[k]? = w.heap[k]?) : Kids w1 lo hi l xs := by
  obtain ⟨cut, h1, h2, hn, h3, h4⟩ := h
  have hcm := cut_mono h3
  refine ⟨cut, h1, h2, hn, h3, fun i x y hx hy => (h4 i x y hx hy).move (fun k k1 k2 => hw k ?_ ?_)⟩
  · have hi := (List.getElem?_eq_some_iff.1 hx).1
    have := hcm 0 i (by omega) (by omega); omega
  · have hi := (List.getElem?_eq_some_iff.1 hx).1
    have := hcm (i + 1) l.length (by omega) (by omega); omega
theorem Kids.mono {w : World} {lo hi lo' hi' : Nat} {l : List V} {xs : List Value} (h : Kids w lo hi l xs) (h1 : lo' ≤ lo) (h2 : hi ≤ hi') : Kids w lo' hi' l xs := by
  obtain ⟨cut, a, b, c, d, e⟩ := h
  exact ⟨cut, by omega, by omega, c, d, e⟩
theorem Kids.snoc {w : World} {lo m hi : Nat} {l : List V} {xs : List Value} {x : V} {y : Value} (h : Kids w lo m l xs) (hx : PT w m hi x y) (hmh : m ≤ hi) : Kids w lo hi (l ++ [x]) (xs ++ [y]) := by
  obtain ⟨cut, h1, h2, hn, h3, h4⟩ := h
  have hno : ¬ (l.length + 1 ≤ l.length) := by omega
  refine ⟨fun i => if i ≤ l.length then cut i else hi, by simpa using h1, by simp [hno], by simp [hn], fun i hi' => ?_, fun i x' y' hx' hy' => ?_⟩
  · simp at hi'
    by_cases hil : i < l.length
    · simp [show i ≤ l.length by omega, show i + 1 ≤ l.length by omega]; exact h3 i hil
    · obtain rfl : i = l.length := by omega
      show (if l.length ≤ l.length then cut l.length else hi) ≤ (if l.length + 1 ≤ l.length then _ else hi)
      rw [if_pos (Nat.le_refl _), if_neg hno]; omega
  · by_cases hil : i < l.length
    · rw [List.getElem?_append_left hil] at hx'
      rw [List.getElem?_append_left (by omega)] at hy'
      simp [show i ≤ l.length by omega, show i + 1 ≤ l.length by omega]
      exact h4 i x' y' hx' hy'
    · have hil2 : i = l.length := by
        have := (List.getElem?_eq_some_iff.1 hx').1
        simp at this; omega
      subst hil2
      rw [List.getElem?_append_right (Nat.le_refl _)] at hx'
      rw [List.getElem?_append_right (by omega)] at hy'
      simp [hn] at hx' hy'
      subst hx' hy'
      simp [hno]
      exact hx.mono h2 (Nat.le_refl _)

theorem PT.of_row {w : World} {lo hi base g cap : Nat} {v : V} {xs : List Value} (h : v.kind = 7) (hlo : lo ≤ g) (hk : Kids w (g + 1) hi v.l xs) (ho : w.ownsRow base 20 1 (.slice (some ⟨g, 0, none⟩) v.l.length cap) v.l.length xs) :
    PT w lo hi v (.iface 64 (.slice (some ⟨g, 0, none⟩) v.l.length cap)) := by
  obtain ⟨cut, h1, h2, hn, h3, h4⟩ := hk
  rcases ho.2 with ⟨e, _⟩ | ⟨g', cap', cur, e, _, hb, c1, c2, c3, c4⟩
  · simp at e
  · simp only [Value.slice.injEq, Option.some.injEq, Addr.mk.injEq, and_true, true_and] at e
    obtain ⟨rfl, rfl⟩ := e
    exact .arr _ _ _ h g cap cur xs cut hlo (by omega) h2 hb hn c1 c2 (by simpa using c3) (by simpa using c4) h3 h4
theorem PT.of_map {w : World} {lo hi b : Nat} {v : V} {ps : List (ByteArray × Value)} (h : v.kind = 8) (hlo : lo ≤ b) (hk : Kids w (b + 1) hi v.l (ps.map (·.2))) (hm : HasMap w b ps) (hkeys : ps.map (·.1) = v.keys) :
    PT w lo hi v (.iface 65 (.map (some b))) := by
  obtain ⟨cut, h1, h2, hn, h3, h4⟩ := hk
  exact .obj _ _ _ h b ps cut hlo (by omega) h2 hm hkeys (by simpa using hn) h3 (fun i x p hx hp => h4 i x p.2 hx (by simp [hp]))
end Go.Proofs.YthagnngckegekaaGreatDoor
