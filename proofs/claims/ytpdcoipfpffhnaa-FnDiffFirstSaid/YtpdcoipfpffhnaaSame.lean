/-
  child, nth, sameStep, slices.Equal at []int, unrooted, samePlace. Conditions: none.
-/
import Derived.Test.YtpdcoipfpffhnaaTrail
import Derived.Test.YtpdcoipfpffhnaaFitting
namespace Go.Proofs.Ytpdcoipfpffhnaa
open Go.ChangeShapes Go.WideShapes Go.ChangeAt Go.RowKit
set_option linter.unusedVariables false
attribute [local go_sem] store_float'

def fragV (s : Option Step) (n : Value) : Value := .agg (stepL s n).toArray
/-- A step handed back. -/
def RetF (s : Option Step) (w : World) (e : Ending) (w' : World) : Prop := ∃ n, e = .returned (fragV s n) ∧ StepN w' s n ∧ Below w.heap.size w w'

theorem child_any (k : ByteArray) (w : World) : Calls Try.prog 39 #[.string k] w (RetF (some (.key k)) w) := by
  go_enter Try.func39, Try.ntmps39
  go_wp2_with fail
  exact bodyPost_ret (v := fragV (some (.key k)) (.slice none 0 0)) (by simp [results, Try.results39, go_sem, fragV, stepL, fragL]) rfl
    ⟨_, rfl, rfl, (Below.refl _ _).alloc (Nat.le_refl _) _⟩
theorem nth_any (i : Nat) (w : World) : Calls Try.prog 45 #[.int .i64 i] w (RetF (some (.idx i)) w) := by
  go_enter Try.func45, Try.ntmps45
  go_wp2_with fail
  exact bodyPost_ret (v := fragV (some (.idx i)) (.slice (some ⟨w.heap.size + 1, 0, none⟩) 1 1)) (by simp [results, Try.results45, go_sem, fragV, stepL, fragL]) rfl
    ⟨_, rfl, ⟨w.heap.size + 1, #[.int .i64 i], rfl, by have h := heap_alloc_new (w.alloc (.cells #[.int .i64 4, .string ⟨#[]⟩, .slice (some ⟨w.heap.size + 1, 0, none⟩) 1 1, .slice none 0 0, .int .i64 0, .int .i64 0, .int .i64 0, .float .f64 0, .string ⟨#[]⟩, .slice none 0 0, .slice none 0 0, .slice none 0 0, .slice none 0 0] 64)) (.cells #[.int .i64 i] 3); rw [alloc_size] at h; exact h, rfl⟩, below_two _ _ _⟩

def cellsF (w : World) (g i : Nat) (s : Option Step) (n : Value) : Prop := ∀ j u, (stepL s n)[j]? = some u → w.cell? ⟨g, 13 * i + j, none⟩ = some u

theorem equal1_any (a b g h c d : Nat) (w : World) (ha : w.cell? ⟨g, 0, none⟩ = some (.int .i64 a)) (hb : w.cell? ⟨h, 0, none⟩ = some (.int .i64 b)) :
    Calls Try.prog 70 #[.slice (some ⟨g, 0, none⟩) 1 c, .slice (some ⟨h, 0, none⟩) 1 d] w (IffB (a = b) w) := by
  by_cases hab : a = b
  · subst hab
    have e1 : ((a : Int) != (a : Int)) = false := by simp
    go_enter Try.func70, Try.ntmps70
    go_wp2_with fail
    refine wp_loop_rounds 2 ?_
    rw [rounds_succ]
    go_wp2_with fail
    go_quiet (fail)
    go_wp2_with fail
    rw [rounds_succ]
    go_wp2_with fail
    go_ret
    exact ⟨true, rfl, by simp, below_drewN (Below.refl _ _) _⟩
  · have e1 : ((a : Int) != (b : Int)) = true := bne_iff_ne.2 (by omega)
    have hab' := Lib.hid hab
    clear hab
    go_enter Try.func70, Try.ntmps70
    go_wp2_with fail
    refine wp_loop_rounds 2 ?_
    rw [rounds_succ]
    go_wp2_with fail
    go_quiet (fail)
    go_wp2_with fail
    go_ret
    exact ⟨false, rfl, not_iff _ hab'.out, below_drewN (Below.refl _ _) _⟩

theorem cell_of_blk {w : World} {g : Nat} {cur : Array Value} {e : TypeId} {fr : Nat × Nat} {u : Value} (h : w.heap[g]? = some (.cells cur e fr)) (h0 : cur[0]? = some u) : w.cell? ⟨g, 0, none⟩ = some u := by simp [World.cell?, h, h0]
theorem blk_after {w : World} {g : Nat} {o o' ob : Obj} (h : w.heap[g]? = some ob) : ((w.alloc o).alloc o').heap[g]? = some ob := by
  have hlt := (Array.getElem?_eq_some_iff.1 h).1
  rw [Below.heap_alloc _ _ _ (by simp; omega), Below.heap_alloc _ _ _ hlt, h]

set_option maxHeartbeats 2000000 in
theorem sameStep_any (s t : Step) (ns nt : Value) (w : World) (hs : StepN w (some s) ns) (ht : StepN w (some t) nt) :
    Calls Try.prog 50 #[fragV (some s) ns, fragV (some t) nt] w (IffB (s = t) w) := by
  cases s with
  | key a =>
    cases t with
    | key b =>
      obtain rfl : ns = .slice none 0 0 := hs
      obtain rfl : nt = .slice none 0 0 := ht
      cases hbc : (a.toList == b.toList) with
      | true =>
        have hP : Hid (Step.key a = Step.key b) := congrArg Step.key ((Lib.bytes_beq_iff _ _).1 hbc)
        dsimp only [fragV, stepL, fragL]
        go_enter Try.func50, Try.ntmps50
        go_wp2_with fail
        go_ret
        exact ⟨true, rfl, ⟨fun _ => hP.out, fun _ => rfl⟩, below_two _ _ _⟩
      | false =>
        have hP : Hid (¬ Step.key a = Step.key b) := fun h => (Lib.bytes_beq_false_iff _ _).1 hbc (by cases h; rfl)
        dsimp only [fragV, stepL, fragL]
        go_enter Try.func50, Try.ntmps50
        go_wp2_with fail
        go_ret
        exact ⟨false, rfl, not_iff _ hP.out, below_two _ _ _⟩
    | idx j =>
      obtain ⟨h, cur', rfl, hb2, hc2⟩ := ht
      obtain rfl : ns = .slice none 0 0 := hs
      dsimp only [fragV, stepL, fragL]
      go_enter Try.func50, Try.ntmps50
      go_wp2_with fail
      go_ret
      exact ⟨false, rfl, not_iff _ (by intro h; cases h), below_two _ _ _⟩
  | idx i =>
    cases t with
    | key b =>
      obtain ⟨h, cur', rfl, hb2, hc2⟩ := hs
      obtain rfl : nt = .slice none 0 0 := ht
      dsimp only [fragV, stepL, fragL]
      go_enter Try.func50, Try.ntmps50
      go_wp2_with fail
      go_ret
      exact ⟨false, rfl, not_iff _ (by intro h; cases h), below_two _ _ _⟩
    | idx j =>
      obtain ⟨g, cur, rfl, hb1, hc1⟩ := hs
      obtain ⟨h, cur', rfl, hb2, hc2⟩ := ht
      have hb1' := Lib.hid hb1
      have hb2' := Lib.hid hb2
      have hc1' := Lib.hid hc1
      have hc2' := Lib.hid hc2
      clear hb1 hb2 hc1 hc2
      dsimp only [fragV, stepL, fragL]
      go_enter Try.func50, Try.ntmps50
      go_wp2_with fail
      refine (equal1_any i j g h 1 1 _ (cell_of_blk (blk_after hb1'.out) hc1'.out) (cell_of_blk (blk_after hb2'.out) hc2'.out)).mono ?_
      rintro e w2 ⟨r, rfl, hr, hb3⟩
      have hbw := (below_two w _ _).trans (hb3.mono (by simp; omega))
      have hr' : Hid (r = true ↔ Step.idx i = Step.idx j) := ⟨fun h => by rw [hr.1 h], fun h => hr.2 (by cases h; rfl)⟩
      clear hr hb3
      go_wp2_with fail
      go_ret
      exact ⟨r, rfl, hr'.out, hbw⟩

/-- A slice of a row of steps. -/
theorem FrOwn.form {w : World} {B : Nat} {v : Value} {ps : List (Option Step)} (h : FrOwn w B v ps) : (v = .slice none 0 0 ∧ ps = []) ∨ ∃ g c, v = .slice (some ⟨g, 0, none⟩) ps.length c ∧ B ≤ g ∧ g < w.heap.size ∧
    ∀ (i : Nat) s, ps[i]? = some s → ∃ n, StepN w s n ∧ cellsF w g i s n := by
  obtain ⟨ns, hn, ho, hs⟩ := h
  rcases ho.2 with ⟨rfl, h0⟩ | ⟨g, cap, cur, rfl, h1, hb, h2, h3, h4, h5⟩
  · exact Or.inl ⟨rfl, List.length_eq_zero_iff.1 h0⟩
  · refine Or.inr ⟨g, cap, rfl, h1, (Array.getElem?_eq_some_iff.1 hb).1, fun i s hi => ?_⟩
    have hil := (List.getElem?_eq_some_iff.1 hi).1
    obtain ⟨n, hni⟩ : ∃ n, ns[i]? = some n := get_lt (by omega)
    refine ⟨n, hs i s n hi hni, fun j u hj => ?_⟩
    have hj13 : j < 13 := by have := (List.getElem?_eq_some_iff.1 hj).1; rw [stepL_len] at this; exact this
    have hg := fragVals_get ps ns i j s n hi hni hj13
    rw [hj] at hg
    exact row_at hb h5 hg

def kd : Step → Int
  | .key _ => 3
  | .idx _ => 4
def stx : Step → ByteArray
  | .key k => k
  | .idx _ => ⟨#[]⟩
theorem stepL_fragL (s : Step) (n : Value) : stepL (some s) n = fragL (kd s) (stx s) n := by cases s <;> rfl
theorem StepN.slice {w : World} {s : Option Step} {n : Value} (h : StepN w s n) : ∃ A m c, n = .slice A m c := by
  rcases s with _ | s
  · exact ⟨_, _, _, h⟩
  · cases s with
    | key k => exact ⟨_, _, _, h⟩
    | idx i => obtain ⟨g, cur, rfl, _⟩ := h; exact ⟨_, _, _, rfl⟩
/-- A row of steps as it is read. -/
theorem FrOwn.view {w : World} {B : Nat} {v : Value} {ps : List Step} (h : FrOwn w B v (ps.map some)) : ∃ A c, v = .slice A ps.length c ∧ ∀ (i : Nat) s, ps[i]? = some s → ∃ g An mn cn, A = some ⟨g, 0, none⟩ ∧ g < w.heap.size ∧ StepN w (some s) (.slice An mn cn) ∧
    ∀ j u, (fragL (kd s) (stx s) (.slice An mn cn))[j]? = some u → w.cell? ⟨g, 13 * i + j, none⟩ = some u := by
  rcases h.form with ⟨rfl, h0⟩ | ⟨g, c, rfl, hB, hlt, hc⟩
  · have : ps = [] := by simpa using h0
    subst this
    exact ⟨none, 0, rfl, fun i s h => by simp at h⟩
  · rw [List.length_map]
    refine ⟨_, c, rfl, fun i s hi => ?_⟩
    obtain ⟨n, hn, hcf⟩ := hc i (some s) (by rw [List.getElem?_map, hi]; rfl)
    obtain ⟨An, mn, cn, rfl⟩ := hn.slice
    exact ⟨g, An, mn, cn, rfl, hlt, hn, fun j u hj => hcf j u (by rw [stepL_fragL]; exact hj)⟩

set_option maxHeartbeats 1000000 in
theorem unrooted_any (v : Value) (ps : List Step) (B : Nat) (w : World) (h : FrOwn w B v (ps.map some)) : Calls Try.prog 49 #[v] w fun e w' => e = .returned v ∧ w = w' := by
  obtain ⟨A, c, rfl, hv⟩ := h.view
  clear h
  cases ps with
  | nil =>
    clear hv
    dsimp only [List.length_nil]
    go_enter Try.func49, Try.ntmps49
    go_wp2_with fail
    refine wp_loop_rounds 1 ?_
    rw [rounds_succ]
    go_wp2_with fail
    go_ret
    exact ⟨rfl, rfl⟩
  | cons s r =>
    obtain ⟨g, An, mn, cn, rfl, hlt, _, hcells⟩ := hv 0 s rfl
    have k0 : w.cell? ⟨g, 0, none⟩ = some (.int .i64 (kd s)) := hcells 0 _ rfl
    have k1 : (kd s == 1) = false := by cases s <;> rfl
    have k2 : (kd s == 2) = false := by cases s <;> rfl
    have hl : (0 : Int) < ((r.length + 1 : Nat) : Int) := by omega
    clear hv hcells
    dsimp only [List.length_cons]
    go_enter Try.func49, Try.ntmps49
    go_wp2_with fail
    refine wp_loop_rounds 1 ?_
    rw [rounds_succ]
    go_wp2_with fail
    go_ret
    exact ⟨rfl, rfl⟩
end Go.Proofs.Ytpdcoipfpffhnaa
