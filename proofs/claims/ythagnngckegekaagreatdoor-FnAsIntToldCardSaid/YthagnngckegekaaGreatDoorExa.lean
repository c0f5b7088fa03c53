/-
  atof64exact returns. Conditions: none.
-/
import Derived.Test.YthagnngckegekaaGreatDoorSm
import Derived.Laws.FloatArith
import Derived.Test.YthagnngckegekaaGreatDoorAInt
namespace Go.Proofs.YthagnngckegekaaGreatDoor
open Go.ChangeShapes Go.WideShapes Go.ChangeAt Go.RowKit Go.Joins
set_option linter.unusedVariables false
set_option linter.unusedSimpArgs false

theorem run_mul_ex (x y : Nat) (w : World) : ∃ r n, (binOp .mul 22 (.float .f64 x) (.float .f64 y)).run Tryz.prog w = .ok (.float .f64 r) (w.drewN n) := by
  cases h : floatBits .mul .f64 x y with
  | some r => exact ⟨r, 0, run_float_arith w .mul _ .f64 x y r h⟩
  | none =>
    have h' : FloatKind.f64.format.mul x y = none := h
    refine ⟨(Question.nanBits .f64 x y).cut (w.tape w.drawn (.nanBits .f64 x y)), 1, ?_⟩
    simp [binOp, Op.floatArith, h', Question.forced]
    rfl
theorem run_quo_ex (x y : Nat) (w : World) : ∃ r n, (binOp .quo 22 (.float .f64 x) (.float .f64 y)).run Tryz.prog w = .ok (.float .f64 r) (w.drewN n) := by
  cases h : floatBits .quo .f64 x y with
  | some r => exact ⟨r, 0, run_float_arith w .quo _ .f64 x y r h⟩
  | none =>
    have h' : FloatKind.f64.format.div x y = none := h
    refine ⟨(Question.nanBits .f64 x y).cut (w.tape w.drawn (.nanBits .f64 x y)), 1, ?_⟩
    simp [binOp, Op.floatArith, h', Question.forced]
    rfl
noncomputable def mulR (x y : Nat) (w : World) : Nat := (run_mul_ex x y w).choose
noncomputable def mulN (x y : Nat) (w : World) : Nat := (run_mul_ex x y w).choose_spec.choose
theorem run_mulX (x y : Nat) (w : World) : (binOp .mul 22 (.float .f64 x) (.float .f64 y)).run Tryz.prog w = .ok (.float .f64 (mulR x y w)) (w.drewN (mulN x y w)) := (run_mul_ex x y w).choose_spec.choose_spec
noncomputable def quoR (x y : Nat) (w : World) : Nat := (run_quo_ex x y w).choose
noncomputable def quoN (x y : Nat) (w : World) : Nat := (run_quo_ex x y w).choose_spec.choose
theorem run_quoX (x y : Nat) (w : World) : (binOp .quo 22 (.float .f64 x) (.float .f64 y)).run Tryz.prog w = .ok (.float .f64 (quoR x y w)) (w.drewN (quoN x y w)) := (run_quo_ex x y w).choose_spec.choose_spec

/-- The powers of ten as floats lie in memory. -/
def FtenTab (w : World) : Prop := ∃ ad c, w.cell? ⟨8, 0, none⟩ = some (.slice (some ad) 23 c) ∧ ∀ k : Nat, k < 23 → ∃ x : Nat, w.cell? (ad.add k) = some (.float .f64 x)
theorem FtenTab.bel {W w : World} (h : FtenTab W) (hb : Below W.heap.size W w) : FtenTab w := by
  obtain ⟨ad, c, h1, h2⟩ := h
  refine ⟨ad, c, cell_later hb h1, fun k hk => ?_⟩
  obtain ⟨x, h3⟩ := h2 k hk
  exact ⟨x, cell_later hb h3⟩

def Exact (w : World) (e : Ending) (w' : World) : Prop := (∃ n, w' = w.drewN n) ∧ ∃ (f : Nat) (b : Bool), e = .returned (.tuple #[.float .f64 f, .bool b])
section
attribute [local go_sem] run_negF run_mulX run_quoX
set_option maxRecDepth 4000 in
set_option maxHeartbeats 4000000 in
theorem exact_at {w : World} {d : Nat} {p : Int} {neg : Bool} (hT : FtenTab w) (hm : w.cell? ⟨5, 0, none⟩ = some (.int .u64 52)) :
    Calls Tryz.prog 90 #[.int .u64 d, .int .i64 p, .bool neg] w (Exact w) := by
  obtain ⟨ad, c, t1, t2⟩ := hT
  have t2H := Lib.hid t2
  clear t2
  rcases Bool.eq_false_or_eq_true (((d : Int) / 4503599627370496) != 0) with hd | hd
  · go_enter Tryz.func90, Tryz.ntmps90
    go_wp2_with fail
    go_ret2
    exact ⟨⟨0, rfl⟩, _, _, rfl⟩
  by_cases h0 : p = 0
  · subst h0
    go_enter Tryz.func90, Tryz.ntmps90
    go_wp2_with fail
    all_goals go_ret2
    all_goals exact ⟨⟨0, rfl⟩, _, _, rfl⟩
  have h0' : (p == 0) = false := beq_eq_false_iff_ne.2 h0
  by_cases hpos : 0 < p
  · by_cases h37 : p ≤ 37
    · by_cases h22 : 22 < p
      · obtain ⟨k, rfl⟩ : ∃ k : Nat, p = (k : Int) + 22 := ⟨(p - 22).toNat, by omega⟩
        have hk : (k : Int) < 23 := by omega
        obtain ⟨x, hx⟩ := t2H.out k (by omega)
        obtain ⟨y, hy⟩ := t2H.out 22 (by omega)
        have hy2 : w.cell? ⟨ad.block, ad.off + 22, none⟩ = some (.float .f64 y) := hy
        have hk2 : ((k : Int) + 22 - 22) = (k : Int) := by omega
        clear h0
        go_enter Tryz.func90, Tryz.ntmps90
        go_wp2_with fail
        all_goals go_ret2
        all_goals first | exact ⟨⟨_, rfl⟩, _, _, rfl⟩ | exact ⟨⟨_, World.drewN_drewN _ _ _⟩, _, _, rfl⟩
      · obtain ⟨k, rfl⟩ : ∃ k : Nat, p = (k : Int) := ⟨p.toNat, by omega⟩
        have hk : (k : Int) < 23 := by omega
        obtain ⟨x, hx⟩ := t2H.out k (by omega)
        clear h0
        go_enter Tryz.func90, Tryz.ntmps90
        go_wp2_with fail
        all_goals go_ret2
        all_goals first | exact ⟨⟨_, rfl⟩, _, _, rfl⟩ | exact ⟨⟨0, rfl⟩, _, _, rfl⟩
    · have h37' : ¬ p < 0 := by omega
      go_enter Tryz.func90, Tryz.ntmps90
      go_wp2_with fail
      all_goals go_ret2
      all_goals first | exact ⟨⟨0, rfl⟩, _, _, rfl⟩
  · by_cases h22 : -22 ≤ p
    · obtain ⟨k, rfl⟩ : ∃ k : Nat, p = -(k : Int) := ⟨(-p).toNat, by omega⟩
      have hk : (k : Int) < 23 := by omega
      have hk1 : -(k : Int) < 0 := by omega
      obtain ⟨x, hx⟩ := t2H.out k (by omega)
      clear h0
      go_enter Tryz.func90, Tryz.ntmps90
      go_wp2_with fail
      all_goals go_ret2
      all_goals first | exact ⟨⟨_, rfl⟩, _, _, rfl⟩ | exact ⟨⟨_, World.drewN_drewN _ _ _⟩, _, _, rfl⟩
    · go_enter Tryz.func90, Tryz.ntmps90
      go_wp2_with fail
      all_goals go_ret2
      all_goals first | exact ⟨⟨0, rfl⟩, _, _, rfl⟩
end
end Go.Proofs.YthagnngckegekaaGreatDoor
