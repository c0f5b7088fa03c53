/-
  alt.Match at a leaf. Conditions: none.
-/
import Derived.Test.YtpdcoipfpffhnaaAsI
import Derived.Test.YtpdcoipfpffhnaaFitL
import Derived.Lib.SlicesS
namespace Go.Proofs.Ytpdcoipfpffhnaa
open Go.ChangeShapes Go.WideShapes Go.ChangeAt Go.RowKit
set_option linter.unusedVariables false
attribute [local go_sem] tay_bool tam_bool tan_bool tay_int tam_int tan_int tay_int8 tam_int8 tan_int8 tay_int16 tam_int16 tan_int16 tay_int32 tam_int32 tan_int32 tay_int64 tam_int64 tan_int64 tay_uint tam_uint tan_uint tay_uint8 tam_uint8 tan_uint8 tay_uint16 tam_uint16 tan_uint16 tay_uint32 tam_uint32 tan_uint32 tay_uint64 tam_uint64 tan_uint64 tay_float32 tam_float32 tan_float32 tay_float64 tam_float64 tan_float64 tay_string tam_string tan_string tay_sl tam_sl tan_sl tay_mp tam_mp tan_mp tay_fil tam_fil tan_fil tay_gint tam_gint tan_gint tay_gfl tam_gfl tan_gfl
/-- A bool is handed back, true just if P; the world stands. -/
def IffBool (P : Prop) (w : World) (e : Ending) (w' : World) : Prop := ∃ r : Bool, e = .returned (.bool r) ∧ (r = true ↔ P) ∧ w = w'

set_option maxRecDepth 100000 in
set_option maxHeartbeats 2000000 in
theorem match_nil (y : Value) (w : World) (P : Prop) (h : (y = .nilIface ∧ P) ∨ (∃ t u, y = .iface t u ∧ ¬ P)) :
    Calls Try.prog 28 #[.nilIface, y] w (IffBool P w) := by
  rcases h with ⟨rfl, hp⟩ | ⟨t, u, rfl, hp⟩
  · have hp' := Lib.hid hp
    clear hp
    go_enter Try.func28, Try.ntmps28
    go_wp2_with fail
    go_ret
    exact ⟨true, rfl, ⟨fun _ => hp'.out, fun _ => rfl⟩, rfl⟩
  · have hp' := Lib.hid hp
    clear hp
    go_enter Try.func28, Try.ntmps28
    go_wp2_with fail
    go_ret
    exact ⟨false, rfl, ⟨fun h => (by cases h), fun h => absurd h hp'.out⟩, rfl⟩

/-- y is no value of type T. -/
def Other (T : TypeId) (y : Value) : Prop := y = .nilIface ∨ ∃ t u, y = .iface t u ∧ t ≠ T
theorem not_iff (P : Prop) (h : ¬ P) : (false = true ↔ P) := ⟨fun h => (by cases h), fun hp => absurd hp h⟩

set_option maxRecDepth 100000 in
set_option maxHeartbeats 2000000 in
theorem match_bool (b : Bool) (y : Value) (w : World) (P : Prop) (h : (∃ c, y = .iface 4 (.bool c) ∧ (b = c ↔ P)) ∨ (Other 4 y ∧ ¬ P)) :
    Calls Try.prog 28 #[.iface 4 (.bool b), y] w (IffBool P w) := by
  rcases h with ⟨c, rfl, hp⟩ | ⟨ho, hp⟩
  · have hp' := Lib.hid hp
    clear hp
    cases b <;> cases c
    all_goals
      go_enter Try.func28, Try.ntmps28
      go_wp2_with fail
      go_ret
      exact ⟨_, rfl, by rw [← hp'.out]; try simp, rfl⟩
  · have hp' := Lib.hid (not_iff P hp)
    clear hp
    rcases ho with rfl | ⟨t, u, rfl, ht⟩
    all_goals
      go_enter Try.func28, Try.ntmps28
      go_wp2_with fail
      go_ret
      exact ⟨false, rfl, hp'.out, rfl⟩

set_option maxRecDepth 100000 in
set_option maxHeartbeats 2000000 in
theorem match_str (b : ByteArray) (y : Value) (w : World) (P : Prop) (h : (∃ c, y = .iface 9 (.string c) ∧ (b = c ↔ P)) ∨ (Other 9 y ∧ ¬ P)) :
    Calls Try.prog 28 #[.iface 9 (.string b), y] w (IffBool P w) := by
  rcases h with ⟨c, rfl, hp⟩ | ⟨ho, hp⟩
  · have hp' := Lib.hid hp
    clear hp
    cases hbc : (b.toList == c.toList) with
    | true =>
      have hP : Hid P := hp'.out.1 ((Lib.bytes_beq_iff _ _).1 hbc)
      go_enter Try.func28, Try.ntmps28
      go_wp2_with fail
      go_ret
      exact ⟨true, rfl, ⟨fun _ => hP.out, fun _ => rfl⟩, rfl⟩
    | false =>
      have hP : Hid ¬ P := fun h => (Lib.bytes_beq_false_iff _ _).1 hbc (hp'.out.2 h)
      go_enter Try.func28, Try.ntmps28
      go_wp2_with fail
      go_ret
      exact ⟨false, rfl, not_iff P hP.out, rfl⟩
  · have hp' := Lib.hid (not_iff P hp)
    clear hp
    rcases ho with rfl | ⟨t, u, rfl, ht⟩
    all_goals
      go_enter Try.func28, Try.ntmps28
      go_wp2_with fail
      go_ret
      exact ⟨false, rfl, hp'.out, rfl⟩

set_option maxRecDepth 100000 in
set_option maxHeartbeats 2000000 in
theorem match_int (b : Int) (y : Value) (w : World) (P : Prop) (h : (∃ c, y = .iface 2 (.int .i64 c) ∧ (b = c ↔ P)) ∨ (NoNum y ∧ ¬ P)) :
    Calls Try.prog 28 #[.iface 2 (.int .i64 b), y] w (IffBool P w) := by
  rcases h with ⟨c, rfl, hp⟩ | ⟨ho, hp⟩
  · have hp' := Lib.hid hp
    clear hp
    by_cases hbc : b = c
    · have hP : Hid P := hp'.out.1 hbc
      have hb1 : (b != c) = false := by rw [hbc]; simp
      clear hbc
      go_enter Try.func28, Try.ntmps28
      go_wp2_with (go_at_call 62; refine (asInt_int _ _).mono ?_; rintro e w' ⟨rfl, rfl⟩)
      go_ret
      exact ⟨true, rfl, ⟨fun _ => hP.out, fun _ => rfl⟩, rfl⟩
    · have hP : Hid ¬ P := fun h => hbc (hp'.out.2 h)
      have hb1 : (b != c) = true := bne_iff_ne.2 hbc
      clear hbc
      go_enter Try.func28, Try.ntmps28
      go_wp2_with (go_at_call 62; refine (asInt_int _ _).mono ?_; rintro e w' ⟨rfl, rfl⟩)
      go_ret
      exact ⟨false, rfl, not_iff P hP.out, rfl⟩
  · have hp' := Lib.hid (not_iff P hp)
    clear hp
    go_enter Try.func28, Try.ntmps28
    go_wp2_with fail
    refine (asInt_int b w).mono ?_
    rintro e w' ⟨rfl, rfl⟩
    go_wp2_with fail
    refine (asInt_not y w ho).mono ?_
    rintro e w' ⟨rfl, rfl⟩
    go_wp2_with fail
    go_ret
    exact ⟨false, rfl, hp'.out, rfl⟩

theorem PT.other {w : World} {lo hi : Nat} {v : V} {x : Value} {T : TypeId} (h : PT w lo hi v x) (hT : (v.kind = 2 → 4 ≠ T) ∧ (v.kind = 3 → 2 ≠ T) ∧ (v.kind = 4 → 22 ≠ T) ∧ (v.kind = 5 → 9 ≠ T) ∧ (v.kind = 7 → 67 ≠ T) ∧ (v.kind = 8 → 54 ≠ T)) : Other T x := by
  cases h with
  | null _ _ _ h => exact Or.inl rfl
  | bool _ _ _ h => exact Or.inr ⟨_, _, rfl, hT.1 h⟩
  | int _ _ _ h => exact Or.inr ⟨_, _, rfl, hT.2.1 h⟩
  | float _ _ _ h => exact Or.inr ⟨_, _, rfl, hT.2.2.1 h⟩
  | str _ _ _ h => exact Or.inr ⟨_, _, rfl, hT.2.2.2.1 h⟩
  | arr _ _ _ h => exact Or.inr ⟨_, _, rfl, hT.2.2.2.2.1 h⟩
  | obj _ _ _ h => exact Or.inr ⟨_, _, rfl, hT.2.2.2.2.2 h⟩

theorem match_leaf (f t : V) (x y : Value) (w : World) {lo hi lo' hi' : Nat} (hx : PT w lo hi f x) (hy : PT w lo' hi' t y) (hfo : f.Ok) (hto : t.Ok) (h7 : f.kind ≠ 7) (h8 : f.kind ≠ 8) (h4 : f.kind ≠ 4) (t4 : t.kind ≠ 4) :
    Calls Try.prog 28 #[x, y] w (IffBool (LAlike f t) w) := by
  cases hx with
  | null _ _ _ h =>
    refine match_nil y w _ ?_
    cases hy with
    | null _ _ _ h' => exact Or.inl ⟨rfl, by unfold LAlike; exact ⟨by omega, by omega, by omega, by omega⟩⟩
    | bool _ _ _ h' => exact Or.inr ⟨_, _, rfl, fun hl => by have := hl.1; omega⟩
    | int _ _ _ h' => exact Or.inr ⟨_, _, rfl, fun hl => by have := hl.1; omega⟩
    | float _ _ _ h' => exact Or.inr ⟨_, _, rfl, fun hl => by have := hl.1; omega⟩
    | str _ _ _ h' => exact Or.inr ⟨_, _, rfl, fun hl => by have := hl.1; omega⟩
    | arr _ _ _ h' => exact Or.inr ⟨_, _, rfl, fun hl => by have := hl.1; omega⟩
    | obj _ _ _ h' => exact Or.inr ⟨_, _, rfl, fun hl => by have := hl.1; omega⟩
  | bool _ _ _ h =>
    refine match_bool _ y w _ ?_
    by_cases ht : t.kind = 2
    · cases hy with
      | bool _ _ _ h' =>
        refine Or.inl ⟨_, rfl, ?_⟩
        have bf : f.n = 0 ∨ f.n = 1 := by cases hfo <;> first | assumption | omega
        have bt : t.n = 0 ∨ t.n = 1 := by cases hto <;> first | assumption | omega
        unfold LAlike
        constructor
        · intro he
          refine ⟨by omega, fun _ => ?_, by omega, by omega⟩
          rcases bf with bf | bf <;> rcases bt with bt | bt <;> rw [bf, bt] at he ⊢ <;> simp at he
        · rintro ⟨_, h2, _⟩
          rw [h2 (Or.inl h)]
      | _ => omega
    · refine Or.inr ⟨hy.other ⟨by omega, fun _ => by decide, fun _ => by decide, fun _ => by decide, fun _ => by decide, fun _ => by decide⟩, fun hl => ht (by have := hl.1; omega)⟩
  | int _ _ _ h =>
    refine match_int _ y w _ ?_
    by_cases ht : t.kind = 3
    · cases hy with
      | int _ _ _ h' =>
        refine Or.inl ⟨_, rfl, ?_⟩
        unfold LAlike
        exact ⟨fun he => ⟨by omega, fun _ => he, by omega, by omega⟩, fun hl => hl.2.1 (Or.inr h)⟩
      | _ => omega
    · exact Or.inr ⟨hy.noNum ht t4, fun hl => ht (by have := hl.1; omega)⟩
  | float _ _ _ h => exact absurd h h4
  | str _ _ _ h =>
    refine match_str _ y w _ ?_
    by_cases ht : t.kind = 5
    · cases hy with
      | str _ _ _ h' =>
        refine Or.inl ⟨_, rfl, ?_⟩
        unfold LAlike
        exact ⟨fun he => ⟨by omega, by omega, by omega, fun _ => he⟩, fun hl => hl.2.2.2 (Or.inl h)⟩
      | _ => omega
    · refine Or.inr ⟨hy.other ⟨fun _ => by decide, fun _ => by decide, fun _ => by decide, by omega, fun _ => by decide, fun _ => by decide⟩, fun hl => ht (by have := hl.1; omega)⟩
  | arr _ _ _ h => exact absurd h h7
  | obj _ _ _ h => exact absurd h h8
end Go.Proofs.Ytpdcoipfpffhnaa
