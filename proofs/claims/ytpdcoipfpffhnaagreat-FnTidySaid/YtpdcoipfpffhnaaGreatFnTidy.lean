/-
  What FnTidy answers. Conditions: none.
-/
import Derived.Test.YtpdcoipfpffhnaaGreatTidies
import Derived.Test.YtpdcoipfpffhnaaGreatLight
namespace Go.Proofs.YtpdcoipfpffhnaaGreat
open Go.ChangeShapes Go.WideShapes Go.ChangeAt Go.RowKit
set_option linter.unusedVariables false
set_option linter.unusedSimpArgs false
attribute [local go_sem] store_float'

set_option maxHeartbeats 1000000 in
theorem zzFits1_any (v : V) {ok : Nat → Prop} (A B : Option Addr) (ca cb : Nat) (w : World) (hb : Bds v ca cb) (hB : Strs ok w B v.keys) :
    Calls Tryz.prog 4 #[.agg #[.int .i64 v.kind, .int .i64 v.n, .float .f64 v.f, .string v.s, .slice A v.l.length ca, .slice B v.keys.length cb]] w (SomeBool (fun _ => True) w) := by
  have hlb := hb.lb
  have hla := hb.la
  have hs := hb.s
  go_enter Tryz.func4, Tryz.ntmps4
  have hbel := below_alloc w (valObj v A ca B cb)
  by_cases h1 : v.s.size ≤ 2147483647
  rotate_left
  · go_wp2_with fail
    go_ret
    exact ⟨false, rfl, trivial, hbel⟩
  by_cases h2 : v.l.length ≤ 2147483647
  rotate_left
  · go_wp2_with fail
    go_ret
    exact ⟨false, rfl, trivial, hbel⟩
  go_wp2_with fail
  refine (zzFits2_any B v.keys cb _ (hB.bel hbel) hlb).mono ?_
  rintro e w2 ⟨rfl, rfl⟩
  cases hf : fits2 v.keys
  all_goals
    go_wp2_with fail
    go_ret
    exact ⟨_, rfl, trivial, hbel⟩

set_option maxHeartbeats 2000000 in
theorem fnTidy_any (v : V) (on oe inp : Bool) {ok : Nat → Prop} (A B : Option Addr) (ca cb : Nat) (w : World) (hb : Bds v ca cb) (hB : Strs ok w B v.keys) (hA : Vals ok w A v.l) :
    Calls Tryz.prog 3 #[.agg #[.int .i64 v.kind, .int .i64 v.n, .float .f64 v.f, .string v.s, .slice A v.l.length ca, .slice B v.keys.length cb], .bool on, .bool oe, .bool inp] w (SomeBool (fun r => r = true) w) := by
  go_enter Tryz.func3, Tryz.ntmps3
  go_wp2_with fail
  have hbel0 : Below (w.heap.size + 1) (w.alloc (valObj v A ca B cb)) (w.alloc (valObj v A ca B cb)) := Below.refl _ _
  have hbw0 := (boxed hbel0).2
  refine (zzFits1_any v A B ca cb _ hb (hB.bel hbw0)).mono ?_
  rintro e w1 ⟨r, rfl, _, hb1⟩
  have hbel1 := hbel0.trans (hb1.mono (by rw [alloc_size]; omega))
  obtain ⟨⟨b0, b1, b2, b3, b4, b5⟩, hbw1⟩ := boxed hbel1
  clear hbel0 hbw0 hb1
  cases r with
  | false =>
    go_wp2_with fail
    go_ret
    exact ⟨true, rfl, rfl, hbw1⟩
  | true =>
  go_wp2_with fail
  refine (light_any v A B ca cb 300 _ hb (hB.bel hbw1) (hA.bel hbw1) (by omega) (by omega)).mono ?_
  rintro e w2 ⟨r, rfl, hlt, hb2⟩
  have hs1 : w.heap.size + 1 ≤ w1.heap.size := below_boxed_size hbel1
  have hbel2 := hbel1.trans (hb2.mono hs1)
  clear b0 b1 b2 b3 b4 b5 hb2 hbel1 hbw1
  obtain ⟨⟨b0, b1, b2, b3, b4, b5⟩, hbw2⟩ := boxed hbel2
  have hs2 : w.heap.size + 1 ≤ w2.heap.size := below_boxed_size hbel2
  cases r with
  | false =>
    clear hlt
    go_wp2_with fail
    refine (tidies_any w2).mono ?_
    rintro e w3 ⟨r, rfl, rfl, hb3⟩
    have hbw3 := hbw2.trans (hb3.mono hbw2.size)
    clear b0 b1 b2 b3 b4 b5
    go_wp2_with fail
    go_ret
    exact ⟨true, rfl, rfl, hbw3⟩
  | true =>
  have hltH := Lib.hid (hlt rfl)
  clear hlt
  have hwt : Hid (v.wt ≤ 1000000) := by have := hltH.out.1; show v.wt ≤ _; omega
  go_wp2_with fail
  refine (tidy_any on oe inp v hltH.out.2 hwt.out A B ca cb w2 hb (hB.bel hbw2) (hA.bel hbw2)).mono ?_
  rintro e w3 ⟨v2, A3, c3, B3, e3, rfl, hbd3, hB3, hA3, hb3, heq⟩
  have hbel3 := hbel2.trans (hb3.mono hs2)
  clear b0 b1 b2 b3 b4 b5 hb3 hbel2 hbw2
  have hs3 : w.heap.size + 1 ≤ w3.heap.size := below_boxed_size hbel3
  have hb4 : Below w3.heap.size w3 (w3.alloc (valObj v2 A3 c3 B3 e3)) := below_alloc _ _
  have hbel4 := hbel3.trans (hb4.mono hs3)
  have hbelX := below_boxed_size hbel4
  obtain ⟨⟨b0, b1, b2, b3, b4, b5⟩, hbw4⟩ := boxed hbel4
  obtain ⟨⟨d0, d1, d2, d3, d4, d5⟩, _⟩ := boxed (Below.refl (w3.heap.size + 1) (w3.alloc (valObj v2 A3 c3 B3 e3)))
  have hB4 := Lib.hid (hB3.bel hb4)
  have hA4 := Lib.hid (hA3.bel hb4)
  have hBH := Lib.hid hB
  have hAH := Lib.hid hA
  have hbH := Lib.hid hb
  have hbdH := Lib.hid hbd3
  have heqH := Lib.hid heq
  have hon : Hid (v.tidy on oe).Ok := V.Ok.tidy v hltH.out.2
  have hwt2 : Hid ((v.tidy on oe).wt ≤ 1000000) := Nat.le_trans (tidy_wt on oe v) hwt.out
  clear hB3 hA3 hbel3 hs1 hs2 hbd3 heq hb4 hB hA
  go_wp2_with fail
  have hl0 : w.heap.size < (w3.alloc (valObj v2 A3 c3 B3 e3)).heap.size := cell_lt b0
  have hl1 : w3.heap.size < (w3.alloc (valObj v2 A3 c3 B3 e3)).heap.size := cell_lt d0
  have hS0 : Hid ((fun W : World => W.cell? ⟨w.heap.size, 0, none⟩ = some (.int .i64 v.kind) ∧ W.cell? ⟨w.heap.size, 1, none⟩ = some (.int .i64 v.n) ∧ W.cell? ⟨w.heap.size, 2, none⟩ = some (.float .f64 v.f) ∧ W.cell? ⟨w.heap.size, 3, none⟩ = some (.string v.s) ∧ W.cell? ⟨w.heap.size, 4, none⟩ = some (.slice A v.l.length ca) ∧ W.cell? ⟨w.heap.size, 5, none⟩ = some (.slice B v.keys.length cb) ∧ W.cell? ⟨w3.heap.size, 0, none⟩ = some (.int .i64 v2.kind) ∧ W.cell? ⟨w3.heap.size, 1, none⟩ = some (.int .i64 v2.n) ∧ W.cell? ⟨w3.heap.size, 2, none⟩ = some (.float .f64 v2.f) ∧ W.cell? ⟨w3.heap.size, 3, none⟩ = some (.string v2.s) ∧ W.cell? ⟨w3.heap.size, 4, none⟩ = some (.slice A3 v2.l.length c3) ∧ W.cell? ⟨w3.heap.size, 5, none⟩ = some (.slice B3 v2.keys.length e3)) (w3.alloc (valObj v2 A3 c3 B3 e3))) := ⟨b0, b1, b2, b3, b4, b5, d0, d1, d2, d3, d4, d5⟩
  have hS1 : Hid (∀ w', Below (w3.alloc (valObj v2 A3 c3 B3 e3)).heap.size (w3.alloc (valObj v2 A3 c3 B3 e3)) w' → (fun W : World => W.cell? ⟨w.heap.size, 0, none⟩ = some (.int .i64 v.kind) ∧ W.cell? ⟨w.heap.size, 1, none⟩ = some (.int .i64 v.n) ∧ W.cell? ⟨w.heap.size, 2, none⟩ = some (.float .f64 v.f) ∧ W.cell? ⟨w.heap.size, 3, none⟩ = some (.string v.s) ∧ W.cell? ⟨w.heap.size, 4, none⟩ = some (.slice A v.l.length ca) ∧ W.cell? ⟨w.heap.size, 5, none⟩ = some (.slice B v.keys.length cb) ∧ W.cell? ⟨w3.heap.size, 0, none⟩ = some (.int .i64 v2.kind) ∧ W.cell? ⟨w3.heap.size, 1, none⟩ = some (.int .i64 v2.n) ∧ W.cell? ⟨w3.heap.size, 2, none⟩ = some (.float .f64 v2.f) ∧ W.cell? ⟨w3.heap.size, 3, none⟩ = some (.string v2.s) ∧ W.cell? ⟨w3.heap.size, 4, none⟩ = some (.slice A3 v2.l.length c3) ∧ W.cell? ⟨w3.heap.size, 5, none⟩ = some (.slice B3 v2.keys.length e3)) w') := fun w' hb => ⟨(hb.cell (p := ⟨w.heap.size, 0, none⟩) hl0).trans b0, (hb.cell (p := ⟨w.heap.size, 1, none⟩) hl0).trans b1, (hb.cell (p := ⟨w.heap.size, 2, none⟩) hl0).trans b2, (hb.cell (p := ⟨w.heap.size, 3, none⟩) hl0).trans b3, (hb.cell (p := ⟨w.heap.size, 4, none⟩) hl0).trans b4, (hb.cell (p := ⟨w.heap.size, 5, none⟩) hl0).trans b5, (hb.cell (p := ⟨w3.heap.size, 0, none⟩) hl1).trans d0, (hb.cell (p := ⟨w3.heap.size, 1, none⟩) hl1).trans d1, (hb.cell (p := ⟨w3.heap.size, 2, none⟩) hl1).trans d2, (hb.cell (p := ⟨w3.heap.size, 3, none⟩) hl1).trans d3, (hb.cell (p := ⟨w3.heap.size, 4, none⟩) hl1).trans d4, (hb.cell (p := ⟨w3.heap.size, 5, none⟩) hl1).trans d5⟩
  have hB6 : Hid (∀ w', Below (w3.alloc (valObj v2 A3 c3 B3 e3)).heap.size (w3.alloc (valObj v2 A3 c3 B3 e3)) w' → Strs any w' B3 v2.keys) := fun w' hb => hB4.out.bel hb
  have hA6 : Hid (∀ w', Below (w3.alloc (valObj v2 A3 c3 B3 e3)).heap.size (w3.alloc (valObj v2 A3 c3 B3 e3)) w' → Vals any w' A3 v2.l) := fun w' hb => hA4.out.bel hb
  have hwd : Below w.heap.size w (w3.alloc (valObj v2 A3 c3 B3 e3)).drew := below_drew hbw4
  clear hB4 hA4 hl0 hl1 b0 b1 b2 b3 b4 b5 d0 d1 d2 d3 d4 d5 hs3 hbelX hbel4
  go_region_held3 (fun W : World => W.cell? ⟨w.heap.size, 0, none⟩ = some (.int .i64 v.kind) ∧ W.cell? ⟨w.heap.size, 1, none⟩ = some (.int .i64 v.n) ∧ W.cell? ⟨w.heap.size, 2, none⟩ = some (.float .f64 v.f) ∧ W.cell? ⟨w.heap.size, 3, none⟩ = some (.string v.s) ∧ W.cell? ⟨w.heap.size, 4, none⟩ = some (.slice A v.l.length ca) ∧ W.cell? ⟨w.heap.size, 5, none⟩ = some (.slice B v.keys.length cb) ∧ W.cell? ⟨w3.heap.size, 0, none⟩ = some (.int .i64 v2.kind) ∧ W.cell? ⟨w3.heap.size, 1, none⟩ = some (.int .i64 v2.n) ∧ W.cell? ⟨w3.heap.size, 2, none⟩ = some (.float .f64 v2.f) ∧ W.cell? ⟨w3.heap.size, 3, none⟩ = some (.string v2.s) ∧ W.cell? ⟨w3.heap.size, 4, none⟩ = some (.slice A3 v2.l.length c3) ∧ W.cell? ⟨w3.heap.size, 5, none⟩ = some (.slice B3 v2.keys.length e3)) (first | exact hS0.out | exact hS2.out | exact hS3.out | exact hS4.out | go_keep)
    (first
    | (go_at_call 9; refine (tidied_any on oe v hltH.out.2 hwt.out ok A B ca cb (w3.alloc (valObj v2 A3 c3 B3 e3)).drew hbH.out (hBH.out.bel hwd) (hAH.out.bel hwd)).mono ?_; rintro e w5 ⟨A5, c5, B5, d5, rfl, hbd5, hB5, hA5, hb5⟩; have hb5' := below_undrew hb5; have hS2 := Lib.hid (hS1.out w5 hb5'))
    | (go_at_call 8; refine (alike_any (v.tidy on oe) hwt2.out v2 heqH.out _ _ _ _ _ _ _ _ _ hbdH.out (hB6.out w5 hb5') (hA6.out w5 hb5') hbd5 (hB5.mono (fun _ _ => trivial)) (hA5.mono (fun _ _ => trivial))).mono ?_; rintro e w6 ⟨r, rfl, hr, hb6⟩; have hb6' := hb5'.trans (hb6.mono hb5'.size); have hS3 := Lib.hid (hS1.out w6 hb6'); have hrt : r = true := (by first | exact hr.2 trivial | simpa using hr); subst hrt; clear hr)
    | (go_at_call 6; refine (tidies_any w6).mono ?_; rintro e w7 ⟨r, rfl, rfl, hb7⟩; have hb7' := hb6'.trans (hb7.mono hb6'.size); have hS4 := Lib.hid (hS1.out w7 hb7')))
  have hbw7 := hbw4.trans (hb7'.mono hbw4.size)
  clear hS0 hS1 hS2 hS3 hS4 hb5 hb6 hb7 hb5' hb6' hb7' hB6 hA6
  go_wp2_with fail
  go_ret
  exact ⟨true, rfl, rfl, hbw7⟩
end Go.Proofs.YtpdcoipfpffhnaaGreat
