/-
  impl.Tidy. Conditions: none.
-/
import Derived.Test.YtpdcoipfpffhnaaGreatAlike6
namespace Go.Proofs.YtpdcoipfpffhnaaGreat
open Go.ChangeShapes Go.WideShapes Go.ChangeAt Go.RowKit
set_option linter.unusedVariables false
set_option linter.unusedSimpArgs false
attribute [local go_sem] store_float'

set_option maxHeartbeats 1000000 in
theorem simple_any (v : V) (n : Int) {ok : Nat → Prop} (A B : Option Addr) (ca cb : Nat) (w : World) (hb : Bds v ca cb) (hB : Strs ok w B v.keys) (hA : Vals ok w A v.l) (hok : v.Ok) (hwt : v.wt ≤ 1000000) (hn : n ≤ 2) :
    Calls Tryz.prog 18 #[.agg #[.int .i64 v.kind, .int .i64 v.n, .float .f64 v.f, .string v.s, .slice A v.l.length ca, .slice B v.keys.length cb], .int .i64 n] w (SomeBool (fun r => r = true) w) := by
  have R : Hid (RightAt v) := right_any v hok hwt
  go_enter Tryz.func18, Tryz.ntmps18
  go_wp2_with fail
  have hbel : Below (w.heap.size + 1) (w.alloc (valObj v A ca B cb)) (w.alloc (valObj v A ca B cb)) := Below.refl _ _
  have hA0 := hA.bel (boxed hbel).2
  have hB0 := hB.bel (boxed hbel).2
  refine (R.out A B ca cb _ hb hB0 hA0).mono ?_
  rintro e w2 ⟨r, rfl, rfl, hb2⟩
  replace hbel : Below (w.heap.size + 1) (w.alloc (valObj v A ca B cb)) w2 := hbel.trans (hb2.mono (by simp))
  obtain ⟨⟨b0, b1, b2, b3, b4, b5⟩, hbw⟩ := boxed hbel
  clear hb2 hA0 hB0
  go_wp2_with fail
  have hle := below_boxed_size hbel
  refine (big_any v A B ca cb w2 hb (hB.bel hbw) (hA.bel hbw) hok).mono ?_
  rintro e w3 ⟨r, rfl, rfl, hb3⟩
  have hbw3 : Below w.heap.size w w3 := below_call hbw (by omega) hb3
  clear b0 b1 b2 b3 b4 b5
  go_wp2_with fail
  go_ret
  exact ⟨true, rfl, rfl, hbw3⟩
/-- A value is handed back that is alike the tidy one. -/
def TidyPost (t : V) (w : World) (e : Ending) (w' : World) : Prop := ∃ v2 A ca B cb, e = .returned (.tuple #[.agg #[.int .i64 v2.kind, .int .i64 v2.n, .float .f64 v2.f, .string v2.s, .slice A v2.l.length ca, .slice B v2.keys.length cb], .bool false]) ∧ Bds v2 ca cb ∧ Strs any w' B v2.keys ∧ Vals any w' A v2.l ∧ Below w.heap.size w w' ∧ EqV v2 t

set_option maxRecDepth 100000 in
set_option maxHeartbeats 4000000 in
theorem tidy_any (on oe inp : Bool) (v : V) (hvo : v.Ok) (hwt : v.wt ≤ 1000000) {ok : Nat → Prop} (A B : Option Addr) (ca cb : Nat) (w : World) (hbd : Bds v ca cb) (hB : Strs ok w B v.keys) (hA : Vals ok w A v.l) :
    Calls Tryz.prog 7 #[.agg #[.int .i64 v.kind, .int .i64 v.n, .float .f64 v.f, .string v.s, .slice A v.l.length ca, .slice B v.keys.length cb], .bool on, .bool oe, .bool inp] w (TidyPost (v.tidy on oe) w) := by
  have hfin := Lib.hid (V.Fin.tidy (on := on) (oe := oe) v (fin_of v hbd hA))
  have hvoH := Lib.hid hvo
  have hwtH := Lib.hid hwt
  have htok : Hid ((v.tidy on oe).Ok) := V.Ok.tidy v hvo
  have htwt : Hid ((v.tidy on oe).wt ≤ 1000000) := Nat.le_trans (tidy_wt on oe v) hwt
  have hbdH := Lib.hid hbd
  have hBH := Lib.hid hB
  have hAH := Lib.hid hA
  have P : Hid (PlainAt v) := plain_any v hvo hwt
  clear hvo hwt hbd hB hA
  go_enter Tryz.func7, Tryz.ntmps7
  go_wp2_with fail
  have hbel0 : Below (w.heap.size + 1) (w.alloc (valObj v A ca B cb)) ((w.alloc (valObj v A ca B cb)).alloc (.cells #[.int .i64 0, .int .i64 0, .float .f64 0, .string ⟨#[]⟩, .slice none 0 0, .slice none 0 0] 26)) := (Below.refl _ _).alloc (by rw [alloc_size]; omega) _
  obtain ⟨_, hbw0⟩ := boxed hbel0
  have hz0 := zero_new (w.alloc (valObj v A ca B cb)) 26
  rw [alloc_size] at hz0
  refine (simple_any v 0 A B ca cb _ hbdH.out (hBH.out.bel hbw0) (hAH.out.bel hbw0) hvoH.out hwtH.out (by omega)).mono ?_
  rintro e w2 ⟨r, rfl, rfl, hb2⟩
  have hsz0 : ((w.alloc (valObj v A ca B cb)).alloc (.cells #[.int .i64 0, .int .i64 0, .float .f64 0, .string ⟨#[]⟩, .slice none 0 0, .slice none 0 0] 26)).heap.size = w.heap.size + 2 := by rw [alloc_size, alloc_size]
  rw [hsz0] at hb2
  have hbel2 := hbel0.trans (hb2.mono (by omega))
  have hz2 := hz0.bel hb2 (by omega)
  have hs2 : w.heap.size + 2 ≤ w2.heap.size := by have := hb2.size; omega
  clear hbel0 hbw0 hz0 hb2 hsz0
  obtain ⟨⟨b0, b1, b2, b3, b4, b5⟩, hbw2⟩ := boxed hbel2
  have hal : ∀ o, Box (w2.alloc o) w.heap.size v A ca B cb := fun o => (boxed (hbel2.alloc (by omega) o)).1
  have p0 := fun o => (hal o).c0
  have p1 := fun o => (hal o).c1
  have p2 := fun o => (hal o).c2
  have p3 := fun o => (hal o).c3
  have p4 := fun o => (hal o).c4
  have p5 := fun o => (hal o).c5
  clear hal
  cases inp
  · go_wp2_with fail
    obtain ⟨W3, hW3⟩ : ∃ W, W = w2.alloc (.cells #[.int .i64 0, .bool false, .bool false, .bool on, .bool oe, .int .i64 0, .int .i64 0, .string ⟨#[]⟩, .string ⟨#[]⟩, .bool false, .string ⟨#[]⟩, .bool false, .bool false, .bool false, .string ⟨#[]⟩, .string ⟨#[]⟩, .string ⟨#[]⟩, .string ⟨#[]⟩, .string ⟨#[]⟩, .string ⟨#[]⟩, .string ⟨#[]⟩, .string ⟨#[]⟩, .bool false, .bool false, .bool false, .bool false, .int .i64 0, .string ⟨#[]⟩] 42) := ⟨_, rfl⟩
    rw [← hW3]
    have hop3 : Opts W3 w2.heap.size on oe := by
      rw [hW3]
      exact ⟨cells_new w2 _ _ 3, cells_new w2 _ _ 4, by rw [alloc_size]; exact Nat.lt_succ_self _⟩
    have hs3 : W3.heap.size = w2.heap.size + 1 := by rw [hW3, alloc_size]
    have hbl3 : Below w2.heap.size w2 W3 := by rw [hW3]; exact below_alloc _ _
    have hbw3 := hbw2.trans (hbl3.mono hbw2.size)
    have hs3H := Lib.hid hs3
    clear hW3 p0 p1 p2 p3 p4 p5 b0 b1 b2 b3 b4 b5 hs3
    refine (P.out A B ca cb W3 hbdH.out (hBH.out.bel hbw3) (hAH.out.bel hbw3)).mono ?_
    rintro e w4 ⟨x, rfl, px, hb4⟩
    have hop4 := hop3.bel hb4 hop3.2.2
    have hlt3 := hop3.2.2
    have hD := Lib.hid (Decompose_any on oe v hvoH.out hwtH.out x w4 _ _ w2.heap.size px (Nat.le_refl _) hop4)
    clear px
    go_wp2_with fail
    refine hD.out.mono ?_
    rintro e w5 ⟨x5, v1, rfl, px5, heq, hb5⟩
    have hb45 : Below W3.heap.size w4 w5 := hb5.mono hb4.size
    have hV := Lib.hid (value_any (v.tidy on oe) htok.out hfin.out htwt.out v1 x5 w5 _ _ px5 heq (Nat.le_refl _))
    clear px5 heq hb5 hD
    go_wp2_with fail
    refine hV.out.mono ?_
    rintro e w6 ⟨v2, A2, c2, B2, d2, rfl, hbd2, hB2, hA2, hb6, heq2⟩
    have hb36 : Below W3.heap.size W3 w6 := hb4.trans (hb45.trans (hb6.mono (Nat.le_trans hb4.size hb45.size)))
    have hb26 : Below w2.heap.size w2 w6 := hbl3.trans (hb36.mono hbl3.size)
    have h25 : w2.heap.size ≤ w5.heap.size := Nat.le_trans hbl3.size (Nat.le_trans hb4.size hb45.size)
    obtain ⟨c0, c1, c2', c3, c4, c5, f0, f1, f2, f3, f4, f5⟩ := hz2.bel hb26 (by omega)
    have hbw6 := hbw2.trans (hb26.mono hbw2.size)
    have hlt6 : w.heap.size + 1 < w6.heap.size := by have := hb26.size; omega
    have hB2' := Lib.hid hB2
    have hA2' := Lib.hid hA2
    have heqH := Lib.hid heq2
    have hbd2H := Lib.hid hbd2
    clear hB2 hA2 hb6 heq2 hb36 hb26 hb45 hbd2 hbl3 hb4 hop3 hop4 hV
    go_wp2_with fail
    have hfar : ∀ k, w2.heap.size ≤ k → ((((((w6.setCell ⟨w.heap.size + 1, 0, none⟩ (.int .i64 v2.kind)).setCell ⟨w.heap.size + 1, 1, none⟩ (.int .i64 v2.n)).setCell ⟨w.heap.size + 1, 2, none⟩ (.float .f64 v2.f)).setCell ⟨w.heap.size + 1, 3, none⟩ (.string v2.s)).setCell ⟨w.heap.size + 1, 4, none⟩ (.slice A2 v2.l.length c2)).setCell ⟨w.heap.size + 1, 5, none⟩ (.slice B2 v2.keys.length d2)).heap[k]? = w6.heap[k]? := fun k hk => by
      have hk' : k ≠ w.heap.size + 1 := by omega
      rw [set_far _ _ _ hk', set_far _ _ _ hk', set_far _ _ _ hk', set_far _ _ _ hk', set_far _ _ _ hk', set_far _ _ _ hk']
    exact bodyPost_ret (v := .tuple #[.agg #[.int .i64 v2.kind, .int .i64 v2.n, .float .f64 v2.f, .string v2.s, .slice A2 v2.l.length c2, .slice B2 v2.keys.length d2], .bool false]) (by simp [results, Tryz.results7, go_sem, c0, c1, c2', c3, c4, c5]) rfl
      ⟨v2, A2, c2, B2, d2, rfl, hbd2H.out, (hB2'.out.move (fun k hk => hfar k (by omega))).mono (fun _ _ => trivial), (hA2'.out.move (fun k hk => hfar k (by omega))).mono (fun _ _ => trivial), ((((((hbw6.setCell (by simp) _).setCell (by simp) _).setCell (by simp) _).setCell (by simp) _).setCell (by simp) _).setCell (by simp) _), heqH.out⟩
  · go_wp2_with fail
    obtain ⟨W3, hW3⟩ : ∃ W, W = w2.alloc (.cells #[.int .i64 0, .bool false, .bool false, .bool on, .bool oe, .int .i64 0, .int .i64 0, .string ⟨#[]⟩, .string ⟨#[]⟩, .bool false, .string ⟨#[]⟩, .bool false, .bool false, .bool false, .string ⟨#[]⟩, .string ⟨#[]⟩, .string ⟨#[]⟩, .string ⟨#[]⟩, .string ⟨#[]⟩, .string ⟨#[]⟩, .string ⟨#[]⟩, .string ⟨#[]⟩, .bool false, .bool false, .bool false, .bool false, .int .i64 0, .string ⟨#[]⟩] 42) := ⟨_, rfl⟩
    rw [← hW3]
    have hop3 : Opts W3 w2.heap.size on oe := by
      rw [hW3]
      exact ⟨cells_new w2 _ _ 3, cells_new w2 _ _ 4, by rw [alloc_size]; exact Nat.lt_succ_self _⟩
    have hs3 : W3.heap.size = w2.heap.size + 1 := by rw [hW3, alloc_size]
    have hbl3 : Below w2.heap.size w2 W3 := by rw [hW3]; exact below_alloc _ _
    have hbw3 := hbw2.trans (hbl3.mono hbw2.size)
    have hs3H := Lib.hid hs3
    clear hW3 p0 p1 p2 p3 p4 p5 b0 b1 b2 b3 b4 b5 hs3
    refine (P.out A B ca cb W3 hbdH.out (hBH.out.bel hbw3) (hAH.out.bel hbw3)).mono ?_
    rintro e w4 ⟨x, rfl, px, hb4⟩
    have hop4 := hop3.bel hb4 hop3.2.2
    have hlt3 := hop3.2.2
    have hD := Lib.hid (Alter_any on oe v hvoH.out hwtH.out x w4 _ _ w2.heap.size px (Nat.le_refl _) hop4 hlt3)
    clear px
    go_wp2_with fail
    refine hD.out.mono ?_
    rintro e w5 ⟨rfl, px5, ht5⟩
    have hb45 : Below W3.heap.size w4 w5 := ⟨ht5.os, ht5.tape, ht5.output, ht5.size, fun k hk => ht5.block k (Nat.lt_of_lt_of_le hk hb4.size) (Or.inl hk)⟩
    have hV := Lib.hid (value_any (v.tidy on oe) htok.out hfin.out htwt.out (v.tidy on oe) x w5 _ _ px5 (EqV.refl _ htok.out) ht5.size)
    clear px5 ht5 hD
    go_wp2_with fail
    refine hV.out.mono ?_
    rintro e w6 ⟨v2, A2, c2, B2, d2, rfl, hbd2, hB2, hA2, hb6, heq2⟩
    have hb36 : Below W3.heap.size W3 w6 := hb4.trans (hb45.trans (hb6.mono (Nat.le_trans hb4.size hb45.size)))
    have hb26 : Below w2.heap.size w2 w6 := hbl3.trans (hb36.mono hbl3.size)
    have h25 : w2.heap.size ≤ w5.heap.size := Nat.le_trans hbl3.size (Nat.le_trans hb4.size hb45.size)
    obtain ⟨c0, c1, c2', c3, c4, c5, f0, f1, f2, f3, f4, f5⟩ := hz2.bel hb26 (by omega)
    have hbw6 := hbw2.trans (hb26.mono hbw2.size)
    have hlt6 : w.heap.size + 1 < w6.heap.size := by have := hb26.size; omega
    have hB2' := Lib.hid hB2
    have hA2' := Lib.hid hA2
    have heqH := Lib.hid heq2
    have hbd2H := Lib.hid hbd2
    clear hB2 hA2 hb6 heq2 hb36 hb26 hb45 hbd2 hbl3 hb4 hop3 hop4 hV
    go_wp2_with fail
    have hfar : ∀ k, w2.heap.size ≤ k → ((((((w6.setCell ⟨w.heap.size + 1, 0, none⟩ (.int .i64 v2.kind)).setCell ⟨w.heap.size + 1, 1, none⟩ (.int .i64 v2.n)).setCell ⟨w.heap.size + 1, 2, none⟩ (.float .f64 v2.f)).setCell ⟨w.heap.size + 1, 3, none⟩ (.string v2.s)).setCell ⟨w.heap.size + 1, 4, none⟩ (.slice A2 v2.l.length c2)).setCell ⟨w.heap.size + 1, 5, none⟩ (.slice B2 v2.keys.length d2)).heap[k]? = w6.heap[k]? := fun k hk => by
      have hk' : k ≠ w.heap.size + 1 := by omega
      rw [set_far _ _ _ hk', set_far _ _ _ hk', set_far _ _ _ hk', set_far _ _ _ hk', set_far _ _ _ hk', set_far _ _ _ hk']
    exact bodyPost_ret (v := .tuple #[.agg #[.int .i64 v2.kind, .int .i64 v2.n, .float .f64 v2.f, .string v2.s, .slice A2 v2.l.length c2, .slice B2 v2.keys.length d2], .bool false]) (by simp [results, Tryz.results7, go_sem, c0, c1, c2', c3, c4, c5]) rfl
      ⟨v2, A2, c2, B2, d2, rfl, hbd2H.out, (hB2'.out.move (fun k hk => hfar k (by omega))).mono (fun _ _ => trivial), (hA2'.out.move (fun k hk => hfar k (by omega))).mono (fun _ _ => trivial), ((((((hbw6.setCell (by simp) _).setCell (by simp) _).setCell (by simp) _).setCell (by simp) _).setCell (by simp) _).setCell (by simp) _), heqH.out⟩
end Go.Proofs.YtpdcoipfpffhnaaGreat
