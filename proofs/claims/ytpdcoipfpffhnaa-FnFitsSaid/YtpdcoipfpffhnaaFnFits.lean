/-
  What FnFits answers. Conditions: none.
-/
import Derived.Test.YtpdcoipfpffhnaaFitsIm
import Derived.Test.YtpdcoipfpffhnaaFitAny
import Derived.Test.YtpdcoipfpffhnaaLight
namespace Go.Proofs.Ytpdcoipfpffhnaa
open Go.ChangeShapes Go.WideShapes Go.ChangeAt Go.RowKit
set_option linter.unusedVariables false

set_option maxHeartbeats 2000000 in
theorem fnFits_any (f t : V) {ok : Nat → Prop} (A B A' B' : Option Addr) (ca cb ca' cb' : Nat) (w : World) (hb : Bds f ca cb) (hB : Strs ok w B f.keys) (hA : Vals ok w A f.l) (hb' : Bds t ca' cb') (hB' : Strs ok w B' t.keys) (hA' : Vals ok w A' t.l) :
    Calls Try.prog 3 #[.agg #[.int .i64 f.kind, .int .i64 f.n, .float .f64 f.f, .string f.s, .slice A f.l.length ca, .slice B f.keys.length cb], .agg #[.int .i64 t.kind, .int .i64 t.n, .float .f64 t.f, .string t.s, .slice A' t.l.length ca', .slice B' t.keys.length cb']] w (SomeBool (fun r => r = true) w) := by
  go_enter Try.func3, Try.ntmps3
  go_wp2_with fail
  have hbel0 : Below (w.heap.size + 2) ((w.alloc (valObj f A ca B cb)).alloc (valObj t A' ca' B' cb')) ((w.alloc (valObj f A ca B cb)).alloc (valObj t A' ca' B' cb')) := Below.refl _ _
  have hbw0 := below2 w (valObj f A ca B cb) (valObj t A' ca' B' cb')
  refine (zzFits1_any f A B ca cb _ hb (hB.bel hbw0)).mono ?_
  rintro e w1 ⟨r, rfl, _, hb1⟩
  have hbel1 := hbel0.trans (hb1.mono (by rw [alloc_size, alloc_size]; omega))
  obtain ⟨⟨b0, b1, b2, b3, b4, b5⟩, ⟨d0, d1, d2, d3, d4, d5⟩, hbw1⟩ := boxed2 hbel1
  clear hbel0 hbw0 hb1
  cases r with
  | false =>
    go_wp2_with fail
    go_ret
    exact ⟨true, rfl, rfl, hbw1⟩
  | true =>
  go_wp2_with fail
  refine (zzFits1_any t A' B' ca' cb' _ hb' (hB'.bel hbw1)).mono ?_
  rintro e w2 ⟨r, rfl, _, hb2⟩
  have hs1 : w.heap.size + 2 ≤ w1.heap.size := by have := hbel1.size; rw [alloc_size, alloc_size] at this; exact this
  have hbel2 := hbel1.trans (hb2.mono hs1)
  clear b0 b1 b2 b3 b4 b5 d0 d1 d2 d3 d4 d5 hb2 hbel1 hbw1
  obtain ⟨⟨b0, b1, b2, b3, b4, b5⟩, ⟨d0, d1, d2, d3, d4, d5⟩, hbw2⟩ := boxed2 hbel2
  cases r with
  | false =>
    go_wp2_with fail
    go_ret
    exact ⟨true, rfl, rfl, hbw2⟩
  | true =>
  go_wp2_with fail
  refine (plainData_any f A B ca cb _ hb (hB.bel hbw2) (hA.bel hbw2)).mono ?_
  rintro e w3 ⟨r, rfl, hpf, hb3⟩
  have hs2 : w.heap.size + 2 ≤ w2.heap.size := by have := hbel2.size; rw [alloc_size, alloc_size] at this; exact this
  have hbel3 := hbel2.trans (hb3.mono hs2)
  clear b0 b1 b2 b3 b4 b5 d0 d1 d2 d3 d4 d5 hb3 hbel2 hbw2
  obtain ⟨⟨b0, b1, b2, b3, b4, b5⟩, ⟨d0, d1, d2, d3, d4, d5⟩, hbw3⟩ := boxed2 hbel3
  cases r with
  | false =>
    clear hpf
    go_wp2_with fail
    refine (fitsOne_any w3).mono ?_
    rintro e w4 ⟨r, rfl, rfl, hb4⟩
    have hbw4 := hbw3.trans (hb4.mono hbw3.size)
    clear b0 b1 b2 b3 b4 b5 d0 d1 d2 d3 d4 d5
    go_wp2_with fail
    go_ret
    exact ⟨true, rfl, rfl, hbw4⟩
  | true =>
  have hpf' := Lib.hid (hpf rfl)
  clear hpf
  go_wp2_with fail
  refine (plainData_any t A' B' ca' cb' _ hb' (hB'.bel hbw3) (hA'.bel hbw3)).mono ?_
  rintro e w4 ⟨r, rfl, hpt, hb4⟩
  have hs3 : w.heap.size + 2 ≤ w3.heap.size := by have := hbel3.size; rw [alloc_size, alloc_size] at this; exact this
  have hbel4 := hbel3.trans (hb4.mono hs3)
  clear b0 b1 b2 b3 b4 b5 d0 d1 d2 d3 d4 d5 hb4 hbel3 hbw3
  obtain ⟨⟨b0, b1, b2, b3, b4, b5⟩, ⟨d0, d1, d2, d3, d4, d5⟩, hbw4⟩ := boxed2 hbel4
  cases r with
  | false =>
    clear hpt
    go_wp2_with fail
    refine (fitsOne_any w4).mono ?_
    rintro e w5 ⟨r, rfl, rfl, hb5⟩
    have hbw5 := hbw4.trans (hb5.mono hbw4.size)
    clear b0 b1 b2 b3 b4 b5 d0 d1 d2 d3 d4 d5
    go_wp2_with fail
    go_ret
    exact ⟨true, rfl, rfl, hbw5⟩
  | true =>
  have hpt' := Lib.hid (hpt rfl)
  clear hpt
  have hs4 : w.heap.size + 2 ≤ w4.heap.size := by have := hbel4.size; rw [alloc_size, alloc_size] at this; exact this
  have fw : Hid (f.wt ≤ 1000000) := by have := hpf'.out.1; show f.wt ≤ _; omega
  have tw : Hid (t.wt ≤ 1000000) := by have := hpt'.out.1; show t.wt ≤ _; omega
  go_wp2_with fail
  refine (fits_any f t A B A' B' ca cb ca' cb' w4 hb (hB.bel hbw4) (hA.bel hbw4) hb' (hB'.bel hbw4) (hA'.bel hbw4) hpf'.out.2.1 hpt'.out.2.1 hpf'.out.2.2 hpt'.out.2.2 fw.out tw.out).mono ?_
  rintro e w5 ⟨r, rfl, hr, hb5⟩
  have hbel5 := hbel4.trans (hb5.mono hs4)
  clear b0 b1 b2 b3 b4 b5 d0 d1 d2 d3 d4 d5 hb5 hbel4 hbw4
  obtain ⟨⟨b0, b1, b2, b3, b4, b5⟩, ⟨d0, d1, d2, d3, d4, d5⟩, hbw5⟩ := boxed2 hbel5
  have hs5 : w.heap.size + 2 ≤ w5.heap.size := by have := hbel5.size; rw [alloc_size, alloc_size] at this; exact this
  have hrH := Lib.hid hr
  clear hr
  go_wp2_with fail
  refine (fitting_any f fw.out hpf'.out.2.1 t tw.out hpt'.out.2.1 A B A' B' ca cb ca' cb' w5 hb (hB.bel hbw5) (hA.bel hbw5) hb' (hB'.bel hbw5) (hA'.bel hbw5)).mono ?_
  rintro e w6 ⟨r2, rfl, hr2, hb6⟩
  have hrr : r = r2 := by
    have := hrH.out.trans hr2.symm
    cases r <;> cases r2 <;> simp at this <;> rfl
  subst hrr
  have hbw6 := hbw5.trans (hb6.mono hbw5.size)
  clear b0 b1 b2 b3 b4 b5 d0 d1 d2 d3 d4 d5 hr2 hrH
  cases r
  all_goals
    go_wp2_with fail
    refine (fitsOne_any w6).mono ?_
    rintro e w7 ⟨r, rfl, rfl, hb7⟩
    have hbw7 := hbw6.trans (hb7.mono hbw6.size)
    go_wp2_with fail
    go_ret
    exact ⟨true, rfl, rfl, hbw7⟩
end Go.Proofs.Ytpdcoipfpffhnaa
