/-
  zzFits1, impl.Fits, fitsOne. Conditions: none.
-/
import Derived.Test.YtpdcoipfpffhnaaMatch
import Derived.Test.YtpdcoipfpffhnaaRight
import Derived.Test.YtpdcoipfpffhnaaPlain
import Derived.Test.YtpdcoipfpffhnaaMember
import Derived.Test.YtpdcoipfpffhnaaFitting
namespace Go.Proofs.Ytpdcoipfpffhnaa
open Go.ChangeShapes Go.WideShapes Go.ChangeAt Go.RowKit
set_option linter.unusedVariables false

set_option maxHeartbeats 1000000 in
theorem zzFits1_any (v : V) {ok : Nat → Prop} (A B : Option Addr) (ca cb : Nat) (w : World) (hb : Bds v ca cb) (hB : Strs ok w B v.keys) :
    Calls Try.prog 6 #[.agg #[.int .i64 v.kind, .int .i64 v.n, .float .f64 v.f, .string v.s, .slice A v.l.length ca, .slice B v.keys.length cb]] w (SomeBool (fun _ => True) w) := by
  have hlb := hb.lb
  have hla := hb.la
  have hs := hb.s
  go_enter Try.func6, Try.ntmps6
  have hbel := below_alloc w (valObj v A ca B cb)
  by_cases h1 : v.s.size ≤ 2147483647
  rotate_left
  · go_wp2_with fail
    go_ret
    exact ⟨false, rfl, trivial, hbel⟩
  by_cases h2 : v.l.length ≤ 2147483647
  rotate_left
  · go_wp2_with fail
    go_ret
    exact ⟨false, rfl, trivial, hbel⟩
  go_wp2_with fail
  refine (zzFits2_any B v.keys cb _ (hB.bel hbel) hlb).mono ?_
  rintro e w2 ⟨rfl, rfl⟩
  cases hf : fits2 v.keys
  all_goals
    go_wp2_with fail
    go_ret
    exact ⟨_, rfl, trivial, hbel⟩

/-- The answers of Fits: whether it fits, and that nothing is bad. -/
def FitsAns (P : Prop) (w : World) (e : Ending) (w' : World) : Prop := ∃ r : Bool, e = .returned (.tuple #[.bool r, .bool false]) ∧ (r = true ↔ P) ∧ Below w.heap.size w w'

set_option maxHeartbeats 2000000 in
theorem fits_any (f t : V) {ok : Nat → Prop} (A B A' B' : Option Addr) (ca cb ca' cb' : Nat) (w : World) (hb : Bds f ca cb) (hB : Strs ok w B f.keys) (hA : Vals ok w A f.l) (hb' : Bds t ca' cb') (hB' : Strs ok w B' t.keys) (hA' : Vals ok w A' t.l)
    (hfo : f.Ok) (hto : t.Ok) (h4 : f.No 4) (t4 : t.No 4) (hfw : f.wt ≤ 1000000) (htw : t.wt ≤ 1000000) :
    Calls Try.prog 9 #[.agg #[.int .i64 f.kind, .int .i64 f.n, .float .f64 f.f, .string f.s, .slice A f.l.length ca, .slice B f.keys.length cb], .agg #[.int .i64 t.kind, .int .i64 t.n, .float .f64 t.f, .string t.s, .slice A' t.l.length ca', .slice B' t.keys.length cb']] w (FitsAns (Fit f t) w) := by
  have R1 : Hid (RightAt f) := right_any f hfo hfw
  have R2 : Hid (RightAt t) := right_any t hto htw
  have P1 : Hid (PlainAt f) := plain_any f hfo hfw
  have P2 : Hid (PlainAt t) := plain_any t hto htw
  have M := Lib.hid (match_any f hfw)
  go_enter Try.func9, Try.ntmps9
  go_wp2_with fail
  have hbel0 : Below (w.heap.size + 2) ((w.alloc (valObj f A ca B cb)).alloc (valObj t A' ca' B' cb')) ((w.alloc (valObj f A ca B cb)).alloc (valObj t A' ca' B' cb')) := Below.refl _ _
  have hbw0 := below2 w (valObj f A ca B cb) (valObj t A' ca' B' cb')
  refine (R1.out A B ca cb _ hb (hB.bel hbw0) (hA.bel hbw0)).mono ?_
  rintro e w1 ⟨r, rfl, rfl, hb1⟩
  have hbel1 := hbel0.trans (hb1.mono (by rw [alloc_size, alloc_size]; omega))
  obtain ⟨⟨b0, b1, b2, b3, b4, b5⟩, ⟨d0, d1, d2, d3, d4, d5⟩, hbw1⟩ := boxed2 hbel1
  clear hbel0 hbw0 hb1
  go_wp2_with fail
  refine (R2.out A' B' ca' cb' _ hb' (hB'.bel hbw1) (hA'.bel hbw1)).mono ?_
  rintro e w2 ⟨r, rfl, rfl, hb2⟩
  have hs1 : w.heap.size + 2 ≤ w1.heap.size := by have := hbel1.size; rw [alloc_size, alloc_size] at this; exact this
  have hbel2 := hbel1.trans (hb2.mono hs1)
  clear b0 b1 b2 b3 b4 b5 d0 d1 d2 d3 d4 d5 hb2 hbel1 hbw1
  obtain ⟨⟨b0, b1, b2, b3, b4, b5⟩, ⟨d0, d1, d2, d3, d4, d5⟩, hbw2⟩ := boxed2 hbel2
  go_wp2_with fail
  refine (big_any f A B ca cb _ hb (hB.bel hbw2) (hA.bel hbw2) hfo).mono ?_
  rintro e w3 ⟨r, rfl, rfl, hb3⟩
  have hs2 : w.heap.size + 2 ≤ w2.heap.size := by have := hbel2.size; rw [alloc_size, alloc_size] at this; exact this
  have hbel3 := hbel2.trans (hb3.mono hs2)
  clear b0 b1 b2 b3 b4 b5 d0 d1 d2 d3 d4 d5 hb3 hbel2 hbw2
  obtain ⟨⟨b0, b1, b2, b3, b4, b5⟩, ⟨d0, d1, d2, d3, d4, d5⟩, hbw3⟩ := boxed2 hbel3
  go_wp2_with fail
  refine (big_any t A' B' ca' cb' _ hb' (hB'.bel hbw3) (hA'.bel hbw3) hto).mono ?_
  rintro e w4 ⟨r, rfl, rfl, hb4⟩
  have hs3 : w.heap.size + 2 ≤ w3.heap.size := by have := hbel3.size; rw [alloc_size, alloc_size] at this; exact this
  have hbel4 := hbel3.trans (hb4.mono hs3)
  clear b0 b1 b2 b3 b4 b5 d0 d1 d2 d3 d4 d5 hb4 hbel3 hbw3
  obtain ⟨⟨b0, b1, b2, b3, b4, b5⟩, ⟨d0, d1, d2, d3, d4, d5⟩, hbw4⟩ := boxed2 hbel4
  have hs4 : w.heap.size + 2 ≤ w4.heap.size := by have := hbel4.size; rw [alloc_size, alloc_size] at this; exact this
  go_wp2_with fail
  have hS1 : Hid ((fun w' => w'.cell? ⟨w.heap.size, 0, none⟩ = some (.int .i64 f.kind) ∧ w'.cell? ⟨w.heap.size, 1, none⟩ = some (.int .i64 f.n) ∧ w'.cell? ⟨w.heap.size, 2, none⟩ = some (.float .f64 f.f) ∧ w'.cell? ⟨w.heap.size, 3, none⟩ = some (.string f.s) ∧ w'.cell? ⟨w.heap.size, 4, none⟩ = some (.slice A f.l.length ca) ∧ w'.cell? ⟨w.heap.size, 5, none⟩ = some (.slice B f.keys.length cb) ∧ w'.cell? ⟨w.heap.size + 1, 0, none⟩ = some (.int .i64 t.kind) ∧ w'.cell? ⟨w.heap.size + 1, 1, none⟩ = some (.int .i64 t.n) ∧ w'.cell? ⟨w.heap.size + 1, 2, none⟩ = some (.float .f64 t.f) ∧ w'.cell? ⟨w.heap.size + 1, 3, none⟩ = some (.string t.s) ∧ w'.cell? ⟨w.heap.size + 1, 4, none⟩ = some (.slice A' t.l.length ca') ∧ w'.cell? ⟨w.heap.size + 1, 5, none⟩ = some (.slice B' t.keys.length cb')) w4) := ⟨b0, b1, b2, b3, b4, b5, d0, d1, d2, d3, d4, d5⟩
  have hS2 : Hid (∀ w2, Below w4.heap.size w4 w2 → (fun w' => w'.cell? ⟨w.heap.size, 0, none⟩ = some (.int .i64 f.kind) ∧ w'.cell? ⟨w.heap.size, 1, none⟩ = some (.int .i64 f.n) ∧ w'.cell? ⟨w.heap.size, 2, none⟩ = some (.float .f64 f.f) ∧ w'.cell? ⟨w.heap.size, 3, none⟩ = some (.string f.s) ∧ w'.cell? ⟨w.heap.size, 4, none⟩ = some (.slice A f.l.length ca) ∧ w'.cell? ⟨w.heap.size, 5, none⟩ = some (.slice B f.keys.length cb) ∧ w'.cell? ⟨w.heap.size + 1, 0, none⟩ = some (.int .i64 t.kind) ∧ w'.cell? ⟨w.heap.size + 1, 1, none⟩ = some (.int .i64 t.n) ∧ w'.cell? ⟨w.heap.size + 1, 2, none⟩ = some (.float .f64 t.f) ∧ w'.cell? ⟨w.heap.size + 1, 3, none⟩ = some (.string t.s) ∧ w'.cell? ⟨w.heap.size + 1, 4, none⟩ = some (.slice A' t.l.length ca') ∧ w'.cell? ⟨w.heap.size + 1, 5, none⟩ = some (.slice B' t.keys.length cb')) w2) := fun w2 hb2 => by
    obtain ⟨s1, s2, s3, s4, s5, s6, s7, s8, s9, s10, s11, s12⟩ := hS1.out
    have h := fun (p : Addr) (hp : p.block < w4.heap.size) => hb2.cell (p := p) hp
    have g0 : w.heap.size < w4.heap.size := by omega
    have g1 : w.heap.size + 1 < w4.heap.size := by omega
    exact ⟨(h _ g0).trans s1, (h _ g0).trans s2, (h _ g0).trans s3, (h _ g0).trans s4, (h _ g0).trans s5, (h _ g0).trans s6, (h _ g1).trans s7, (h _ g1).trans s8, (h _ g1).trans s9, (h _ g1).trans s10, (h _ g1).trans s11, (h _ g1).trans s12⟩
  have hp1 := Lib.hid (P1.out A B ca cb w4.drew hb ((hB.bel hbw4).move (fun _ _ => rfl)) ((hA.bel hbw4).move (fun _ _ => rfl)))
  go_region_held3 (fun w' => w'.cell? ⟨w.heap.size, 0, none⟩ = some (.int .i64 f.kind) ∧ w'.cell? ⟨w.heap.size, 1, none⟩ = some (.int .i64 f.n) ∧ w'.cell? ⟨w.heap.size, 2, none⟩ = some (.float .f64 f.f) ∧ w'.cell? ⟨w.heap.size, 3, none⟩ = some (.string f.s) ∧ w'.cell? ⟨w.heap.size, 4, none⟩ = some (.slice A f.l.length ca) ∧ w'.cell? ⟨w.heap.size, 5, none⟩ = some (.slice B f.keys.length cb) ∧ w'.cell? ⟨w.heap.size + 1, 0, none⟩ = some (.int .i64 t.kind) ∧ w'.cell? ⟨w.heap.size + 1, 1, none⟩ = some (.int .i64 t.n) ∧ w'.cell? ⟨w.heap.size + 1, 2, none⟩ = some (.float .f64 t.f) ∧ w'.cell? ⟨w.heap.size + 1, 3, none⟩ = some (.string t.s) ∧ w'.cell? ⟨w.heap.size + 1, 4, none⟩ = some (.slice A' t.l.length ca') ∧ w'.cell? ⟨w.heap.size + 1, 5, none⟩ = some (.slice B' t.keys.length cb')) (first | exact hS1.out | exact hS3.out | exact hS4.out | exact hS5.out | go_keep)
    (first
    | (go_at_call 29; refine hp1.out.mono ?_; rintro e w5 ⟨x, rfl, px, hb5⟩; have hb5' := below_undrew hb5; have hS3 := Lib.hid (hS2.out w5 hb5'); clear hp1)
    | (go_at_call 29; refine (P2.out A' B' ca' cb' w5 hb' (hB'.bel (hbw4.trans (hb5'.mono hbw4.size))) (hA'.bel (hbw4.trans (hb5'.mono hbw4.size)))).mono ?_; rintro e w6 ⟨y, rfl, py, hb6⟩; have hb6' := hb5'.trans (hb6.mono hb5'.size); have hS4 := Lib.hid (hS2.out w6 hb6'); have px6 := px.bel hb6)
    | (go_at_call 28; refine (M.out t x y w6 px6 py hb6.size (Nat.le_refl _) hfo hto h4 t4).mono ?_; rintro e w7 ⟨r, rfl, hr, hb7⟩; have hb7' := hb6'.trans (hb7.mono hb6'.size); have hS5 := Lib.hid (hS2.out w7 hb7')))
  have hrH := Lib.hid hr
  have hbw7 := hbw4.trans (hb7'.mono hbw4.size)
  clear hr hb7' hb7 hb6' hb6 hb5' hb5 px px6 py
  go_wp2_with fail
  go_ret2
  exact ⟨r, rfl, hrH.out, hbw7⟩

theorem int_ok (n : Int) : (V.int n).Ok := .int _ rfl rfl rfl
theorem int_no (n : Int) : (V.int n).No 4 := .mk _ (by show (3 : Int) ≠ 4; omega) (fun h => by rcases h with h | h <;> cases h)
theorem int_wt (n : Int) : (V.int n).wt ≤ 1000000 := by simp [V.int, V.wt, V.wts, sumS]; (show 1 + 0 ≤ 1000000); omega

set_option maxHeartbeats 1000000 in
theorem fitsOne_any (w : World) : Calls Try.prog 8 #[] w (SomeBool (fun r => r = true) w) := by
  have hone : I64 1 := by unfold I64; omega
  have hfit : Hid (Fit (V.int 1) (V.int 1)) := .leaf _ _ (by show (3 : Int) ≠ 7; omega) (by show (3 : Int) ≠ 8; omega) ⟨rfl, fun _ => rfl, fun h => (by have : (3 : Int) = 4 := h; omega), fun _ => rfl⟩
  have h1 := Lib.hid hone
  clear hone
  go_enter Try.func8, Try.ntmps8
  go_wp2_with fail
  refine (integer_any (fun _ => True) 1 h1.out w).mono ?_
  rintro e w1 ⟨A, ca, B, cb, rfl, hb1, hB1, hA1, hl1⟩
  go_wp2_with fail
  refine (integer_any (fun _ => True) 1 h1.out w1).mono ?_
  rintro e w2 ⟨A', ca', B', cb', rfl, hb2, hB2, hA2, hl2⟩
  go_wp2_with fail
  refine (fits_any (V.int 1) (V.int 1) A B A' B' ca cb ca' cb' w2 hb1 (hB1.bel hl2) (hA1.bel hl2) hb2 hB2 hA2 (int_ok 1) (int_ok 1) (int_no 1) (int_no 1) (int_wt 1) (int_wt 1)).mono ?_
  rintro e w3 ⟨r, rfl, hr, hl3⟩
  have hrt : r = true := hr.2 hfit.out
  subst hrt
  have hbw := hl1.trans ((hl2.trans (hl3.mono hl2.size)).mono hl1.size)
  clear hl1 hl2 hl3 hr
  go_wp2_with fail
  go_ret
  exact ⟨true, rfl, rfl, hbw⟩
end Go.Proofs.Ytpdcoipfpffhnaa
