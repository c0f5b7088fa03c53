/-
  tidies. Conditions: none.
-/
import Derived.Test.YtpdcoipfpffhnaaGreatTidy
namespace Go.Proofs.YtpdcoipfpffhnaaGreat
open Go.ChangeShapes Go.WideShapes Go.ChangeAt Go.RowKit
set_option linter.unusedVariables false
set_option linter.unusedSimpArgs false
attribute [local go_sem] store_float'

def V.obj1 (k : ByteArray) (v : V) : V := ⟨8, 0, 0, ⟨#[]⟩, [v], [k]⟩
theorem add_zero (a : Addr) : a.add 0 = a := rfl
theorem strs_one {W : World} {g : Nat} {t : TypeId} {k : ByteArray} (h : W.heap[g]? = some (.cells #[.string k] t (0, 0))) (hk : k.size ≤ 1000000) : Strs any W (some ⟨g, 0, none⟩) [k] := fun _ => by
  refine ⟨_, rfl, trivial, fun i s hi => ?_⟩
  have h0 : i = 0 := by have := (List.getElem?_eq_some_iff.1 hi).1; simp at this; omega
  subst h0
  obtain rfl : k = s := by simpa using hi
  exact ⟨by rw [add_zero]; simp [World.cell?, h], by omega⟩
theorem vals_one {W : World} {g : Nat} {v : V} {A B : Option Addr} {ca cb : Nat} (h : W.heap[g]? = some (valObj v A ca B cb)) (hb : Bds v ca cb) (hB : Strs any W B v.keys) (hA : Vals any W A v.l) : Vals any W (some ⟨g, 0, none⟩) [v] := fun _ => by
  refine ⟨_, rfl, trivial, fun i x hi => ?_⟩
  have h0 : i = 0 := by have := (List.getElem?_eq_some_iff.1 hi).1; simp at this; omega
  subst h0
  obtain rfl : v = x := by simpa using hi
  refine ⟨_, Rep.intro hb hB hA, fun j u hj => ?_⟩
  have hj6 : j < 6 := by have := (List.getElem?_eq_some_iff.1 hj).1; simpa using this
  have hadd : (⟨g, 0, none⟩ : Addr).add (0 * 6 + j) = ⟨g, j, none⟩ := by unfold Addr.add; split <;> simp_all
  rw [hadd]
  simp only [World.cell?, h, valObj]
  simpa using hj
theorem obj1_bds (k : ByteArray) (v : V) : Bds (V.obj1 k v) 1 1 :=
  ⟨by unfold I64; constructor <;> (show _ ≤ (_ : Int); simp [V.obj1]), by unfold I64; constructor <;> (show _ ≤ (_ : Int); simp [V.obj1]), by show (0 : Nat) < _; omega, by show (0 : Nat) ≤ _; omega, by simp [V.obj1], by simp, by simp [V.obj1], by simp, by simp [V.obj1], by simp [V.obj1]⟩
set_option maxHeartbeats 1000000 in
theorem object_any (k : ByteArray) (v : V) (A B : Option Addr) (ca cb : Nat) (w : World) (hb : Bds v ca cb) (hB : Strs any w B v.keys) (hA : Vals any w A v.l) (hk : k.size ≤ 1000000) :
    Calls Tryz.prog 17 #[.string k, .agg #[.int .i64 v.kind, .int .i64 v.n, .float .f64 v.f, .string v.s, .slice A v.l.length ca, .slice B v.keys.length cb]] w (RetV (V.obj1 k v) any w) := by
  go_enter Tryz.func17, Tryz.ntmps17
  go_wp2_with fail
  have hbel : Below w.heap.size w ((((w.alloc (valObj v A ca B cb)).alloc (.cells #[.int .i64 8, .int .i64 0, .float .f64 0, .string ⟨#[]⟩, .slice (some ⟨w.heap.size + 1 + 1 + 1, 0, none⟩) 1 1, .slice (some ⟨w.heap.size + 1 + 1, 0, none⟩) 1 1] 26)).alloc (.cells #[.string k] 9)).alloc (valObj v A ca B cb)) := ((((Below.refl _ _).alloc (Nat.le_refl _) _).alloc (by simp) _).alloc (by simp; omega) _).alloc (by simp; omega) _
  have hk1 : ((((w.alloc (valObj v A ca B cb)).alloc (.cells #[.int .i64 8, .int .i64 0, .float .f64 0, .string ⟨#[]⟩, .slice (some ⟨w.heap.size + 1 + 1 + 1, 0, none⟩) 1 1, .slice (some ⟨w.heap.size + 1 + 1, 0, none⟩) 1 1] 26)).alloc (.cells #[.string k] 9)).alloc (valObj v A ca B cb)).heap[w.heap.size + 1 + 1]? = some (.cells #[.string k] 9 (0, 0)) := by
    rw [Below.heap_alloc _ _ _ (by simp)]
    have := heap_alloc_new ((w.alloc (valObj v A ca B cb)).alloc (.cells #[.int .i64 8, .int .i64 0, .float .f64 0, .string ⟨#[]⟩, .slice (some ⟨w.heap.size + 1 + 1 + 1, 0, none⟩) 1 1, .slice (some ⟨w.heap.size + 1 + 1, 0, none⟩) 1 1] 26)) (.cells #[.string k] 9)
    rwa [alloc_size, alloc_size] at this
  have hv1 := heap_alloc_new (((w.alloc (valObj v A ca B cb)).alloc (.cells #[.int .i64 8, .int .i64 0, .float .f64 0, .string ⟨#[]⟩, .slice (some ⟨w.heap.size + 1 + 1 + 1, 0, none⟩) 1 1, .slice (some ⟨w.heap.size + 1 + 1, 0, none⟩) 1 1] 26)).alloc (.cells #[.string k] 9)) (valObj v A ca B cb)
  rw [alloc_size, alloc_size, alloc_size] at hv1
  exact bodyPost_ret (v := .agg #[.int .i64 8, .int .i64 0, .float .f64 0, .string ⟨#[]⟩, .slice (some ⟨w.heap.size + 1 + 1 + 1, 0, none⟩) 1 1, .slice (some ⟨w.heap.size + 1 + 1, 0, none⟩) 1 1]) (by simp [results, Tryz.results17, go_sem]) rfl
    ⟨_, 1, _, 1, rfl, obj1_bds k v, strs_one hk1 hk, vals_one hv1 hb (hB.bel hbel) (hA.bel hbel), hbel⟩
theorem obj1_ok {k : ByteArray} {x : V} (h : x.Ok) : (V.obj1 k x).Ok := .obj _ rfl rfl (by simp [V.obj1]) (fun y hy => by
  have : y = x := by simpa [V.obj1] using hy
  rw [this]; exact h)
theorem obj1_wt (k : ByteArray) (x : V) : (V.obj1 k x).wt = 2 + k.size + x.wt := by
  rw [V.wt_eq]
  show 1 + 0 + 1 + sumS [k] + V.wts [x] = _
  simp [sumS, V.wts]

def kA : ByteArray := ⟨#[97]⟩
def kB : ByteArray := ⟨#[98]⟩
def v0 : V := ⟨8, 0, 0, ⟨#[]⟩, [V.null, V.int 1], [kA, kB]⟩
theorem v0_ok : v0.Ok := .obj _ rfl rfl (by simp [v0, kA, kB]) (fun x hx => by
  have : x = V.null ∨ x = V.int 1 := by simpa [v0] using hx
  rcases this with rfl | rfl
  · exact V.Ok.of_null
  · exact int_ok 1)
theorem v0_tidy : v0.tidy true false = V.obj1 kB (V.int 1) := by
  simp [v0, V.tidy, V.tidyL, V.tidyK, V.tidyA, V.drop, V.null, V.int, V.obj1]
theorem v0_wt : v0.wt ≤ 1000 := by
  rw [V.wt_eq]
  have h1 : V.null.wt = 1 := by rw [V.wt_eq]; rfl
  have h2 : (V.int 1).wt = 1 := by rw [V.wt_eq]; rfl
  show 1 + 0 + 2 + sumS [kA, kB] + V.wts [V.null, V.int 1] ≤ _
  have h3 : sumS [kA, kB] = 2 := rfl
  simp only [V.wts, h1, h2, h3]
  omega
theorem v0_bds : Bds v0 2 2 :=
  ⟨by unfold I64; constructor <;> (show _ ≤ (_ : Int); simp [v0]), by unfold I64; constructor <;> (show _ ≤ (_ : Int); simp [v0]), by show (0 : Nat) < _; omega, by show (0 : Nat) ≤ _; omega, by simp [v0], by simp, by simp [v0], by simp, by simp [v0], by simp [v0]⟩

set_option maxHeartbeats 2000000 in
theorem tidies_any (w : World) : Calls Tryz.prog 6 #[] w (SomeBool (fun r => r = true) w) := by
  have g1 : Hid (I64 1) := by unfold Hid I64; omega
  go_enter Tryz.func6, Tryz.ntmps6
  go_wp2_with fail
  refine (null_any any _).mono ?_
  rintro e w1 ⟨A1, c1, B1, d1, rfl, hbd1, hB1, hA1, hb1⟩
  go_wp2_with fail
  refine (integer_any any 1 g1.out w1).mono ?_
  rintro e w2 ⟨A2, c2, B2, d2, rfl, hbd2, hB2, hA2, hb2⟩
  go_wp2_with fail
  have hk0 : Below w.heap.size w (w.alloc (.cells #[.string ⟨#[97]⟩, .string ⟨#[98]⟩] 9)) := below_alloc _ _
  have hl1 : Below (w.heap.size + 1) (w.alloc (.cells #[.string ⟨#[97]⟩, .string ⟨#[98]⟩] 9)) w1 := by rw [alloc_size] at hb1; exact hb1
  have hl2 : Below (w.heap.size + 1) (w.alloc (.cells #[.string ⟨#[97]⟩, .string ⟨#[98]⟩] 9)) w2 := hl1.trans (hb2.mono (by have := hl1.size; rw [alloc_size] at this; exact this))
  obtain ⟨W3, hW3⟩ : ∃ W, W = w2.alloc (.cells #[.int .i64 V.null.kind, .int .i64 V.null.n, .float .f64 V.null.f, .string V.null.s, .slice A1 V.null.l.length c1, .slice B1 V.null.keys.length d1, .int .i64 (V.int 1).kind, .int .i64 (V.int 1).n, .float .f64 (V.int 1).f, .string (V.int 1).s, .slice A2 (V.int 1).l.length c2, .slice B2 (V.int 1).keys.length d2] 26) := ⟨_, rfl⟩
  rw [← hW3]
  have hl3 : Below (w.heap.size + 1) (w.alloc (.cells #[.string ⟨#[97]⟩, .string ⟨#[98]⟩] 9)) W3 := by
    rw [hW3]
    exact hl2.alloc (by have := hl2.size; rw [alloc_size] at this; exact this) _
  have hbw3 : Below w.heap.size w W3 := hk0.trans (hl3.mono (by omega))
  have hkb : W3.heap[w.heap.size]? = some (.cells #[.string ⟨#[97]⟩, .string ⟨#[98]⟩] 9 (0, 0)) := (hl3.block w.heap.size (by omega)).trans (heap_alloc_new w _)
  have hB : Strs any W3 (some ⟨w.heap.size, 0, none⟩) v0.keys := fun _ => ⟨_, rfl, trivial, fun i s hi => by
    rw [add_none]
    have hi2 : ([kA, kB] : List ByteArray)[i]? = some s := hi
    match i, hi2 with
    | 0, hi2 =>
      have : kA = s := by simpa using hi2
      rw [← this]
      exact ⟨by simp only [World.cell?, hkb]; rfl, by show (1 : Nat) ≤ _; omega⟩
    | 1, hi2 =>
      have : kB = s := by simpa using hi2
      rw [← this]
      exact ⟨by simp only [World.cell?, hkb]; rfl, by show (1 : Nat) ≤ _; omega⟩
    | i + 2, hi2 => simp at hi2⟩
  have hvb : W3.heap[w2.heap.size]? = some (.cells #[.int .i64 V.null.kind, .int .i64 V.null.n, .float .f64 V.null.f, .string V.null.s, .slice A1 V.null.l.length c1, .slice B1 V.null.keys.length d1, .int .i64 (V.int 1).kind, .int .i64 (V.int 1).n, .float .f64 (V.int 1).f, .string (V.int 1).s, .slice A2 (V.int 1).l.length c2, .slice B2 (V.int 1).keys.length d2] 26 (0, 0)) := by
    rw [hW3]
    exact heap_alloc_new w2 _
  have hA : Vals any W3 (some ⟨w2.heap.size, 0, none⟩) v0.l := fun _ => ⟨_, rfl, trivial, fun i x hi => by
    have hi2 : ([V.null, V.int 1] : List V)[i]? = some x := hi
    match i, hi2 with
    | 0, hi2 =>
      have : V.null = x := by simpa using hi2
      subst this
      refine ⟨_, Rep.intro (A := A1) (B := B1) hbd1 (fun h => absurd rfl h) (fun h => absurd rfl h), fun j u hj => ?_⟩
      have hj6 : j < 6 := by have := (List.getElem?_eq_some_iff.1 hj).1; simpa using this
      rw [add_none]
      simp only [World.cell?, hvb]
      match j, hj6, hj with
      | 0, _, hj => exact hj
      | 1, _, hj => exact hj
      | 2, _, hj => exact hj
      | 3, _, hj => exact hj
      | 4, _, hj => exact hj
      | 5, _, hj => exact hj
    | 1, hi2 =>
      have : V.int 1 = x := by simpa using hi2
      subst this
      refine ⟨_, Rep.intro (A := A2) (B := B2) hbd2 (fun h => absurd rfl h) (fun h => absurd rfl h), fun j u hj => ?_⟩
      have hj6 : j < 6 := by have := (List.getElem?_eq_some_iff.1 hj).1; simpa using this
      rw [add_none]
      simp only [World.cell?, hvb]
      match j, hj6, hj with
      | 0, _, hj => exact hj
      | 1, _, hj => exact hj
      | 2, _, hj => exact hj
      | 3, _, hj => exact hj
      | 4, _, hj => exact hj
      | 5, _, hj => exact hj
    | i + 2, hi2 => simp at hi2⟩
  have hti : Calls Tryz.prog 7 #[.agg #[.int .i64 8, .int .i64 0, .float .f64 0, .string ⟨#[]⟩, .slice (some ⟨w2.heap.size, 0, none⟩) 2 2, .slice (some ⟨w.heap.size, 0, none⟩) 2 2], .bool true, .bool false, .bool false] W3 (TidyPost (v0.tidy true false) W3) := tidy_any true false false v0 v0_ok (by have := v0_wt; omega) (some ⟨w2.heap.size, 0, none⟩) (some ⟨w.heap.size, 0, none⟩) 2 2 W3 v0_bds hB hA
  rw [v0_tidy] at hti
  have htiH := Lib.hid hti
  clear hti hA hB hvb hkb hl1 hl2 hl3 hW3 hk0 hb1 hb2 hB1 hA1 hB2 hA2 hbd1 hbd2
  refine htiH.out.mono ?_
  rintro e w4 ⟨v2, A4, c4, B4, d4, rfl, hbd4, hB4, hA4, hb4, heq⟩
  have hbw4 := hbw3.trans (hb4.mono hbw3.size)
  have hb5 : Below w4.heap.size w4 (w4.alloc (valObj v2 A4 c4 B4 d4)) := below_alloc _ _
  have hbw5 := hbw4.trans (hb5.mono hbw4.size)
  have hxb := cells_new w4 #[.int .i64 v2.kind, .int .i64 v2.n, .float .f64 v2.f, .string v2.s, .slice A4 v2.l.length c4, .slice B4 v2.keys.length d4] 26
  have hB5 := Lib.hid (hB4.bel hb5)
  have hA5 := Lib.hid (hA4.bel hb5)
  have heqH := Lib.hid heq
  have hbdH := Lib.hid hbd4
  have hwt : Hid ((V.obj1 kB (V.int 1)).wt ≤ 1000000) := by
    rw [← v0_tidy]
    exact Nat.le_trans (tidy_wt true false v0) (Nat.le_trans v0_wt (by omega))
  have x0 : (w4.alloc (valObj v2 A4 c4 B4 d4)).cell? ⟨w4.heap.size, 0, none⟩ = some (.int .i64 v2.kind) := hxb 0
  have x1 : (w4.alloc (valObj v2 A4 c4 B4 d4)).cell? ⟨w4.heap.size, 1, none⟩ = some (.int .i64 v2.n) := hxb 1
  have x2 : (w4.alloc (valObj v2 A4 c4 B4 d4)).cell? ⟨w4.heap.size, 2, none⟩ = some (.float .f64 v2.f) := hxb 2
  have x3 : (w4.alloc (valObj v2 A4 c4 B4 d4)).cell? ⟨w4.heap.size, 3, none⟩ = some (.string v2.s) := hxb 3
  have x4 : (w4.alloc (valObj v2 A4 c4 B4 d4)).cell? ⟨w4.heap.size, 4, none⟩ = some (.slice A4 v2.l.length c4) := hxb 4
  have x5 : (w4.alloc (valObj v2 A4 c4 B4 d4)).cell? ⟨w4.heap.size, 5, none⟩ = some (.slice B4 v2.keys.length d4) := hxb 5
  have hlt5 : w4.heap.size < (w4.alloc (valObj v2 A4 c4 B4 d4)).heap.size := by rw [alloc_size]; exact Nat.lt_succ_self _
  have hW5 : Hid ((w4.alloc (valObj v2 A4 c4 B4 d4)).heap.size = w4.heap.size + 1) := alloc_size _ _
  clear hxb hb4 hb5 hB4 hA4 heq hbd4 hbw4 hbw3
  go_wp2_with fail
  have hS0 : Hid ((fun W : World => W.cell? ⟨w4.heap.size, 0, none⟩ = some (.int .i64 v2.kind) ∧ W.cell? ⟨w4.heap.size, 1, none⟩ = some (.int .i64 v2.n) ∧ W.cell? ⟨w4.heap.size, 2, none⟩ = some (.float .f64 v2.f) ∧ W.cell? ⟨w4.heap.size, 3, none⟩ = some (.string v2.s) ∧ W.cell? ⟨w4.heap.size, 4, none⟩ = some (.slice A4 v2.l.length c4) ∧ W.cell? ⟨w4.heap.size, 5, none⟩ = some (.slice B4 v2.keys.length d4)) (w4.alloc (valObj v2 A4 c4 B4 d4))) := ⟨x0, x1, x2, x3, x4, x5⟩
  have hS1 : Hid (∀ w', Below (w4.alloc (valObj v2 A4 c4 B4 d4)).heap.size (w4.alloc (valObj v2 A4 c4 B4 d4)) w' → (fun W : World => W.cell? ⟨w4.heap.size, 0, none⟩ = some (.int .i64 v2.kind) ∧ W.cell? ⟨w4.heap.size, 1, none⟩ = some (.int .i64 v2.n) ∧ W.cell? ⟨w4.heap.size, 2, none⟩ = some (.float .f64 v2.f) ∧ W.cell? ⟨w4.heap.size, 3, none⟩ = some (.string v2.s) ∧ W.cell? ⟨w4.heap.size, 4, none⟩ = some (.slice A4 v2.l.length c4) ∧ W.cell? ⟨w4.heap.size, 5, none⟩ = some (.slice B4 v2.keys.length d4)) w') := fun w' hb => ⟨(hb.cell (p := ⟨w4.heap.size, 0, none⟩) hlt5).trans x0, (hb.cell (p := ⟨w4.heap.size, 1, none⟩) hlt5).trans x1, (hb.cell (p := ⟨w4.heap.size, 2, none⟩) hlt5).trans x2, (hb.cell (p := ⟨w4.heap.size, 3, none⟩) hlt5).trans x3, (hb.cell (p := ⟨w4.heap.size, 4, none⟩) hlt5).trans x4, (hb.cell (p := ⟨w4.heap.size, 5, none⟩) hlt5).trans x5⟩
  have hB6 : Hid (∀ w', Below (w4.alloc (valObj v2 A4 c4 B4 d4)).heap.size (w4.alloc (valObj v2 A4 c4 B4 d4)) w' → Strs any w' B4 v2.keys) := fun w' hb => hB5.out.bel hb
  have hA6 : Hid (∀ w', Below (w4.alloc (valObj v2 A4 c4 B4 d4)).heap.size (w4.alloc (valObj v2 A4 c4 B4 d4)) w' → Vals any w' A4 v2.l) := fun w' hb => hA5.out.bel hb
  clear hB5 hA5 hlt5 hW5 x0 x1 x2 x3 x4 x5
  go_region_held3 (fun W : World => W.cell? ⟨w4.heap.size, 0, none⟩ = some (.int .i64 v2.kind) ∧ W.cell? ⟨w4.heap.size, 1, none⟩ = some (.int .i64 v2.n) ∧ W.cell? ⟨w4.heap.size, 2, none⟩ = some (.float .f64 v2.f) ∧ W.cell? ⟨w4.heap.size, 3, none⟩ = some (.string v2.s) ∧ W.cell? ⟨w4.heap.size, 4, none⟩ = some (.slice A4 v2.l.length c4) ∧ W.cell? ⟨w4.heap.size, 5, none⟩ = some (.slice B4 v2.keys.length d4)) (first | exact hS0.out | exact hS2.out | exact hS3.out | exact hS4.out | go_keep)
    (first
    | (go_at_call 16; refine (integer_any any 1 g1.out (w4.alloc (valObj v2 A4 c4 B4 d4)).drew).mono ?_; rintro e w6 ⟨A6, c6, B6, d6, rfl, hbd6, hBs6, hAs6, hb6⟩; have hb6' := below_undrew hb6; have hS2 := Lib.hid (hS1.out w6 hb6'))
    | (go_at_call 17; refine (object_any kB (V.int 1) A6 B6 c6 d6 w6 hbd6 hBs6 hAs6 (by show (1 : Nat) ≤ _; omega)).mono ?_; rintro e w7 ⟨A7, c7, B7, d7, rfl, hbd7, hBs7, hAs7, hb7⟩; have hb7' := hb6'.trans (hb7.mono hb6'.size); have hS3 := Lib.hid (hS1.out w7 hb7'))
    | (go_at_call 8; refine (alike_any (V.obj1 kB (V.int 1)) hwt.out v2 heqH.out _ _ _ _ _ _ _ _ _ hbdH.out (hB6.out w7 hb7') (hA6.out w7 hb7') hbd7 hBs7 hAs7).mono ?_; rintro e w8 ⟨r, rfl, hr, hb8⟩; have hb8' := hb7'.trans (hb8.mono hb7'.size); have hS4 := Lib.hid (hS1.out w8 hb8')))
  have hrt : r = true := by first | exact hr.2 trivial | simpa using hr
  subst hrt
  have hbw8 := hbw5.trans (hb8'.mono hbw5.size)
  clear hS0 hS1 hS2 hS3 hS4 hr hb6 hb7 hb8 hb6' hb7' hb8' hB6 hA6
  go_wp2_with fail
  go_ret
  exact ⟨true, rfl, rfl, hbw8⟩
end Go.Proofs.YtpdcoipfpffhnaaGreat
