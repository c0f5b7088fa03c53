/-
  Small functions of strconv and math/bits return: Len64, prescale, uscale, pack64, parseFloat64, special. Conditions: none.
-/
import Derived.Test.YthagnngckegekaaGreatDoorRnd
import Derived.Test.YthagnngckegekaaGreatDoorShelf
import Derived.Test.YthagnngckegekaaGreatDoorFlt
import Derived.Laws.Bits64b
namespace Go.Proofs.YthagnngckegekaaGreatDoor
open Go.ChangeShapes Go.WideShapes Go.ChangeAt Go.RowKit
set_option linter.unusedVariables false
set_option linter.unusedSimpArgs false

theorem run_from89 (f : Int) (w : World) : (callFunc 89 #[.int .u64 f]).run Tryz.prog w = .ok (.value (.float .f64 f.toNat)) w := by
  rw [run_callFunc_extern (fn := Tryz.f89) (e := Extern.MathFloatBits.float64frombits) Tryz.func89 (by decide +kernel) (by rfl) (by kernel_rfl) (by kernel_rfl)]
  rfl

def AFloat (w : World) (e : Ending) (w' : World) : Prop := w = w' ∧ ∃ f : Nat, e = .returned (.float .f64 f)
theorem inf_at (z : Int) (w : World) : Calls Tryz.prog 95 #[.int .i64 z] w (AFloat w) := by
  have hr := run_from89
  by_cases hz : (0 : Int) ≤ z
  · go_enter Tryz.func95, Tryz.ntmps95
    go_wp2_with fail
    go_ret
    exact ⟨rfl, _, rfl⟩
  · go_enter Tryz.func95, Tryz.ntmps95
    go_wp2_with fail
    go_ret
    exact ⟨rfl, _, rfl⟩
theorem nan_at (w : World) : Calls Tryz.prog 96 #[] w (AFloat w) := by
  have hr := run_from89
  go_enter Tryz.func96, Tryz.ntmps96
  go_wp2_with fail
  go_ret
  exact ⟨rfl, _, rfl⟩
def b2v (b : Bool) : Int := if b then 1 else 0
theorem b2v_range (b : Bool) : 0 ≤ b2v b ∧ b2v b ≤ 1 := by cases b <;> simp [b2v]
theorem bool2_u64 (b : Bool) (w : World) : Calls Tryz.prog 88 #[.bool b] w (fun e w' => e = .returned (.int .u64 (b2v b)) ∧ w' = w) := by
  cases b with
  | true =>
    go_enter Tryz.func88, Tryz.ntmps88
    go_wp2_with fail
    go_ret
    exact ⟨rfl, rfl⟩
  | false =>
    go_enter Tryz.func88, Tryz.ntmps88
    go_wp2_with fail
    go_ret
    exact ⟨rfl, rfl⟩
theorem bool2_int (b : Bool) (w : World) : Calls Tryz.prog 100 #[.bool b] w (fun e w' => e = .returned (.int .i64 (b2v b)) ∧ w' = w) := by
  cases b with
  | true =>
    go_enter Tryz.func100, Tryz.ntmps100
    go_wp2_with fail
    go_ret
    exact ⟨rfl, rfl⟩
  | false =>
    go_enter Tryz.func100, Tryz.ntmps100
    go_wp2_with fail
    go_ret
    exact ⟨rfl, rfl⟩
theorem log2_at {z : Int} (hz : -400 ≤ z ∧ z ≤ 400) (w : World) : Calls Tryz.prog 97 #[.int .i64 z] w (fun e w' => w = w' ∧ ∃ r : Int, e = .returned (.int .i64 r) ∧ -2000 ≤ r ∧ r ≤ 2000) := by
  have h1 : -43541200 ≤ z * 108853 := by omega
  have h2 : z * 108853 ≤ 43541200 := by omega
  go_enter Tryz.func97, Tryz.ntmps97
  go_wp2_with fail
  go_ret
  exact ⟨rfl, _, rfl, by omega, by omega⟩
theorem unmin_at (z : Int) (w : World) : Calls Tryz.prog 101 #[.int .u64 z] w (fun e w' => w = w' ∧ ∃ r : Int, e = .returned (.int .u64 r)) := by
  go_enter Tryz.func101, Tryz.ntmps101
  go_wp2_with fail
  go_ret
  exact ⟨rfl, _, rfl⟩
theorem round_at (z : Int) (w : World) : Calls Tryz.prog 103 #[.int .u64 z] w (fun e w' => w = w' ∧ ∃ r : Int, e = .returned (.int .u64 r)) := by
  go_enter Tryz.func103, Tryz.ntmps103
  go_wp2_with fail
  go_ret
  exact ⟨rfl, _, rfl⟩

/-- An error of strconv's own, or none. -/
def ErrV (v : Value) : Prop := v = .nilIface ∨ v = .iface 75 (.int .i64 1) ∨ v = .iface 75 (.int .i64 2)

theorem and63 (z : Int) : 0 ≤ bits .and .i64 z 63 ∧ bits .and .i64 z 63 ≤ 63 := by
  have h : (BitVec.ofInt 64 z &&& BitVec.ofInt 64 63).toNat ≤ 63 := by
    rw [BitVec.toNat_and]
    exact Nat.le_trans Nat.and_le_right (by decide)
  have e : bits .and .i64 z 63 = IntKind.i64.wrap ((BitVec.ofInt 64 z &&& BitVec.ofInt 64 63).toNat : Int) := rfl
  rw [e, IntKind.wrap_i64]
  omega
end Go.Proofs.YthagnngckegekaaGreatDoor

namespace Go.Proofs.YthagnngckegekaaGreatDoor
open Go.ChangeShapes Go.WideShapes Go.ChangeAt Go.RowKit
set_option linter.unusedVariables false
set_option linter.unusedSimpArgs false

theorem all8 {tab : ByteArray} (h : (tab.data.toList.all fun b => decide (b.toNat ≤ 8)) = true) {k : Nat} (hk : k < tab.size) : (tab[k]'hk).toNat ≤ 8 := by
  have := List.all_eq_true.1 h (tab[k]'hk) (get_mem (L_get hk))
  simpa using this
theorem len_key {n : Int} {t : Nat} (h0 : 0 ≤ n) (h1 : n ≤ 56) (h : t ≤ 8) : 0 ≤ wrap64 (n + wrap64 (t : Int)) ∧ wrap64 (n + wrap64 (t : Int)) ≤ 64 := by
  simp only [wrap64]
  omega
theorem len_key0 {t : Nat} (h : t ≤ 8) : 0 ≤ wrap64 (wrap64 (t : Int)) ∧ wrap64 (wrap64 (t : Int)) ≤ 64 := by
  simp only [wrap64]
  omega
def LenTo (x : Nat) (w : World) (e : Ending) (w' : World) : Prop := w = w' ∧ ∃ r : Int, e = .returned (.int .i64 r) ∧ 0 ≤ r ∧ r ≤ 64
set_option maxRecDepth 4000 in
set_option maxHeartbeats 4000000 in
theorem len64_at {x : Nat} (hx : x < 18446744073709551616) (w : World) : Calls Tryz.prog 64 #[.int .u64 x] w (LenTo x w) := by
  clear hx
  go_enter Tryz.func64, Tryz.ntmps64
  repeat ((fail_if_success (refine wp_cond_split rfl (fun _ => ?_) (fun _ => ?_))); (fail_if_success (refine wp_seq (x := Code.region 10 _ _) ?_)); (first | go_values | go_skip | go_guarded | go_step | go_upon))
  refine wp_cond_split rfl (fun _ => ?_) (fun _ => ?_)
  all_goals
    repeat ((fail_if_success (refine wp_cond_split rfl (fun _ => ?_) (fun _ => ?_))); (fail_if_success (refine wp_seq (x := Code.region 10 _ _) ?_)); (first | go_values | go_skip | go_guarded | go_step | go_upon))
    refine wp_cond_split rfl (fun _ => ?_) (fun _ => ?_)
    all_goals
      repeat ((fail_if_success (refine wp_cond_split rfl (fun _ => ?_) (fun _ => ?_))); (fail_if_success (refine wp_seq (x := Code.region 10 _ _) ?_)); (first | go_values | go_skip | go_guarded | go_step | go_upon))
      refine wp_cond_split rfl (fun _ => ?_) (fun _ => ?_)
      all_goals
        repeat ((fail_if_success (refine wp_cond_split rfl (fun _ => ?_) (fun _ => ?_))); (fail_if_success (refine wp_seq (x := Code.region 10 _ _) ?_)); (first | go_values | go_skip | go_guarded | go_step | go_upon))
        iterate 12 (first | go_values | go_skip | go_guarded | go_step | go_upon)
        generalize hT : ByteArray.mk _ = tab
        have hsz : tab.size = 256 := by rw [← hT]; kernel_rfl
        have h8 : (tab.data.toList.all fun b => decide (b.toNat ≤ 8)) = true := by rw [← hT]; kernel_rfl
        have h8H := Lib.hid h8
        clear hT h8
        go_wp2_with fail
        go_ret
        first
        | exact ⟨rfl, _, rfl, (len_key (by decide) (by decide) (all8 h8H.out _)).1, (len_key (by decide) (by decide) (all8 h8H.out _)).2⟩
        | exact ⟨rfl, _, rfl, (len_key0 (all8 h8H.out _)).1, (len_key0 (all8 h8H.out _)).2⟩
end Go.Proofs.YthagnngckegekaaGreatDoor

namespace Go.Proofs.YthagnngckegekaaGreatDoor
open Go.ChangeShapes Go.WideShapes Go.ChangeAt Go.RowKit Go.Joins
set_option linter.unusedVariables false
set_option linter.unusedSimpArgs false

/-- The table of powers of ten lies in memory. -/
def TenTab (w : World) : Prop := ∀ i, i < 1392 → ∃ x : Nat, x < 18446744073709551616 ∧ w.cell? ⟨9, i, none⟩ = some (.int .u64 (x : Int))
theorem TenTab.bel {W w : World} (h : TenTab W) (hb : Below W.heap.size W w) : TenTab w := fun i hi => by
  obtain ⟨x, h1, h2⟩ := h i hi
  exact ⟨x, h1, cell_later hb h2⟩
theorem TenTab.lt {W : World} (h : TenTab W) : 9 < W.heap.size := by
  obtain ⟨x, h1, h2⟩ := h 0 (by decide)
  exact World.block_lt_of_cell? _ _ h2

/-- A scaler in block g. -/
def Scl (w : World) (g : Nat) (a b : Nat) (s : Int) : Prop := w.heap[g]? = some (.cells #[.int .u64 a, .int .u64 b, .int .i64 s] 147 (0, 0)) ∧ a < 18446744073709551616 ∧ b < 18446744073709551616

def Prescaled (g : Nat) (w : World) (e : Ending) (w' : World) : Prop := e = .returned (.tuple #[]) ∧ Only g w w' ∧ ∃ (a b : Nat) (s : Int), Scl w' g a b s ∧ -100000 ≤ s ∧ s ≤ 100000
set_option maxRecDepth 4000 in
set_option maxHeartbeats 4000000 in
theorem prescale_at {w : World} {g : Nat} {a0 b0 : Nat} {s0 e p lp : Int} (hs : Scl w g a0 b0 s0) (hT : TenTab w) (hg : g ≠ 9) (hp : -345 ≤ p ∧ p ≤ 310) (he : -10000 ≤ e ∧ e ≤ 10000) (hl : -2000 ≤ lp ∧ lp ≤ 2000) :
    Calls Tryz.prog 98 #[.pointer (some ⟨g, 0, none⟩), .int .i64 e, .int .i64 p, .int .i64 lp] w (Prescaled g w) := by
  obtain ⟨k, hk⟩ : ∃ k : Nat, p = (k : Int) - 348 := ⟨(p + 348).toNat, by omega⟩
  subst hk
  have hk1 : (k : Int) < 696 := by omega
  obtain ⟨x, hx, hcx⟩ := hT (k * 2) (by omega)
  obtain ⟨y, hy, hcy⟩ := hT (k * 2 + 1) (by omega)
  obtain ⟨hb, ha0, hb0⟩ := hs
  have c0 := cell_of_block hb 0
  have c1 := cell_of_block hb 1
  have c2 := cell_of_block hb 2
  simp at c0 c1 c2
  have f0 := unfrozen_of_block hb 0
  have f1 := unfrozen_of_block hb 1
  have f2 := unfrozen_of_block hb 2
  have hq : (k : Int) - 348 + 348 = (k : Int) := by omega
  have hbH := Lib.hid hb
  have hxH := Lib.hid (And.intro hx hy)
  clear hT hb hx hy ha0 hb0 hp
  go_enter Tryz.func98, Tryz.ntmps98
  go_wp2_with fail
  go_end0
  refine ⟨rfl, ((only_set _ _ _ _).trans (only_set _ _ _ _)).trans (only_set _ _ _ _), x, y, -(e + lp + 3), ⟨?_, hxH.out.1, hxH.out.2⟩, by omega, by omega⟩
  have e1 := block_setCell (i := 0) hbH.out (.int .u64 x)
  have e2 := block_setCell (i := 1) e1 (.int .u64 y)
  have e3 := block_setCell (i := 2) e2 (.int .i64 (-(e + lp + 3)))
  simpa using e3

def Scaled (w : World) (e : Ending) (w' : World) : Prop := (∃ n, w' = w.drewN n) ∧ ∃ r : Int, e = .returned (.int .u64 r)
set_option maxRecDepth 4000 in
set_option maxHeartbeats 4000000 in
theorem uscale_at {w : World} {g a b x : Nat} {s : Int} (hs : Scl w g a b s) (hx : x < 18446744073709551616) :
    Calls Tryz.prog 99 #[.int .u64 x, .pointer (some ⟨g, 0, none⟩)] w (Scaled w) := by
  obtain ⟨hb, ha, hb0⟩ := hs
  have c0 := cell_of_block hb 0
  have c1 := cell_of_block hb 1
  have c2 := cell_of_block hb 2
  simp at c0 c1 c2
  have m1 := Lib.hid (Tryz.bits_Mul64 x a hx ha w)
  have m2 := Lib.hid (Tryz.bits_Mul64 x b hx hb0 w)
  have h63 := and63 s
  obtain ⟨q, hq, hq2⟩ : ∃ q : Nat, bits .and .i64 s 63 = (q : Int) ∧ (q : Int) ≤ 63 := ⟨(bits .and .i64 s 63).toNat, by omega, by omega⟩
  have hb2 := Lib.hid (fun (b : Bool) (w : World) => bool2_u64 b w)
  clear h63 hb ha hb0 hx
  go_enter Tryz.func99, Tryz.ntmps99
  go_wp2_with fail
  refine m1.out.mono ?_
  rintro e w1 ⟨rfl, rfl⟩
  generalize ((x * a / 18446744073709551616 : Nat) : Int) = u1
  generalize ((x * a % 18446744073709551616 : Nat) : Int) = u2
  clear m1
  go_wp2_with fail
  · go_ret
    exact ⟨⟨0, rfl⟩, _, rfl⟩
  · refine m2.out.mono ?_
    rintro e w2 ⟨rfl, rfl⟩
    generalize ((x * b / 18446744073709551616 : Nat) : Int) = u3
    generalize ((x * b % 18446744073709551616 : Nat) : Int) = u4
    clear m2
    go_wp2_with fail
    refine (bool2_u64 _ _).mono ?_
    rintro e w3 ⟨rfl, rfl⟩
    go_wp2_with fail
    go_quiet ((go_at_call 88; exact Calls.quiet_of_same (bool2_u64 _ _)))
    go_wp2_with fail
    go_ret
    exact ⟨⟨_, rfl⟩, _, rfl⟩

/-- A float and an error of strconv's own, or none. -/
def FErr (w : World) (e : Ending) (w' : World) : Prop := (∃ n, w' = w.drewN n) ∧ ∃ (f : Nat) (v : Value), ErrV v ∧ e = .returned (.tuple #[.float .f64 f, v])
set_option maxRecDepth 4000 in
set_option maxHeartbeats 4000000 in
theorem pack64_at {z e : Int} (w : World) (he : -100000 ≤ e ∧ e ≤ 100000) :
    Calls Tryz.prog 106 #[.int .u64 z, .int .i64 e] w (FErr w) := by
  have hr := run_from89
  go_enter Tryz.func106, Tryz.ntmps106
  go_wp2_with fail
  all_goals go_ret2
  all_goals first | exact ⟨⟨0, rfl⟩, _, _, Or.inl rfl, rfl⟩ | exact ⟨⟨0, rfl⟩, _, _, (by first | exact Or.inr (Or.inl rfl) | exact Or.inr (Or.inr rfl)), rfl⟩

set_option maxRecDepth 4000 in
set_option maxHeartbeats 4000000 in
theorem parse64_at {w : World} {d : Nat} {p sg : Int} (hd : d < 18446744073709551616) (hT : TenTab w) (hp : -345 ≤ p ∧ p ≤ 310) :
    Calls Tryz.prog 91 #[.int .u64 d, .int .i64 p, .int .u64 sg] w (fun e w' => Below w.heap.size w w' ∧ ∃ (f : Nat) (v : Value), ErrV v ∧ e = .returned (.tuple #[.float .f64 f, v])) := by
  have hr := run_from89
  have hlen := Lib.hid (len64_at hd w)
  have hTH := Lib.hid hT
  have hpH := Lib.hid hp
  have hdH := Lib.hid hd
  clear hd hT
  go_enter Tryz.func91, Tryz.ntmps91
  go_wp2_with fail
  refine hlen.out.mono ?_
  rintro e w1 ⟨rfl, b, rfl, hb0, hb1⟩
  clear hlen
  go_wp2_with fail
  refine (log2_at (by omega) w).mono ?_
  rintro e w1 ⟨rfl, lp, rfl, hl0, hl1⟩
  go_wp2_with fail
  have hba : Below w.heap.size w (w.alloc (.cells #[.int .u64 0, .int .u64 0, .int .i64 0] 147)) := (Below.refl _ _).alloc (Nat.le_refl _) _
  have hsc : Scl (w.alloc (.cells #[.int .u64 0, .int .u64 0, .int .i64 0] 147)) w.heap.size 0 0 0 := ⟨by
    show (w.heap.push _)[w.heap.size]? = some _
    exact Array.getElem?_push_size, by decide, by decide⟩
  refine (prescale_at hsc (hTH.out.bel hba) (by have := hTH.out.lt; omega) hpH.out (by omega) (by omega)).mono ?_
  rintro e w2 ⟨rfl, ho, A, B, s, hs, hs1, hs2⟩
  have hbw : Below w.heap.size w w2 := hba.trans (ho.below (Nat.le_refl _) (by simp))
  have hbH := Lib.hid hbw
  have hsH := Lib.hid hs
  have c2 := cell_of_block hs.1 2
  simp at c2
  clear hba hsc ho hs hbw hTH hpH
  by_cases hs64 : 64 ≤ s
  · go_wp2_with fail
    go_ret2
    exact ⟨hbH.out, _, _, Or.inl rfl, rfl⟩
  · obtain ⟨x, hx, hxl⟩ : ∃ x : Nat, IntKind.u64.wrap ((d : Int) * 2 ^ (64 - b).toNat) = (x : Int) ∧ x < 18446744073709551616 := by
      rw [IntKind.wrap_u64]
      exact ⟨((d : Int) * 2 ^ (64 - b).toNat % 18446744073709551616).toNat, by omega, by omega⟩
    have hxH := Lib.hid hxl
    obtain ⟨ex, hex⟩ : ∃ z : Int, min 1074 (53 - b - lp) = z := ⟨_, rfl⟩
    have hex1 : -3000 ≤ ex := by omega
    have hex2 : ex ≤ 1074 := by omega
    rw [hex]
    have hq1 : 0 ≤ 64 - b := by omega
    have hq2 : 64 - b ≤ 64 := by omega
    clear hxl hex
    go_wp2_with fail
    refine (uscale_at hsH.out hxH.out).mono ?_
    rintro e w3 ⟨⟨n3, rfl⟩, r, rfl⟩
    go_wp2_with fail
    refine (unmin_at _ _).mono ?_
    rintro e w4 ⟨rfl, r2, rfl⟩
    go_wp2_with fail
    refine (bool2_int _ _).mono ?_
    rintro e w4 ⟨rfl, rfl⟩
    have ht0 := b2v_range (decide (r2 ≤ r))
    generalize b2v (decide (r2 ≤ r)) = t at *
    have ht1 := ht0.1
    have ht2 := ht0.2
    clear ht0
    go_wp2_with fail
    refine (round_at _ _).mono ?_
    rintro e w4 ⟨rfl, r3, rfl⟩
    go_wp2_with fail
    refine (pack64_at _ (by omega)).mono ?_
    rintro e w4 ⟨⟨n4, rfl⟩, f, v, hv, rfl⟩
    go_wp2_with fail
    go_ret2
    exact ⟨below_drewN hbH.out _, f, v, hv, rfl⟩
end Go.Proofs.YthagnngckegekaaGreatDoor

namespace Go.Proofs.YthagnngckegekaaGreatDoor
open Go.ChangeShapes Go.WideShapes Go.ChangeAt Go.RowKit
set_option linter.unusedVariables false
set_option linter.unusedSimpArgs false

def OneInt (w : World) (e : Ending) (w' : World) : Prop := w = w' ∧ ∃ r : Int, e = .returned (.int .i64 r) ∧ 0 ≤ r ∧ r ≤ 1000
set_option maxRecDepth 4000 in
set_option maxHeartbeats 4000000 in
theorem common_any {w : World} {s t : ByteArray} (hs : s.size ≤ 1000) (ht : t.size ≤ 1000) :
    Calls Tryz.prog 94 #[.string s, .string t] w (OneInt w) := by
  obtain ⟨n, hn⟩ : ∃ n : Nat, min (t.size : Int) (s.size : Int) = (n : Int) := ⟨min t.size s.size, by omega⟩
  have hnt : n ≤ t.size := by omega
  have hns : n ≤ s.size := by omega
  have hn8 : (n : Int) ≤ 1000 := by omega
  have hntH := Lib.hid hnt
  have hnsH := Lib.hid hns
  clear hnt hns
  go_enter Tryz.func94, Tryz.ntmps94
  go_wp2_with fail
  go_loopw [4, 6, 7] (fun r4 i6 c7 wr => r4 = .int .i64 0 ∧ w = wr ∧ ∃ i : Nat, i6 = .int .i64 i ∧ i ≤ n) (fun _ i6 _ _ => n - (intOf i6).toNat)
  case atStart => exact ⟨rfl, rfl, 0, rfl, Nat.zero_le _⟩
  case round =>
    obtain ⟨rfl, rfl, i, rfl, hi⟩ := hrel
    have hi8 : (i : Int) ≤ 1000 := by omega
    by_cases hlt : i < n
    · have hls : i < s.size := by have := hnsH.out; omega
      have hlt2 : i < t.size := by have := hntH.out; omega
      by_cases u1 : (65 : Int) ≤ ((s[i]'hls).toNat : Int)
      · by_cases u2 : ((s[i]'hls).toNat : Int) ≤ 90
        · go_wp2_with fail
          all_goals first
          | (go_ret; exact ⟨rfl, _, rfl, by omega, by omega⟩)
          | exact ⟨⟨by trivial, by trivial, i + 1, by go_num, by omega⟩, by simp [intOf]; omega⟩
          | exact ⟨⟨i + 1, by go_num, by omega⟩, by simp [intOf]; omega⟩
        · go_wp2_with fail
          all_goals first
          | (go_ret; exact ⟨rfl, _, rfl, by omega, by omega⟩)
          | exact ⟨⟨by trivial, by trivial, i + 1, by go_num, by omega⟩, by simp [intOf]; omega⟩
          | exact ⟨⟨i + 1, by go_num, by omega⟩, by simp [intOf]; omega⟩
      · go_wp2_with fail
        all_goals first
        | (go_ret; exact ⟨rfl, _, rfl, by omega, by omega⟩)
        | exact ⟨⟨by trivial, by trivial, i + 1, by go_num, by omega⟩, by simp [intOf]; omega⟩
        | exact ⟨⟨i + 1, by go_num, by omega⟩, by simp [intOf]; omega⟩
    · go_wp2_with fail
      go_ret
      exact ⟨rfl, _, rfl, by omega, by omega⟩
def SpecOut (w : World) (e : Ending) (w' : World) : Prop := w = w' ∧ ∃ (f : Nat) (n : Int) (b : Bool), e = .returned (.tuple #[.float .f64 f, .int .i64 n, .bool b])
set_option maxRecDepth 8000 in
set_option maxHeartbeats 8000000 in
theorem special_at {w : World} {s : ByteArray} (hs0 : 0 < s.size) (hs : s.size ≤ 1000) :
    Calls Tryz.prog 79 #[.string s] w (SpecOut w) := by
  have he : ¬ s = ByteArray.empty := fun e => by rw [e] at hs0; exact absurd hs0 (by decide)
  have he0 : ((s.size : Int) == 0) = false := beq_eq_false_iff_ne.2 (by omega)
  have hs1 : (1 : Int) ≤ (s.size : Int) := by omega
  have hx : (s.extract 1 s.size).size ≤ 1000 := by simp; omega
  have hxH := Lib.hid hx
  clear hx
  go_enter Tryz.func79, Tryz.ntmps79
  rcases Bool.eq_false_or_eq_true (((s[0]'hs0).toNat : Int) == 43) with c43 | c43
  · have k45 : (((s[0]'hs0).toNat : Int) == 45) = false := by rw [beq_eq_false_iff_ne]; have := eq_of_beq c43; omega
    have k105 : (((s[0]'hs0).toNat : Int) == 105) = false := by rw [beq_eq_false_iff_ne]; have := eq_of_beq c43; omega
    have k73 : (((s[0]'hs0).toNat : Int) == 73) = false := by rw [beq_eq_false_iff_ne]; have := eq_of_beq c43; omega
    have k110 : (((s[0]'hs0).toNat : Int) == 110) = false := by rw [beq_eq_false_iff_ne]; have := eq_of_beq c43; omega
    have k78 : (((s[0]'hs0).toNat : Int) == 78) = false := by rw [beq_eq_false_iff_ne]; have := eq_of_beq c43; omega
    go_wp2_with fail
    refine (common_any hxH.out (by decide)).mono ?_
    rintro e w' ⟨rfl, r, rfl, hr0, hr1⟩
    by_cases d1 : (3 : Int) < r
    · by_cases d2 : r < (8 : Int)
      · go_wp2_with fail
        refine (inf_at _ _).mono ?_
        rintro e w' ⟨rfl, f, rfl⟩
        go_wp2_with fail
        go_ret3
        exact ⟨rfl, _, _, _, rfl⟩
      · rcases Bool.eq_false_or_eq_true (r == 8) with d3 | d3
        · obtain rfl := eq_of_beq d3
          clear d1 d2 d3
          go_wp2_with fail
          refine (inf_at _ _).mono ?_
          rintro e w' ⟨rfl, f, rfl⟩
          go_wp2_with fail
          go_ret3
          exact ⟨rfl, _, _, _, rfl⟩
        · have d4 : (r == 3) = false := beq_eq_false_iff_ne.2 (by omega)
          go_wp2_with fail
          go_ret3
          exact ⟨rfl, _, _, _, rfl⟩
    · rcases Bool.eq_false_or_eq_true (r == 3) with d3 | d3
      · obtain rfl := eq_of_beq d3
        clear d1 d3
        go_wp2_with fail
        refine (inf_at _ _).mono ?_
        rintro e w' ⟨rfl, f, rfl⟩
        go_wp2_with fail
        go_ret3
        exact ⟨rfl, _, _, _, rfl⟩
      · have d4 : (r == 8) = false := beq_eq_false_iff_ne.2 (by omega)
        go_wp2_with fail
        go_ret3
        exact ⟨rfl, _, _, _, rfl⟩
  rcases Bool.eq_false_or_eq_true (((s[0]'hs0).toNat : Int) == 45) with c45 | c45
  · have k43 : (((s[0]'hs0).toNat : Int) == 43) = false := by rw [beq_eq_false_iff_ne]; have := eq_of_beq c45; omega
    have k105 : (((s[0]'hs0).toNat : Int) == 105) = false := by rw [beq_eq_false_iff_ne]; have := eq_of_beq c45; omega
    have k73 : (((s[0]'hs0).toNat : Int) == 73) = false := by rw [beq_eq_false_iff_ne]; have := eq_of_beq c45; omega
    have k110 : (((s[0]'hs0).toNat : Int) == 110) = false := by rw [beq_eq_false_iff_ne]; have := eq_of_beq c45; omega
    have k78 : (((s[0]'hs0).toNat : Int) == 78) = false := by rw [beq_eq_false_iff_ne]; have := eq_of_beq c45; omega
    go_wp2_with fail
    refine (common_any hxH.out (by decide)).mono ?_
    rintro e w' ⟨rfl, r, rfl, hr0, hr1⟩
    by_cases d1 : (3 : Int) < r
    · by_cases d2 : r < (8 : Int)
      · go_wp2_with fail
        refine (inf_at _ _).mono ?_
        rintro e w' ⟨rfl, f, rfl⟩
        go_wp2_with fail
        go_ret3
        exact ⟨rfl, _, _, _, rfl⟩
      · rcases Bool.eq_false_or_eq_true (r == 8) with d3 | d3
        · obtain rfl := eq_of_beq d3
          clear d1 d2 d3
          go_wp2_with fail
          refine (inf_at _ _).mono ?_
          rintro e w' ⟨rfl, f, rfl⟩
          go_wp2_with fail
          go_ret3
          exact ⟨rfl, _, _, _, rfl⟩
        · have d4 : (r == 3) = false := beq_eq_false_iff_ne.2 (by omega)
          go_wp2_with fail
          go_ret3
          exact ⟨rfl, _, _, _, rfl⟩
    · rcases Bool.eq_false_or_eq_true (r == 3) with d3 | d3
      · obtain rfl := eq_of_beq d3
        clear d1 d3
        go_wp2_with fail
        refine (inf_at _ _).mono ?_
        rintro e w' ⟨rfl, f, rfl⟩
        go_wp2_with fail
        go_ret3
        exact ⟨rfl, _, _, _, rfl⟩
      · have d4 : (r == 8) = false := beq_eq_false_iff_ne.2 (by omega)
        go_wp2_with fail
        go_ret3
        exact ⟨rfl, _, _, _, rfl⟩
  rcases Bool.eq_false_or_eq_true (((s[0]'hs0).toNat : Int) == 105) with c105 | c105
  · have k43 : (((s[0]'hs0).toNat : Int) == 43) = false := by rw [beq_eq_false_iff_ne]; have := eq_of_beq c105; omega
    have k45 : (((s[0]'hs0).toNat : Int) == 45) = false := by rw [beq_eq_false_iff_ne]; have := eq_of_beq c105; omega
    have k73 : (((s[0]'hs0).toNat : Int) == 73) = false := by rw [beq_eq_false_iff_ne]; have := eq_of_beq c105; omega
    have k110 : (((s[0]'hs0).toNat : Int) == 110) = false := by rw [beq_eq_false_iff_ne]; have := eq_of_beq c105; omega
    have k78 : (((s[0]'hs0).toNat : Int) == 78) = false := by rw [beq_eq_false_iff_ne]; have := eq_of_beq c105; omega
    go_wp2_with fail
    refine (common_any hs (by decide)).mono ?_
    rintro e w' ⟨rfl, r, rfl, hr0, hr1⟩
    by_cases d1 : (3 : Int) < r
    · by_cases d2 : r < (8 : Int)
      · go_wp2_with fail
        refine (inf_at _ _).mono ?_
        rintro e w' ⟨rfl, f, rfl⟩
        go_wp2_with fail
        go_ret3
        exact ⟨rfl, _, _, _, rfl⟩
      · rcases Bool.eq_false_or_eq_true (r == 8) with d3 | d3
        · obtain rfl := eq_of_beq d3
          clear d1 d2 d3
          go_wp2_with fail
          refine (inf_at _ _).mono ?_
          rintro e w' ⟨rfl, f, rfl⟩
          go_wp2_with fail
          go_ret3
          exact ⟨rfl, _, _, _, rfl⟩
        · have d4 : (r == 3) = false := beq_eq_false_iff_ne.2 (by omega)
          go_wp2_with fail
          go_ret3
          exact ⟨rfl, _, _, _, rfl⟩
    · rcases Bool.eq_false_or_eq_true (r == 3) with d3 | d3
      · obtain rfl := eq_of_beq d3
        clear d1 d3
        go_wp2_with fail
        refine (inf_at _ _).mono ?_
        rintro e w' ⟨rfl, f, rfl⟩
        go_wp2_with fail
        go_ret3
        exact ⟨rfl, _, _, _, rfl⟩
      · have d4 : (r == 8) = false := beq_eq_false_iff_ne.2 (by omega)
        go_wp2_with fail
        go_ret3
        exact ⟨rfl, _, _, _, rfl⟩
  rcases Bool.eq_false_or_eq_true (((s[0]'hs0).toNat : Int) == 73) with c73 | c73
  · have k43 : (((s[0]'hs0).toNat : Int) == 43) = false := by rw [beq_eq_false_iff_ne]; have := eq_of_beq c73; omega
    have k45 : (((s[0]'hs0).toNat : Int) == 45) = false := by rw [beq_eq_false_iff_ne]; have := eq_of_beq c73; omega
    have k105 : (((s[0]'hs0).toNat : Int) == 105) = false := by rw [beq_eq_false_iff_ne]; have := eq_of_beq c73; omega
    have k110 : (((s[0]'hs0).toNat : Int) == 110) = false := by rw [beq_eq_false_iff_ne]; have := eq_of_beq c73; omega
    have k78 : (((s[0]'hs0).toNat : Int) == 78) = false := by rw [beq_eq_false_iff_ne]; have := eq_of_beq c73; omega
    go_wp2_with fail
    refine (common_any hs (by decide)).mono ?_
    rintro e w' ⟨rfl, r, rfl, hr0, hr1⟩
    by_cases d1 : (3 : Int) < r
    · by_cases d2 : r < (8 : Int)
      · go_wp2_with fail
        refine (inf_at _ _).mono ?_
        rintro e w' ⟨rfl, f, rfl⟩
        go_wp2_with fail
        go_ret3
        exact ⟨rfl, _, _, _, rfl⟩
      · rcases Bool.eq_false_or_eq_true (r == 8) with d3 | d3
        · obtain rfl := eq_of_beq d3
          clear d1 d2 d3
          go_wp2_with fail
          refine (inf_at _ _).mono ?_
          rintro e w' ⟨rfl, f, rfl⟩
          go_wp2_with fail
          go_ret3
          exact ⟨rfl, _, _, _, rfl⟩
        · have d4 : (r == 3) = false := beq_eq_false_iff_ne.2 (by omega)
          go_wp2_with fail
          go_ret3
          exact ⟨rfl, _, _, _, rfl⟩
    · rcases Bool.eq_false_or_eq_true (r == 3) with d3 | d3
      · obtain rfl := eq_of_beq d3
        clear d1 d3
        go_wp2_with fail
        refine (inf_at _ _).mono ?_
        rintro e w' ⟨rfl, f, rfl⟩
        go_wp2_with fail
        go_ret3
        exact ⟨rfl, _, _, _, rfl⟩
      · have d4 : (r == 8) = false := beq_eq_false_iff_ne.2 (by omega)
        go_wp2_with fail
        go_ret3
        exact ⟨rfl, _, _, _, rfl⟩
  rcases Bool.eq_false_or_eq_true (((s[0]'hs0).toNat : Int) == 110) with c110 | c110
  · have k43 : (((s[0]'hs0).toNat : Int) == 43) = false := by rw [beq_eq_false_iff_ne]; have := eq_of_beq c110; omega
    have k45 : (((s[0]'hs0).toNat : Int) == 45) = false := by rw [beq_eq_false_iff_ne]; have := eq_of_beq c110; omega
    have k105 : (((s[0]'hs0).toNat : Int) == 105) = false := by rw [beq_eq_false_iff_ne]; have := eq_of_beq c110; omega
    have k73 : (((s[0]'hs0).toNat : Int) == 73) = false := by rw [beq_eq_false_iff_ne]; have := eq_of_beq c110; omega
    have k78 : (((s[0]'hs0).toNat : Int) == 78) = false := by rw [beq_eq_false_iff_ne]; have := eq_of_beq c110; omega
    go_wp2_with fail
    refine (common_any hs (by decide)).mono ?_
    rintro e w' ⟨rfl, r, rfl, hr0, hr1⟩
    rcases Bool.eq_false_or_eq_true (r == 3) with d3 | d3
    · go_wp2_with fail
      refine (nan_at _).mono ?_
      rintro e w' ⟨rfl, f, rfl⟩
      go_wp2_with fail
      go_ret3
      exact ⟨rfl, _, _, _, rfl⟩
    · go_wp2_with fail
      go_ret3
      exact ⟨rfl, _, _, _, rfl⟩
  rcases Bool.eq_false_or_eq_true (((s[0]'hs0).toNat : Int) == 78) with c78 | c78
  · have k43 : (((s[0]'hs0).toNat : Int) == 43) = false := by rw [beq_eq_false_iff_ne]; have := eq_of_beq c78; omega
    have k45 : (((s[0]'hs0).toNat : Int) == 45) = false := by rw [beq_eq_false_iff_ne]; have := eq_of_beq c78; omega
    have k105 : (((s[0]'hs0).toNat : Int) == 105) = false := by rw [beq_eq_false_iff_ne]; have := eq_of_beq c78; omega
    have k73 : (((s[0]'hs0).toNat : Int) == 73) = false := by rw [beq_eq_false_iff_ne]; have := eq_of_beq c78; omega
    have k110 : (((s[0]'hs0).toNat : Int) == 110) = false := by rw [beq_eq_false_iff_ne]; have := eq_of_beq c78; omega
    go_wp2_with fail
    refine (common_any hs (by decide)).mono ?_
    rintro e w' ⟨rfl, r, rfl, hr0, hr1⟩
    rcases Bool.eq_false_or_eq_true (r == 3) with d3 | d3
    · go_wp2_with fail
      refine (nan_at _).mono ?_
      rintro e w' ⟨rfl, f, rfl⟩
      go_wp2_with fail
      go_ret3
      exact ⟨rfl, _, _, _, rfl⟩
    · go_wp2_with fail
      go_ret3
      exact ⟨rfl, _, _, _, rfl⟩
  go_wp2_with fail
  go_ret3
  exact ⟨rfl, _, _, _, rfl⟩
end Go.Proofs.YthagnngckegekaaGreatDoor
