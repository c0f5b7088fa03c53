/-
  impl.FilterMatch, filters. Conditions: none.
-/
import Derived.Test.YtpdcoipfpffhnaaRoads
import Derived.Test.YtpdcoipfpffhnaaFitsIm
namespace Go.Proofs.Ytpdcoipfpffhnaa
open Go.ChangeShapes Go.WideShapes Go.ChangeAt Go.RowKit
set_option linter.unusedVariables false
attribute [local go_sem] tay_bool tam_bool tan_bool tay_int tam_int tan_int tay_int8 tam_int8 tan_int8 tay_int16 tam_int16 tan_int16 tay_int32 tam_int32 tan_int32 tay_int64 tam_int64 tan_int64 tay_uint tam_uint tan_uint tay_uint8 tam_uint8 tan_uint8 tay_uint16 tam_uint16 tan_uint16 tay_uint32 tam_uint32 tan_uint32 tay_uint64 tam_uint64 tan_uint64 tay_float32 tam_float32 tan_float32 tay_float64 tam_float64 tan_float64 tay_string tam_string tan_string tay_sl tam_sl tan_sl tay_mp tam_mp tan_mp tay_fil tam_fil tan_fil tay_gint tam_gint tan_gint tay_gfl tam_gfl tan_gfl
theorem pt_map {w : World} {lo hi : Nat} {s : V} {x : Value} (h : PT w lo hi s x) (h8 : s.kind = 8) : ∃ sb, x = .iface 54 (.map (some sb)) := by
  cases h with
  | obj _ _ _ _ b => exact ⟨b, rfl⟩
  | null _ _ _ h => omega
  | bool _ _ _ h => omega
  | int _ _ _ h => omega
  | float _ _ _ h => omega
  | str _ _ _ h => omega
  | arr _ _ _ h => omega

def RoadsOne (s : V) : Prop := ∀ (A B : Option Addr) (ca cb : Nat) (w : World) (hb : Bds s ca cb) (hB : Strs any w B s.keys) (hA : Vals any w A s.l),
  Calls Try.prog 36 #[.agg #[.int .i64 s.kind, .int .i64 s.n, .float .f64 s.f, .string s.s, .slice A s.l.length ca, .slice B s.keys.length cb], .string ⟨#[]⟩] w (SomeOwn (fun ys => ys.length = 1) w)

set_option maxRecDepth 100000 in
set_option maxHeartbeats 4000000 in
theorem fMatch_any (s d F : V) (A B A' B' : Option Addr) (ca cb ca' cb' : Nat) (w : World) (hb : Bds s ca cb) (hB : Strs any w B s.keys) (hA : Vals any w A s.l) (hb' : Bds d ca' cb') (hB' : Strs any w B' d.keys) (hA' : Vals any w A' d.l)
    (hs8 : s.kind = 8) (hso : s.Ok) (hdo : d.Ok) (hsw : s.wt ≤ 1000000) (hdw : d.wt ≤ 1000000) (d4 : d.No 4) (hFo : F.Ok) (F4 : F.No 4) (hroad : RoadsOne s) (hmk : Makes s F) :
    Calls Try.prog 13 #[.agg #[.int .i64 s.kind, .int .i64 s.n, .float .f64 s.f, .string s.s, .slice A s.l.length ca, .slice B s.keys.length cb], .agg #[.int .i64 d.kind, .int .i64 d.n, .float .f64 d.f, .string d.s, .slice A' d.l.length ca', .slice B' d.keys.length cb']] w (FitsAns (M F d) w) := by
  have P1 : Hid (PlainAt s) := plain_any s hso hsw
  have P2 : Hid (PlainAt d) := plain_any d hdo hdw
  have R1 : Hid (RoadsOne s) := hroad
  have MK : Hid (Makes s F) := hmk
  have hk8 : (s.kind != 8) = false := by rw [hs8]; rfl
  have hs8' := Lib.hid hs8
  clear hroad hmk hs8
  go_enter Try.func13, Try.ntmps13
  go_wp2_with fail
  have hbel0 : Below (w.heap.size + 2) ((w.alloc (valObj s A ca B cb)).alloc (valObj d A' ca' B' cb')) ((w.alloc (valObj s A ca B cb)).alloc (valObj d A' ca' B' cb')) := Below.refl _ _
  have hbw0 := below2 w (valObj s A ca B cb) (valObj d A' ca' B' cb')
  refine (simple_any s 0 A B ca cb _ hb (hB.bel hbw0) (hA.bel hbw0) hso hsw (by omega)).mono ?_
  rintro e w1 ⟨r, rfl, rfl, hb1⟩
  have hbel1 := hbel0.trans (hb1.mono (by rw [alloc_size, alloc_size]; omega))
  obtain ⟨⟨b0, b1, b2, b3, b4, b5⟩, ⟨d0, d1, d2, d3, d4', d5⟩, hbw1⟩ := boxed2 hbel1
  clear hbel0 hbw0 hb1
  go_wp2_with fail
  refine (simple_any d 0 A' B' ca' cb' _ hb' (hB'.bel hbw1) (hA'.bel hbw1) hdo hdw (by omega)).mono ?_
  rintro e w2 ⟨r, rfl, rfl, hb2⟩
  have hs1 : w.heap.size + 2 ≤ w1.heap.size := by have := hbel1.size; rw [alloc_size, alloc_size] at this; exact this
  have hbel2 := hbel1.trans (hb2.mono hs1)
  clear b0 b1 b2 b3 b4 b5 d0 d1 d2 d3 d4' d5 hb2 hbel1 hbw1
  obtain ⟨⟨b0, b1, b2, b3, b4, b5⟩, ⟨d0, d1, d2, d3, d4', d5⟩, hbw2⟩ := boxed2 hbel2
  go_wp2_with fail
  refine (R1.out A B ca cb _ hb (hB.bel hbw2) (hA.bel hbw2)).mono ?_
  rintro e w3 ⟨rv, ys, rfl, hy1, hown, hb3⟩
  have hs2 : w.heap.size + 2 ≤ w2.heap.size := by have := hbel2.size; rw [alloc_size, alloc_size] at this; exact this
  have hbel3 := hbel2.trans (hb3.mono hs2)
  have hown' := Lib.hid hown
  have hy' := Lib.hid hy1
  clear b0 b1 b2 b3 b4 b5 d0 d1 d2 d3 d4' d5 hb3 hbel2 hbw2 hown hy1
  go_wp2_with fail
  refine (clash_any rv w2.heap.size ys w3 hown'.out hy'.out).mono ?_
  rintro e w4 ⟨rfl, hg4⟩
  have hs3 : w.heap.size + 2 ≤ w3.heap.size := by have := hbel3.size; rw [alloc_size, alloc_size] at this; exact this
  have hbel4 := hbel3.grown hg4 hs3 (fun k hk => by have := (hown'.out.lt k hk).1; omega)
  clear hg4 hbel3
  obtain ⟨⟨b0, b1, b2, b3, b4, b5⟩, ⟨d0, d1, d2, d3, d4', d5⟩, hbw4⟩ := boxed2 hbel4
  have hs4 : w.heap.size + 2 ≤ w4.heap.size := by have := hbel4.size; rw [alloc_size, alloc_size] at this; exact this
  go_wp2_with fail
  refine (P1.out A B ca cb w4 hb (hB.bel hbw4) (hA.bel hbw4)).mono ?_
  rintro e w5 ⟨x, rfl, px, hb5⟩
  have hbel5 := hbel4.trans (hb5.mono hs4)
  obtain ⟨sb, rfl⟩ := pt_map px hs8'.out
  have px' := Lib.hid px
  clear b0 b1 b2 b3 b4 b5 d0 d1 d2 d3 d4' d5 hb5 hbel4 hbw4 px
  obtain ⟨⟨b0, b1, b2, b3, b4, b5⟩, ⟨d0, d1, d2, d3, d4', d5⟩, hbw5⟩ := boxed2 hbel5
  have hs5 : w.heap.size + 2 ≤ w5.heap.size := by have := hbel5.size; rw [alloc_size, alloc_size] at this; exact this
  have hS1 : Hid ((fun w' => w'.cell? ⟨w.heap.size + 1, 0, none⟩ = some (.int .i64 d.kind) ∧ w'.cell? ⟨w.heap.size + 1, 1, none⟩ = some (.int .i64 d.n) ∧ w'.cell? ⟨w.heap.size + 1, 2, none⟩ = some (.float .f64 d.f) ∧ w'.cell? ⟨w.heap.size + 1, 3, none⟩ = some (.string d.s) ∧ w'.cell? ⟨w.heap.size + 1, 4, none⟩ = some (.slice A' d.l.length ca') ∧ w'.cell? ⟨w.heap.size + 1, 5, none⟩ = some (.slice B' d.keys.length cb')) w5) := ⟨d0, d1, d2, d3, d4', d5⟩
  have hS2 : Hid (∀ w2, Below w5.heap.size w5 w2 → (fun w' => w'.cell? ⟨w.heap.size + 1, 0, none⟩ = some (.int .i64 d.kind) ∧ w'.cell? ⟨w.heap.size + 1, 1, none⟩ = some (.int .i64 d.n) ∧ w'.cell? ⟨w.heap.size + 1, 2, none⟩ = some (.float .f64 d.f) ∧ w'.cell? ⟨w.heap.size + 1, 3, none⟩ = some (.string d.s) ∧ w'.cell? ⟨w.heap.size + 1, 4, none⟩ = some (.slice A' d.l.length ca') ∧ w'.cell? ⟨w.heap.size + 1, 5, none⟩ = some (.slice B' d.keys.length cb')) w2) := fun w2 hb2 => by
    obtain ⟨s7, s8, s9, s10, s11, s12⟩ := hS1.out
    have h := fun (p : Addr) (hp : p.block < w5.heap.size) => hb2.cell (p := p) hp
    have g1 : w.heap.size + 1 < w5.heap.size := by omega
    exact ⟨(h _ g1).trans s7, (h _ g1).trans s8, (h _ g1).trans s9, (h _ g1).trans s10, (h _ g1).trans s11, (h _ g1).trans s12⟩
  have hnf := Lib.hid (MK.out w5.drew sb _ _ (px'.out.move (fun _ _ _ => rfl)) (Nat.le_refl _))
  clear b0 b1 b2 b3 b4 b5
  go_wp2_with fail
  go_region_held3 (fun w' => w'.cell? ⟨w.heap.size + 1, 0, none⟩ = some (.int .i64 d.kind) ∧ w'.cell? ⟨w.heap.size + 1, 1, none⟩ = some (.int .i64 d.n) ∧ w'.cell? ⟨w.heap.size + 1, 2, none⟩ = some (.float .f64 d.f) ∧ w'.cell? ⟨w.heap.size + 1, 3, none⟩ = some (.string d.s) ∧ w'.cell? ⟨w.heap.size + 1, 4, none⟩ = some (.slice A' d.l.length ca') ∧ w'.cell? ⟨w.heap.size + 1, 5, none⟩ = some (.slice B' d.keys.length cb')) (first | exact hS1.out | exact hS3.out | exact hS4.out | exact hS5.out | go_keep)
    (first
    | (go_at_call 37; refine hnf.out.mono ?_; rintro e w6 ⟨g, rfl, fr, hb6⟩; have hb6' := below_undrew hb6; have hS3 := Lib.hid (hS2.out w6 hb6'))
    | (go_at_call 29; refine (P2.out A' B' ca' cb' w6 hb' (hB'.bel (hbw5.trans (hb6'.mono hbw5.size))) (hA'.bel (hbw5.trans (hb6'.mono hbw5.size)))).mono ?_; rintro e w7 ⟨y, rfl, py, hb7⟩; have hb7' := hb6'.trans (hb7.mono hb6'.size); have hS4 := Lib.hid (hS2.out w7 hb7'); have fr7 := fr.bel hb7)
    | (go_at_call 38; refine (filterMatch_any F d g y w7 fr7 py hb7.size (Nat.le_refl _) hFo hdo F4 d4 hdw).mono ?_; rintro e w8 ⟨r, rfl, hr, hb8⟩; have hb8' := hb7'.trans (hb8.mono hb7'.size); have hS5 := Lib.hid (hS2.out w8 hb8')))
  have hrH := Lib.hid hr
  have hbw8 := hbw5.trans (hb8'.mono hbw5.size)
  clear hr hb8' hb8 hb7' hb7 hb6' hb6 fr fr7 py
  go_wp2_with fail
  go_ret2
  exact ⟨r, rfl, hrH.out, hbw8⟩
end Go.Proofs.Ytpdcoipfpffhnaa
