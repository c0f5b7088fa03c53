/-
  null, integer, memberOf: values that are handed back. Conditions: none.
-/
import Derived.Test.YtpdcoipfpffhnaaSlc
import Derived.Test.YtpdcoipfpffhnaaFitL
import Derived.Outline
namespace Go.Proofs.Ytpdcoipfpffhnaa
open Go.ChangeShapes Go.WideShapes Go.ChangeAt Go.RowKit
set_option linter.unusedVariables false
theorem store_float' {P : Program} {w : World} {a : Addr} {m : Mode} (k : FloatKind) (b : Nat) : (store a (.float k b) m).run P w = stored P w a (.float k b) m := run_store P w a _ m rfl
attribute [local go_sem] store_float'

/-- A value is handed back that reads as m. -/
def RetV (m : V) (ok : Nat → Prop) (w : World) (e : Ending) (w' : World) : Prop :=
  ∃ A ca B cb, e = .returned (.agg #[.int .i64 m.kind, .int .i64 m.n, .float .f64 m.f, .string m.s, .slice A m.l.length ca, .slice B m.keys.length cb]) ∧ Bds m ca cb ∧ Strs ok w' B m.keys ∧ Vals ok w' A m.l ∧ Below w.heap.size w w'

theorem bds_small (k n : Int) (hk : 0 ≤ k ∧ k ≤ 100) (hn : I64 n) : Bds ⟨k, n, 0, ⟨#[]⟩, [], []⟩ 0 0 :=
  ⟨by unfold I64; constructor <;> (show _ ≤ _; dsimp; omega), hn, by show (0 : Nat) < _; omega, by show (0 : Nat) ≤ _; omega, by simp, by simp, by simp, by simp, by simp, by simp⟩

theorem null_any (ok : Nat → Prop) (w : World) : Calls Try.prog 65 #[] w (RetV V.null ok w) := by
  go_enter Try.func65, Try.ntmps65
  go_wp2_with fail
  exact bodyPost_ret (v := .agg #[.int .i64 1, .int .i64 0, .float .f64 0, .string ⟨#[]⟩, .slice none 0 0, .slice none 0 0]) (by simp [results, Try.results65, go_sem]) rfl
    ⟨none, 0, none, 0, rfl, bds_small 1 0 (by decide) (by unfold I64; omega), fun h => absurd rfl h, fun h => absurd rfl h, (Below.refl _ _).alloc (Nat.le_refl _) _⟩

def V.int (n : Int) : V := ⟨3, n, 0, ⟨#[]⟩, [], []⟩
theorem integer_any (ok : Nat → Prop) (n : Int) (hn : I64 n) (w : World) : Calls Try.prog 25 #[.int .i64 n] w (RetV (V.int n) ok w) := by
  go_enter Try.func25, Try.ntmps25
  go_wp2_with fail
  exact bodyPost_ret (v := .agg #[.int .i64 3, .int .i64 n, .float .f64 0, .string ⟨#[]⟩, .slice none 0 0, .slice none 0 0]) (by simp [results, Try.results25, go_sem]) rfl
    ⟨none, 0, none, 0, rfl, bds_small 3 n (by decide) hn, fun h => absurd rfl h, fun h => absurd rfl h, (Below.refl _ _).alloc (Nat.le_refl _) _⟩

theorem idxS_none {v : V} {k : ByteArray} (h : idxS v.keys k = -1) : v.member k = V.null := by
  unfold idxS at h
  unfold V.member
  cases hf : v.keys.findIdx? (· == k) with
  | none => rfl
  | some i => rw [hf] at h; exact absurd h (by show ¬ ((i : Int) = -1); omega)
theorem idxS_some {v : V} {k : ByteArray} {i : Nat} {x : V} (h : idxS v.keys k = i) (hx : v.l[i]? = some x) : v.member k = x := by
  unfold idxS at h
  unfold V.member
  cases hf : v.keys.findIdx? (· == k) with
  | none => rw [hf] at h; exact absurd h (by show ¬ ((-1 : Int) = (i : Int)); omega)
  | some j =>
    rw [hf] at h
    have h : j = i := by have h : (j : Int) = (i : Int) := h; omega
    subst h
    simp [List.getD_eq_getElem?_getD, hx]
theorem idxS_cases (xs : List ByteArray) (k : ByteArray) : idxS xs k = -1 ∨ ∃ i : Nat, idxS xs k = i ∧ i < xs.length := by
  unfold idxS
  cases hf : xs.findIdx? (· == k) with
  | none => exact Or.inl rfl
  | some i => exact Or.inr ⟨i, rfl, (List.findIdx?_eq_some_iff_getElem.1 hf).1⟩

/-- A new impl.Value: six cells that may be written. -/
structure Zero6 (W : World) (g : Nat) : Prop where
  c0 : W.cell? ⟨g, 0, none⟩ = some (.int .i64 0)
  c1 : W.cell? ⟨g, 1, none⟩ = some (.int .i64 0)
  c2 : W.cell? ⟨g, 2, none⟩ = some (.float .f64 0)
  c3 : W.cell? ⟨g, 3, none⟩ = some (.string ⟨#[]⟩)
  c4 : W.cell? ⟨g, 4, none⟩ = some (.slice none 0 0)
  c5 : W.cell? ⟨g, 5, none⟩ = some (.slice none 0 0)
  f0 : W.frozen? ⟨g, 0, none⟩ = false
  f1 : W.frozen? ⟨g, 1, none⟩ = false
  f2 : W.frozen? ⟨g, 2, none⟩ = false
  f3 : W.frozen? ⟨g, 3, none⟩ = false
  f4 : W.frozen? ⟨g, 4, none⟩ = false
  f5 : W.frozen? ⟨g, 5, none⟩ = false
theorem Zero6.of {W : World} {g : Nat} {t : TypeId} (h : W.heap[g]? = some (.cells #[.int .i64 0, .int .i64 0, .float .f64 0, .string ⟨#[]⟩, .slice none 0 0, .slice none 0 0] t (0, 0))) : Zero6 W g := by
  constructor <;> simp [World.cell?, World.frozen?, h]
theorem Zero6.lt {W : World} {g : Nat} (h : Zero6 W g) : g < W.heap.size := World.block_lt_of_cell? W _ h.c0
theorem Zero6.bel {W W1 : World} {g B : Nat} (h : Zero6 W g) (hb : Below B W W1) (hg : g < B) : Zero6 W1 g := by
  have c := fun j => hb.cell (p := ⟨g, j, none⟩) hg
  have f := fun j => hb.frozen (p := ⟨g, j, none⟩) hg
  exact ⟨(c 0).trans h.c0, (c 1).trans h.c1, (c 2).trans h.c2, (c 3).trans h.c3, (c 4).trans h.c4, (c 5).trans h.c5, (f 0).trans h.f0, (f 1).trans h.f1, (f 2).trans h.f2, (f 3).trans h.f3, (f 4).trans h.f4, (f 5).trans h.f5⟩
theorem zero_new (w : World) (t : TypeId) : Zero6 (w.alloc (.cells #[.int .i64 0, .int .i64 0, .float .f64 0, .string ⟨#[]⟩, .slice none 0 0, .slice none 0 0] t)) w.heap.size := Zero6.of (heap_alloc_new w _)

set_option maxHeartbeats 1000000 in
theorem memberOf_any (v : V) {ok : Nat → Prop} (A B : Option Addr) (ca cb : Nat) (k : ByteArray) (w : World) (hb : Bds v ca cb) (hB : Strs ok w B v.keys) (hA : Vals ok w A v.l) (hlen : v.keys.length ≤ v.l.length) (hkl : v.keys.length ≤ 1000000) :
    Calls Try.prog 30 #[.agg #[.int .i64 v.kind, .int .i64 v.n, .float .f64 v.f, .string v.s, .slice A v.l.length ca, .slice B v.keys.length cb], .string k] w (RetV (v.member k) ok w) := by
  have hla := hb.la
  have hlaH := Lib.hid hb.la
  go_enter Try.func30, Try.ntmps30
  go_wp2_with fail
  have hbelw : Below w.heap.size w ((w.alloc (valObj v A ca B cb)).alloc (.cells #[.int .i64 0, .int .i64 0, .float .f64 0, .string ⟨#[]⟩, .slice none 0 0, .slice none 0 0] 26)) := ((Below.refl _ _).alloc (Nat.le_refl _) _).alloc (by simp) _
  have hbelx : Below (w.heap.size + 1) (w.alloc (valObj v A ca B cb)) ((w.alloc (valObj v A ca B cb)).alloc (.cells #[.int .i64 0, .int .i64 0, .float .f64 0, .string ⟨#[]⟩, .slice none 0 0, .slice none 0 0] 26)) := (Below.refl _ _).alloc (by simp) _
  have hz : Zero6 ((w.alloc (valObj v A ca B cb)).alloc (.cells #[.int .i64 0, .int .i64 0, .float .f64 0, .string ⟨#[]⟩, .slice none 0 0, .slice none 0 0] 26)) (w.heap.size + 1) := by
    have := zero_new (w.alloc (valObj v A ca B cb)) 26
    rwa [alloc_size] at this
  refine (index_any B v.keys cb k _ (hB.bel hbelw) hkl).mono ?_
  rintro e w2 ⟨rfl, hw2⟩
  have hw3 : w2 = ((w.alloc (valObj v A ca B cb)).alloc (.cells #[.int .i64 0, .int .i64 0, .float .f64 0, .string ⟨#[]⟩, .slice none 0 0, .slice none 0 0] 26)) := hw2.symm
  rw [← hw3] at hbelw hbelx hz
  clear hw2 hw3
  obtain ⟨⟨b0, b1, b2, b3, b4, b5⟩, _⟩ := boxed hbelx
  have hs2 : w.heap.size + 2 ≤ w2.heap.size := hz.lt
  clear hbelx
  rcases idxS_cases v.keys k with hi | ⟨i, hi, hil⟩
  · have hm := Lib.hid (idxS_none hi)
    have hi0 : (idxS v.keys k < 0) := by omega
    have hi' := Lib.hid hi
    clear hi
    rw [hi'.out]
    go_wp2_with fail
    refine (null_any ok _).mono ?_
    rintro e w3 ⟨A3, d3, B3, e3, rfl, hb3, hB3, hA3, hbel3⟩
    obtain ⟨c0, c1, c2, c3, c4, c5, f0, f1, f2, f3, f4, f5⟩ := hz.bel hbel3 hs2
    have hbw3 := hbelw.trans (hbel3.mono (by omega))
    have hlt3 : w.heap.size + 1 < w3.heap.size := by have := hbel3.size; omega
    clear hz b0 b1 b2 b3 b4 b5 hB3 hA3 hA hB
    go_wp2_with fail
    exact bodyPost_ret (v := .agg #[.int .i64 V.null.kind, .int .i64 V.null.n, .float .f64 V.null.f, .string V.null.s, .slice A3 V.null.l.length d3, .slice B3 V.null.keys.length e3]) (by simp [results, Try.results30, go_sem, c0, c1, c2, c3, c4, c5]) rfl
      ⟨A3, d3, B3, e3, by rw [hm.out], by rw [hm.out]; exact hb3, by rw [hm.out]; exact fun h => absurd rfl h, by rw [hm.out]; exact fun h => absurd rfl h, ((((((hbw3.setCell (by simp) _).setCell (by simp) _).setCell (by simp) _).setCell (by simp) _).setCell (by simp) _).setCell (by simp) _)⟩
  · have hil2 : i < v.l.length := by omega
    obtain ⟨x, hx⟩ := get_lt hil2
    have hm := Lib.hid (idxS_some hi hx)
    rw [hi]
    have hi' := Lib.hid hi
    clear hi
    obtain ⟨ad, Ai, ci, Bi, di, hAe, hlt, ⟨e0, e1, e2, e3, e4, e5⟩, hbx, hBx, hAx⟩ := hA.lt.at_ hx
    subst hAe
    have hlt2 : (ad.add (i * 6)).block < w.heap.size := by rw [add_block]; exact hlt.2
    replace e0 := (hbelw.cell (p := ad.add (i * 6)) hlt2).trans e0
    replace e1 := (hbelw.cell (p := ⟨(ad.add (i * 6)).block, (ad.add (i * 6)).off + 1, none⟩) hlt2).trans e1
    replace e2 := (hbelw.cell (p := ⟨(ad.add (i * 6)).block, (ad.add (i * 6)).off + 2, none⟩) hlt2).trans e2
    replace e3 := (hbelw.cell (p := ⟨(ad.add (i * 6)).block, (ad.add (i * 6)).off + 3, none⟩) hlt2).trans e3
    replace e4 := (hbelw.cell (p := ⟨(ad.add (i * 6)).block, (ad.add (i * 6)).off + 4, none⟩) hlt2).trans e4
    replace e5 := (hbelw.cell (p := ⟨(ad.add (i * 6)).block, (ad.add (i * 6)).off + 5, none⟩) hlt2).trans e5
    obtain ⟨c0, c1, c2, c3, c4, c5, f0, f1, f2, f3, f4, f5⟩ := hz
    clear hx hA hB
    go_wp2_with fail
    have hbf := ((((((hbelw.setCell (p := ⟨w.heap.size + 1, 0, none⟩) (by simp) (.int .i64 x.kind)).setCell (p := ⟨w.heap.size + 1, 1, none⟩) (by simp) (.int .i64 x.n)).setCell (p := ⟨w.heap.size + 1, 2, none⟩) (by simp) (.float .f64 x.f)).setCell (p := ⟨w.heap.size + 1, 3, none⟩) (by simp) (.string x.s)).setCell (p := ⟨w.heap.size + 1, 4, none⟩) (by simp) (.slice Ai x.l.length ci)).setCell (p := ⟨w.heap.size + 1, 5, none⟩) (by simp) (.slice Bi x.keys.length di))
    exact bodyPost_ret (v := .agg #[.int .i64 x.kind, .int .i64 x.n, .float .f64 x.f, .string x.s, .slice Ai x.l.length ci, .slice Bi x.keys.length di]) (by simp [results, Try.results30, go_sem, c0, c1, c2, c3, c4, c5]) rfl
      ⟨Ai, ci, Bi, di, by rw [hm.out], by rw [hm.out]; exact hbx, by rw [hm.out]; exact (hBx.bel hbf).mono (fun _ h => h.1), by rw [hm.out]; exact (hAx.bel hbf).mono (fun _ h => h.1), hbf⟩
end Go.Proofs.Ytpdcoipfpffhnaa
