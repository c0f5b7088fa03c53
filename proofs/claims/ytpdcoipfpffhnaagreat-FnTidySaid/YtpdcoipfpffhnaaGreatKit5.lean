/-
  Values that are handed back, rows, appends: lemmas for law 5. Conditions: none.
-/
import Derived.Test.YtpdcoipfpffhnaaGreatPlain
import Derived.Test.YtpdcoipfpffhnaaGreatFitL
import Derived.Test.YtpdcoipfpffhnaaGreatRight
import Derived.Test.YtpdcoipfpffhnaaGreatWhole
import Derived.Lib.SlicesS
import Derived.Deep.RegionLaw
import Derived.Outline
namespace Go.Proofs.YtpdcoipfpffhnaaGreat
open Go.ChangeShapes Go.WideShapes Go.ChangeAt Go.RowKit
set_option linter.unusedVariables false
set_option linter.unusedSimpArgs false
theorem store_float' {P : Program} {w : World} {a : Addr} {m : Mode} (k : FloatKind) (b : Nat) : (store a (.float k b) m).run P w = stored P w a (.float k b) m := run_store P w a _ m rfl
attribute [local go_sem] store_float'
/-- A value is handed back that reads as m. -/
def RetV (m : V) (ok : Nat → Prop) (w : World) (e : Ending) (w' : World) : Prop :=
  ∃ A ca B cb, e = .returned (.agg #[.int .i64 m.kind, .int .i64 m.n, .float .f64 m.f, .string m.s, .slice A m.l.length ca, .slice B m.keys.length cb]) ∧ Bds m ca cb ∧ Strs ok w' B m.keys ∧ Vals ok w' A m.l ∧ Below w.heap.size w w'
theorem bds_small (k n : Int) (hk : 0 ≤ k ∧ k ≤ 100) (hn : I64 n) : Bds ⟨k, n, 0, ⟨#[]⟩, [], []⟩ 0 0 :=
  ⟨by unfold I64; constructor <;> (show _ ≤ _; dsimp; omega), hn, by show (0 : Nat) < _; omega, by show (0 : Nat) ≤ _; omega, by simp, by simp, by simp, by simp, by simp, by simp⟩
theorem null_any (ok : Nat → Prop) (w : World) : Calls Tryz.prog 15 #[] w (RetV V.null ok w) := by
  go_enter Tryz.func15, Tryz.ntmps15
  go_wp2_with fail
  exact bodyPost_ret (v := .agg #[.int .i64 1, .int .i64 0, .float .f64 0, .string ⟨#[]⟩, .slice none 0 0, .slice none 0 0]) (by simp [results, Tryz.results15, go_sem]) rfl
    ⟨none, 0, none, 0, rfl, bds_small 1 0 (by decide) (by unfold I64; omega), fun h => absurd rfl h, fun h => absurd rfl h, (Below.refl _ _).alloc (Nat.le_refl _) _⟩
def V.int (n : Int) : V := ⟨3, n, 0, ⟨#[]⟩, [], []⟩
theorem integer_any (ok : Nat → Prop) (n : Int) (hn : I64 n) (w : World) : Calls Tryz.prog 16 #[.int .i64 n] w (RetV (V.int n) ok w) := by
  go_enter Tryz.func16, Tryz.ntmps16
  go_wp2_with fail
  exact bodyPost_ret (v := .agg #[.int .i64 3, .int .i64 n, .float .f64 0, .string ⟨#[]⟩, .slice none 0 0, .slice none 0 0]) (by simp [results, Tryz.results16, go_sem]) rfl
    ⟨none, 0, none, 0, rfl, bds_small 3 n (by decide) hn, fun h => absurd rfl h, fun h => absurd rfl h, (Below.refl _ _).alloc (Nat.le_refl _) _⟩
theorem idxS_none {v : V} {k : ByteArray} (h : idxS v.keys k = -1) : v.member k = V.null := by
  unfold idxS at h
  unfold V.member
  cases hf : v.keys.findIdx? (· == k) with
  | none => rfl
  | some i => rw [hf] at h; exact absurd h (by show ¬ ((i : Int) = -1); omega)
theorem idxS_some {v : V} {k : ByteArray} {i : Nat} {x : V} (h : idxS v.keys k = i) (hx : v.l[i]? = some x) : v.member k = x := by
  unfold idxS at h
  unfold V.member
  cases hf : v.keys.findIdx? (· == k) with
  | none => rw [hf] at h; exact absurd h (by show ¬ ((-1 : Int) = (i : Int)); omega)
  | some j =>
    rw [hf] at h
    have h : j = i := by have h : (j : Int) = (i : Int) := h; omega
    subst h
    simp [List.getD_eq_getElem?_getD, hx]
theorem idxS_cases (xs : List ByteArray) (k : ByteArray) : idxS xs k = -1 ∨ ∃ i : Nat, idxS xs k = i ∧ i < xs.length := by
  unfold idxS
  cases hf : xs.findIdx? (· == k) with
  | none => exact Or.inl rfl
  | some i => exact Or.inr ⟨i, rfl, (List.findIdx?_eq_some_iff_getElem.1 hf).1⟩
/-- A new impl.Value: six cells that may be written. -/
structure Zero6 (W : World) (g : Nat) : Prop where
  c0 : W.cell? ⟨g, 0, none⟩ = some (.int .i64 0)
  c1 : W.cell? ⟨g, 1, none⟩ = some (.int .i64 0)
  c2 : W.cell? ⟨g, 2, none⟩ = some (.float .f64 0)
  c3 : W.cell? ⟨g, 3, none⟩ = some (.string ⟨#[]⟩)
  c4 : W.cell? ⟨g, 4, none⟩ = some (.slice none 0 0)
  c5 : W.cell? ⟨g, 5, none⟩ = some (.slice none 0 0)
  f0 : W.frozen? ⟨g, 0, none⟩ = false
  f1 : W.frozen? ⟨g, 1, none⟩ = false
  f2 : W.frozen? ⟨g, 2, none⟩ = false
  f3 : W.frozen? ⟨g, 3, none⟩ = false
  f4 : W.frozen? ⟨g, 4, none⟩ = false
  f5 : W.frozen? ⟨g, 5, none⟩ = false
theorem Zero6.of {W : World} {g : Nat} {t : TypeId} (h : W.heap[g]? = some (.cells #[.int .i64 0, .int .i64 0, .float .f64 0, .string ⟨#[]⟩, .slice none 0 0, .slice none 0 0] t (0, 0))) : Zero6 W g := by
  constructor <;> simp [World.cell?, World.frozen?, h]
theorem Zero6.lt {W : World} {g : Nat} (h : Zero6 W g) : g < W.heap.size := World.block_lt_of_cell? W _ h.c0
theorem Zero6.bel {W W1 : World} {g B : Nat} (h : Zero6 W g) (hb : Below B W W1) (hg : g < B) : Zero6 W1 g := by
  have c := fun j => hb.cell (p := ⟨g, j, none⟩) hg
  have f := fun j => hb.frozen (p := ⟨g, j, none⟩) hg
  exact ⟨(c 0).trans h.c0, (c 1).trans h.c1, (c 2).trans h.c2, (c 3).trans h.c3, (c 4).trans h.c4, (c 5).trans h.c5, (f 0).trans h.f0, (f 1).trans h.f1, (f 2).trans h.f2, (f 3).trans h.f3, (f 4).trans h.f4, (f 5).trans h.f5⟩
theorem zero_new (w : World) (t : TypeId) : Zero6 (w.alloc (.cells #[.int .i64 0, .int .i64 0, .float .f64 0, .string ⟨#[]⟩, .slice none 0 0, .slice none 0 0] t)) w.heap.size := Zero6.of (heap_alloc_new w _)
theorem not_iff (P : Prop) (h : ¬ P) : (false = true ↔ P) := ⟨fun h => (by cases h), fun hp => absurd hp h⟩
def IffB (P : Prop) (w : World) (e : Ending) (w' : World) : Prop := ∃ r : Bool, e = .returned (.bool r) ∧ (r = true ↔ P) ∧ Below w.heap.size w w'
/-- The cells of an array of plain data, element by element. -/
theorem row_at {w : World} {g : Nat} {cur : Array Value} {n i : Nat} {x : Value} {e : TypeId} {xs : List Value} (hb : w.heap[g]? = some (.cells cur e (0, 0))) (ht : cur.toList.take n = xs) (hx : xs[i]? = some x) : w.cell? ⟨g, i, none⟩ = some x := by
  have hi : i < xs.length := (List.getElem?_eq_some_iff.1 hx).1
  rw [← ht] at hx hi
  have hn : i < n := by simp at hi; omega
  rw [List.getElem?_take_of_lt hn] at hx
  simp [World.cell?, hb, ← Array.getElem?_toList, hx]
theorem below_two (w : World) (o o' : Obj) : Below w.heap.size w ((w.alloc o).alloc o') := ((Below.refl _ _).alloc (Nat.le_refl _) _).alloc (by simp) _
theorem below2 (w : World) (o o' : Obj) : Below w.heap.size w ((w.alloc o).alloc o') := ((Below.refl _ _).alloc (Nat.le_refl _) _).alloc (by simp) _
/-- What a function of two values answers. -/
def Call2 (g : Nat) (x y : V) (P : Prop) : Prop := ∀ {ok : Nat → Prop} (A B A' B' : Option Addr) (ca cb ca' cb' : Nat) (w : World) (hb : Bds x ca cb) (hB : Strs ok w B x.keys) (hA : Vals ok w A x.l) (hb' : Bds y ca' cb') (hB' : Strs ok w B' y.keys) (hA' : Vals ok w A' y.l),
  Calls Tryz.prog g #[.agg #[.int .i64 x.kind, .int .i64 x.n, .float .f64 x.f, .string x.s, .slice A x.l.length ca, .slice B x.keys.length cb], .agg #[.int .i64 y.kind, .int .i64 y.n, .float .f64 y.f, .string y.s, .slice A' y.l.length ca', .slice B' y.keys.length cb']] w (IffB P w)
set_option maxHeartbeats 2000000 in
theorem equalFunc_any (g : Nat) (eg : ∀ args w, (callFunc g args).run Tryz.prog w = .ok (.enter g args) w) (l1 l2 : List V) (P : Nat → Prop) (hcall : ∀ (i : Nat) x y, l1[i]? = some x → l2[i]? = some y → Call2 g x y (P i)) {ok : Nat → Prop} (A A' : Option Addr) (ca ca' : Nat) (w : World) (hA : Vals ok w A l1) (hA' : Vals ok w A' l2) (h1 : l1.length ≤ 1000000) (h2 : l2.length ≤ 1000000) :
    Calls Tryz.prog 23 #[.slice A l1.length ca, .slice A' l2.length ca', .func (.func g) #[] #[]] w (IffB (l1.length = l2.length ∧ ∀ i, i < l1.length → P i) w) := by
  have H := Lib.hid hcall
  clear hcall
  by_cases hlen : l1.length = l2.length
  rotate_left
  · have hl1 : ((l1.length : Int) != (l2.length : Int)) = true := bne_iff_ne.2 (by omega)
    have hP : Hid ¬ (l1.length = l2.length ∧ ∀ i, i < l1.length → P i) := fun h => hlen h.1
    clear hlen
    go_enter Tryz.func23, Tryz.ntmps23
    go_wp2_with fail
    go_ret
    exact ⟨false, rfl, not_iff _ hP.out, Below.refl _ _⟩
  have hl1 : ((l1.length : Int) != (l2.length : Int)) = false := by rw [hlen]; simp
  have hlen' := Lib.hid hlen
  clear hlen
  go_enter Tryz.func23, Tryz.ntmps23
  go_wp2_with fail
  go_loopw [17] (fun i wr => ∃ j : Nat, j ≤ l1.length ∧ i = .int .i64 j ∧ Hid (∀ k, k < j → P k) ∧ Below w.heap.size w wr) (fun i _ => l1.length - (intOf i).toNat)
  case atStart => exact ⟨0, Nat.zero_le _, rfl, fun k hk => by omega, Below.refl _ _⟩
  case round =>
    obtain ⟨j, hj, rfl, hg, hbel⟩ := hrel
    by_cases hlt : j < l1.length
    · obtain ⟨x, hx⟩ := get_lt hlt
      have hlt2 : j < l2.length := by have := hlen'.out; omega
      obtain ⟨y, hy⟩ := get_lt hlt2
      obtain ⟨ad, Ai, ci, Bi, di, hAe, hdl, ⟨e0, e1, e2, e3, e4, e5⟩, hbx, hBx, hAx⟩ := (hA.bel hbel).lt.at_ hx
      obtain ⟨ad2, Aj, cj, Bj, dj, hAe2, hdl2, hat2, hby, hBy, hAy⟩ := (hA'.bel hbel).lt.at_ hy
      subst hAe hAe2
      have hbel1 : Below wr.heap.size wr (wr.alloc (valObj x Ai ci Bi di)) := below_alloc _ _
      have hl2 : (ad2.add (j * 6)).block < wr.heap.size := by rw [add_block]; exact hdl2.2
      have g0 := (hbel1.cell (p := ad2.add (j * 6)) hl2).trans hat2.c0
      have g1 := (hbel1.cell (p := ⟨(ad2.add (j * 6)).block, (ad2.add (j * 6)).off + 1, none⟩) hl2).trans hat2.c1
      have g2 := (hbel1.cell (p := ⟨(ad2.add (j * 6)).block, (ad2.add (j * 6)).off + 2, none⟩) hl2).trans hat2.c2
      have g3 := (hbel1.cell (p := ⟨(ad2.add (j * 6)).block, (ad2.add (j * 6)).off + 3, none⟩) hl2).trans hat2.c3
      have g4 := (hbel1.cell (p := ⟨(ad2.add (j * 6)).block, (ad2.add (j * 6)).off + 4, none⟩) hl2).trans hat2.c4
      have g5 := (hbel1.cell (p := ⟨(ad2.add (j * 6)).block, (ad2.add (j * 6)).off + 5, none⟩) hl2).trans hat2.c5
      simp only [valObj] at g0 g1 g2 g3 g4 g5
      have hx' := Lib.hid hx
      have hy' := Lib.hid hy
      clear hx hy hA hA' hat2
      go_wp2_with fail
      have hbel2 : Below wr.heap.size wr ((wr.alloc (valObj x Ai ci Bi di)).alloc (valObj y Aj cj Bj dj)) := below2 _ _ _
      refine (H.out j x y hx'.out hy'.out Ai Bi Aj Bj ci di cj dj _ hbx (hBx.bel hbel2) (hAx.bel hbel2) hby (hBy.bel hbel2) (hAy.bel hbel2)).mono ?_
      rintro e w2 ⟨r, rfl, hr, hb3⟩
      have hbel3 := hbel.trans ((hbel2.trans (hb3.mono (by rw [alloc_size, alloc_size]; omega))).mono hbel.size)
      have hr' := Lib.hid hr
      clear hr hbel2 hbel1 e0 e1 e2 e3 e4 e5 g0 g1 g2 g3 g4 g5 hb3
      cases r with
      | false =>
        go_wp2_with fail
        go_ret
        exact ⟨false, rfl, not_iff _ (fun h => by have := hr'.out.2 (h.2 j hlt); cases this), hbel3⟩
      | true =>
        have hg' : Hid (∀ k, k < j + 1 → P k) := fun k hk => by
          by_cases hkj : k < j
          · exact hg.out k hkj
          · obtain rfl : k = j := by omega
            exact hr'.out.1 rfl
        clear hg hr'
        go_wp2_with fail
        go_roundw
        case rel => exact ⟨j + 1, by omega, by go_num, hg', hbel3⟩
        case measure => simp [intOf]; omega
    · have hfin : Hid (l1.length = l2.length ∧ ∀ i, i < l1.length → P i) := ⟨hlen'.out, fun i hi => hg.out i (by omega)⟩
      clear hg
      go_wp2_with fail
      go_ret
      exact ⟨true, rfl, ⟨fun _ => hfin.out, fun _ => rfl⟩, hbel⟩
/-- Two boxed values. -/
theorem boxed2 {w wr : World} {v v' : V} {A : Option Addr} {ca : Nat} {B : Option Addr} {cb : Nat} {A' : Option Addr} {ca' : Nat} {B' : Option Addr} {cb' : Nat} (h : Below (w.heap.size + 2) ((w.alloc (valObj v A ca B cb)).alloc (valObj v' A' ca' B' cb')) wr) :
    Box wr w.heap.size v A ca B cb ∧ Box wr (w.heap.size + 1) v' A' ca' B' cb' ∧ Below w.heap.size w wr := by
  have h2 : Below (w.heap.size + 1) (w.alloc (valObj v A ca B cb)) wr := ((Below.refl _ _).alloc (by simp) _).trans (h.mono (by omega))
  obtain ⟨hb1, hb2⟩ := boxed h2
  have h3 : Below ((w.alloc (valObj v A ca B cb)).heap.size + 1) ((w.alloc (valObj v A ca B cb)).alloc (valObj v' A' ca' B' cb')) wr := by rw [alloc_size]; exact h
  obtain ⟨hb3, _⟩ := boxed h3
  rw [alloc_size] at hb3
  exact ⟨hb1, hb3, hb2⟩
theorem row_form {w : World} {B size n : Nat} {e : TypeId} {v : Value} {xs : List Value} (h : w.ownsRow B e size v n xs) : (v = .slice none 0 0 ∧ n = 0) ∨ ∃ g c cur, v = .slice (some ⟨g, 0, none⟩) n c ∧ B ≤ g ∧ w.heap[g]? = some (.cells cur e (0, 0)) ∧ cur.toList.take (n * size) = xs := by
  rcases h.2 with h2 | ⟨g, cap, cur, h1, h2, h3, h4, h5, h6, h7⟩
  · exact Or.inl h2
  · exact Or.inr ⟨g, cap, cur, h1, h2, h3, h7⟩
/-- append whose run is known, in a plain region. -/
theorem wpList_append_is {P : Program} {ops : Array Oper} {rest : List Oper} {o : Oper} {a : Act} {w : World} {Q : Exit → Act → World → Prop} (hgd : o.guard = none) (s x : Operand) (t : TypeId) (hop : o.op = Op.call { callee := Callee.builtin Builtin.append, args := #[s, x], argTypes := #[t, t] })
    (sv xv : Value) (hs : a.eval s = sv) (hx : a.eval x = xv) (v' : Value) (w' : World) (hrun : (Builtin.append_ #[t, t] o.type #[sv, xv]).run P w = .ok v' w') (h : wpList P ops Q rest (a.put o.dst v') w') : wpList P ops Q (o :: rest) a w :=
  wpList_plain hgd fun K hK => by
    unfold Oper.wp
    simp only [execOp, hop, resolve, invoke, builtin, Sem.run_bind, Sem.run_pure, Result.andThen_ok, List.map_toArray, List.map_cons, List.map_nil, hs, hx, hrun]
    exact hK _ _ h
theorem run_append_none {P : Program} (w : World) (t ty e : TypeId) (i : TypeInfo) (ht : P.underlying t = some (.slice e)) (hi : P.info? e = some i) (A A' : Option Addr) (n c c' : Nat) (h : n ≤ c) :
    (Builtin.append_ #[t, t] ty #[.slice A n c, .slice A' 0 c']).run P w = .ok (.slice A n c) w := by
  have hl : ∀ a : Addr, (loadCells a 0).run P w = .ok #[] w := fun a => rfl
  cases A <;> cases A' <;> simp [hl, Result.andThen, Builtin.append_, run_underlying ht, sizeOf, typeInfo, hi, Builtin.lenOf, h, Builtin.firstCells, storeCells]
theorem World.ownsRow_le' {w : World} {B B' : Nat} {e : TypeId} {size n : Nat} {v : Value} {xs : List Value} (h : w.ownsRow B e size v n xs) (hB : B' ≤ B) : w.ownsRow B' e size v n xs := by
  refine ⟨h.1, ?_⟩
  rcases h.2 with h2 | ⟨g, cap, cur, e1, h1, h2⟩
  · exact Or.inl h2
  · exact Or.inr ⟨g, cap, cur, e1, Nat.le_trans hB h1, h2⟩
/-- append whose run is known, as one step of a region that draws. -/
theorem step_append_is {P : Program} {ops : Array Oper} {o : Oper} {a : Act} {w : World} {K : Act → World → Prop} {Q : Exit → Act → World → Prop} {E : Prop}
    (hg : o.guard = none) (s x : Operand) (t : TypeId) (hop : o.op = Op.call { callee := Callee.builtin Builtin.append, args := #[s, x], argTypes := #[t, t] })
    (sv xv : Value) (hs : a.eval s = sv) (hx : a.eval x = xv) (v' : Value) (w' : World) (hrun : (Builtin.append_ #[t, t] o.type #[sv, xv]).run P w = .ok v' w') (hK : K (a.put o.dst v') w') :
    if Region.wanted o (yielded ops a.tmps) = true then Oper.wp P o a w K Q else E := by
  have hw : Region.wanted o (yielded ops a.tmps) = true := by simp [Region.wanted, hg]
  rw [if_pos hw]
  unfold Oper.wp
  simp only [execOp, hop, resolve, invoke, builtin, Sem.run_bind, Sem.run_pure, Result.andThen_ok, List.map_toArray, List.map_cons, List.map_nil, hs, hx, hrun]
  exact hK
theorem cell_lt {w : World} {b i : Nat} {u : Value} (h : w.cell? ⟨b, i, none⟩ = some u) : b < w.heap.size := by
  by_cases hh : b < w.heap.size
  · exact hh
  · have : w.heap[b]? = none := Array.getElem?_eq_none (by omega)
    simp [World.cell?, this] at h
theorem row_slice {w : World} {B size n : Nat} {e : TypeId} {v : Value} {xs : List Value} (h : w.ownsRow B e size v n xs) : ∃ A c, v = .slice A n c := by
  rcases h.2 with ⟨rfl, rfl⟩ | ⟨g, cap, cur, rfl, _⟩
  · exact ⟨_, _, rfl⟩
  · exact ⟨_, _, rfl⟩
theorem nodup_le : ∀ (xs zs : List ByteArray), xs.Nodup → (∀ s ∈ xs, s ∈ zs) → xs.length ≤ zs.length
  | [], _, _, _ => by simp
  | x :: r, zs, h, hs => by
    obtain ⟨h1, h2⟩ := List.nodup_cons.1 h
    have ih := nodup_le r (zs.filter (fun z => decide (z ≠ x))) h2 (fun s hs' => List.mem_filter.2 ⟨hs s (List.mem_cons_of_mem _ hs'), by
      have : s ≠ x := fun e => h1 (by rw [← e]; exact hs')
      simp [this]⟩)
    have hx : x ∈ zs := hs x (List.mem_cons_self ..)
    have : (zs.filter (fun z => decide (z ≠ x))).length < zs.length := List.length_filter_lt_length_iff_exists.2 ⟨x, hx, by simp⟩
    simp only [List.length_cons]
    omega
set_option maxRecDepth 100000 in
set_option maxHeartbeats 2000000 in
theorem alike_ne (ka na kb nb : Int) (fa fb : Nat) (sa sb : ByteArray) (A B A' B' : Option Addr) (n1 n2 n3 n4 ca cb ca' cb' : Nat) (w : World) (P : Prop) (hP : ¬ P) (h : ka ≠ kb) :
    Calls Tryz.prog 8 #[.agg #[.int .i64 ka, .int .i64 na, .float .f64 fa, .string sa, .slice A n1 ca, .slice B n2 cb], .agg #[.int .i64 kb, .int .i64 nb, .float .f64 fb, .string sb, .slice A' n3 ca', .slice B' n4 cb']] w (IffB P w) := by
  have h1 : (ka != kb) = true := bne_iff_ne.2 h
  have hp' := Lib.hid (not_iff P hP)
  clear h hP
  go_enter Tryz.func8, Tryz.ntmps8
  go_wp2_with fail
  go_ret
  exact ⟨false, rfl, hp'.out, below2 _ _ _⟩
set_option maxRecDepth 100000 in
set_option maxHeartbeats 2000000 in
theorem alike_eq (k na nb : Int) (fa fb : Nat) (sa sb : ByteArray) (A B A' B' : Option Addr) (n1 n2 n3 n4 ca cb ca' cb' : Nat) (w : World) (h : k = 1 ∨ k = 2 ∨ k = 3 ∨ k = 4 ∨ k = 5) :
    Calls Tryz.prog 8 #[.agg #[.int .i64 k, .int .i64 na, .float .f64 fa, .string sa, .slice A n1 ca, .slice B n2 cb], .agg #[.int .i64 k, .int .i64 nb, .float .f64 fb, .string sb, .slice A' n3 ca', .slice B' n4 cb']] w
      (IffB ((k = 2 ∨ k = 3 → na = nb) ∧ (k = 4 → (FloatKind.f64.format.order fa fb == some Ordering.eq) = true) ∧ (k = 5 ∨ k = 6 → sa = sb)) w) := by
  rcases h with rfl | rfl | rfl | rfl | rfl
  · go_enter Tryz.func8, Tryz.ntmps8
    go_wp2_with fail
    go_ret
    exact ⟨true, rfl, by simp, below2 _ _ _⟩
  · by_cases hn : na = nb
    · have h1 : (na == nb) = true := beq_iff_eq.2 hn
      have hn' := Lib.hid hn
      clear hn
      go_enter Tryz.func8, Tryz.ntmps8
      go_wp2_with fail
      go_ret
      exact ⟨true, rfl, by simp [hn'.out], below2 _ _ _⟩
    · have h1 : (na == nb) = false := beq_eq_false_iff_ne.2 hn
      have hn' := Lib.hid hn
      clear hn
      go_enter Tryz.func8, Tryz.ntmps8
      go_wp2_with fail
      go_ret
      exact ⟨false, rfl, by simp [hn'.out], below2 _ _ _⟩
  · by_cases hn : na = nb
    · have h1 : (na == nb) = true := beq_iff_eq.2 hn
      have hn' := Lib.hid hn
      clear hn
      go_enter Tryz.func8, Tryz.ntmps8
      go_wp2_with fail
      go_ret
      exact ⟨true, rfl, by simp [hn'.out], below2 _ _ _⟩
    · have h1 : (na == nb) = false := beq_eq_false_iff_ne.2 hn
      have hn' := Lib.hid hn
      clear hn
      go_enter Tryz.func8, Tryz.ntmps8
      go_wp2_with fail
      go_ret
      exact ⟨false, rfl, by simp [hn'.out], below2 _ _ _⟩
  · cases hf : (FloatKind.f64.format.order fa fb == some Ordering.eq) with
    | true =>
      have hf' := Lib.hid hf
      go_enter Tryz.func8, Tryz.ntmps8
      go_wp2_with fail
      go_ret
      exact ⟨true, rfl, by simp, below2 _ _ _⟩
    | false =>
      go_enter Tryz.func8, Tryz.ntmps8
      go_wp2_with fail
      go_ret
      exact ⟨false, rfl, by simp, below2 _ _ _⟩
  · cases hbc : (sa.toList == sb.toList) with
    | true =>
      have hP : Hid (sa = sb) := (Lib.bytes_beq_iff _ _).1 hbc
      go_enter Tryz.func8, Tryz.ntmps8
      go_wp2_with fail
      go_ret
      exact ⟨true, rfl, by simp [hP.out], below2 _ _ _⟩
    | false =>
      have hP : Hid (sa ≠ sb) := (Lib.bytes_beq_false_iff _ _).1 hbc
      go_enter Tryz.func8, Tryz.ntmps8
      go_wp2_with fail
      go_ret
      exact ⟨false, rfl, by simp [hP.out], below2 _ _ _⟩
theorem int_ok (n : Int) : (V.int n).Ok := .int _ rfl rfl rfl
end Go.Proofs.YtpdcoipfpffhnaaGreat
