/-
  impl.Diff that tells all places, where there is one at most; differs. Conditions: none.
-/
import Derived.Test.YtpdcoipfpffhnaaImDiff
import Derived.Test.YtpdcoipfpffhnaaObj1
namespace Go.Proofs.Ytpdcoipfpffhnaa
open Go.ChangeShapes Go.WideShapes Go.ChangeAt Go.RowKit
set_option linter.unusedVariables false

theorem altDiff_of (a b : V) (x y : Value) (w : World) (hD : Calls Try.prog 69 #[x, y, .bool false, .slice none 0 0] w (Told (Dif a b) w)) :
    Calls Try.prog 43 #[x, y, .slice none 0 0] w (fun e w' => ∃ A n d, e = .returned (.slice A n d) ∧ Below w.heap.size w w' ∧ ((A = none ∧ n = 0 ∧ d = 0 ∧ ∀ p, ¬ Dif a b p) ∨ ∃ g p, A = some ⟨g, 0, none⟩ ∧ n = 1 ∧ Dif a b p ∧ OneP w' w.heap.size g d p)) := by
  have hD' := Lib.hid hD
  clear hD
  go_enter Try.func43, Try.ntmps43
  go_wp2_with fail
  refine hD'.out.mono ?_
  rintro e w2 ⟨hb2, hc⟩
  rcases hc with ⟨rfl, hno⟩ | ⟨g1, c1, p, rfl, hp, hone⟩
  · have hno' := Lib.hid hno
    clear hno
    go_wp2_with fail
    go_ret
    exact ⟨_, _, _, rfl, hb2, Or.inl ⟨rfl, rfl, rfl, hno'.out⟩⟩
  · have hp' := Lib.hid hp
    have hone' := Lib.hid hone
    clear hp hone
    go_wp2_with fail
    go_ret
    exact ⟨_, _, _, rfl, hb2, Or.inr ⟨g1, p, rfl, rfl, hp'.out, hone'.out⟩⟩

set_option maxHeartbeats 2000000 in
theorem diffAll_any (f t : V) {ok : Nat → Prop} (A B A' B' : Option Addr) (ca cb ca' cb' : Nat) (w : World) (hb : Bds f ca cb) (hB : Strs ok w B f.keys) (hA : Vals ok w A f.l) (hb' : Bds t ca' cb') (hB' : Strs ok w B' t.keys) (hA' : Vals ok w A' t.l)
    (hfo : f.Ok) (hto : t.Ok) (h4 : f.No 4) (t4 : t.No 4) (hfw : f.wt ≤ 1000000) (htw : t.wt ≤ 1000000)
    (hdf : ∀ (x y : Value) (w : World) {lo hi lo' hi' : Nat}, PT w lo hi f x → PT w lo' hi' t y → hi ≤ w.heap.size → hi' ≤ w.heap.size → Calls Try.prog 69 #[x, y, .bool false, .slice none 0 0] w (Told (Dif f t) w)) :
    Calls Try.prog 16 #[.agg #[.int .i64 f.kind, .int .i64 f.n, .float .f64 f.f, .string f.s, .slice A f.l.length ca, .slice B f.keys.length cb], .agg #[.int .i64 t.kind, .int .i64 t.n, .float .f64 t.f, .string t.s, .slice A' t.l.length ca', .slice B' t.keys.length cb'], .slice none 0 0, .bool false] w (DiffAns (Dif f t) w) := by
  have R1 : Hid (RightAt f) := right_any f hfo hfw
  have R2 : Hid (RightAt t) := right_any t hto htw
  have P1 : Hid (PlainAt f) := plain_any f hfo hfw
  have P2 : Hid (PlainAt t) := plain_any t hto htw
  obtain ⟨i0, hi, hz0, hz1, hz2⟩ := info_parts info_frags
  have HD := Lib.hid @hdf
  go_enter Try.func16, Try.ntmps16
  go_wp2_with fail
  have hbel0 : Below (w.heap.size + 2) ((w.alloc (valObj f A ca B cb)).alloc (valObj t A' ca' B' cb')) ((w.alloc (valObj f A ca B cb)).alloc (valObj t A' ca' B' cb')) := Below.refl _ _
  have hbw0 := below2 w (valObj f A ca B cb) (valObj t A' ca' B' cb')
  refine (R1.out A B ca cb _ hb (hB.bel hbw0) (hA.bel hbw0)).mono ?_
  rintro e w1 ⟨r, rfl, rfl, hb1⟩
  have hbel1 := hbel0.trans (hb1.mono (by rw [alloc_size, alloc_size]; omega))
  obtain ⟨⟨b0, b1, b2, b3, b4, b5⟩, ⟨d0, d1, d2, d3, d4, d5⟩, hbw1⟩ := boxed2 hbel1
  clear hbel0 hbw0 hb1
  go_wp2_with fail
  refine (R2.out A' B' ca' cb' _ hb' (hB'.bel hbw1) (hA'.bel hbw1)).mono ?_
  rintro e w2 ⟨r, rfl, rfl, hb2⟩
  have hs1 : w.heap.size + 2 ≤ w1.heap.size := by have := hbel1.size; rw [alloc_size, alloc_size] at this; exact this
  have hbel2 := hbel1.trans (hb2.mono hs1)
  clear b0 b1 b2 b3 b4 b5 d0 d1 d2 d3 d4 d5 hb2 hbel1 hbw1
  obtain ⟨⟨b0, b1, b2, b3, b4, b5⟩, ⟨d0, d1, d2, d3, d4, d5⟩, hbw2⟩ := boxed2 hbel2
  go_wp2_with fail
  refine (big_any f A B ca cb _ hb (hB.bel hbw2) (hA.bel hbw2) hfo).mono ?_
  rintro e w3 ⟨r, rfl, rfl, hb3⟩
  have hs2 : w.heap.size + 2 ≤ w2.heap.size := by have := hbel2.size; rw [alloc_size, alloc_size] at this; exact this
  have hbel3 := hbel2.trans (hb3.mono hs2)
  clear b0 b1 b2 b3 b4 b5 d0 d1 d2 d3 d4 d5 hb3 hbel2 hbw2
  obtain ⟨⟨b0, b1, b2, b3, b4, b5⟩, ⟨d0, d1, d2, d3, d4, d5⟩, hbw3⟩ := boxed2 hbel3
  go_wp2_with fail
  refine (big_any t A' B' ca' cb' _ hb' (hB'.bel hbw3) (hA'.bel hbw3) hto).mono ?_
  rintro e w4 ⟨r, rfl, rfl, hb4⟩
  have hs3 : w.heap.size + 2 ≤ w3.heap.size := by have := hbel3.size; rw [alloc_size, alloc_size] at this; exact this
  have hbel4 := hbel3.trans (hb4.mono hs3)
  clear b0 b1 b2 b3 b4 b5 d0 d1 d2 d3 d4 d5 hb4 hbel3 hbw3
  obtain ⟨⟨b0, b1, b2, b3, b4, b5⟩, ⟨d0, d1, d2, d3, d4, d5⟩, hbw4⟩ := boxed2 hbel4
  have hs4 : w.heap.size + 2 ≤ w4.heap.size := by have := hbel4.size; rw [alloc_size, alloc_size] at this; exact this
  go_wp2_with fail
  have hS1 : Hid ((fun w' => w'.cell? ⟨w.heap.size, 0, none⟩ = some (.int .i64 f.kind) ∧ w'.cell? ⟨w.heap.size, 1, none⟩ = some (.int .i64 f.n) ∧ w'.cell? ⟨w.heap.size, 2, none⟩ = some (.float .f64 f.f) ∧ w'.cell? ⟨w.heap.size, 3, none⟩ = some (.string f.s) ∧ w'.cell? ⟨w.heap.size, 4, none⟩ = some (.slice A f.l.length ca) ∧ w'.cell? ⟨w.heap.size, 5, none⟩ = some (.slice B f.keys.length cb) ∧ w'.cell? ⟨w.heap.size + 1, 0, none⟩ = some (.int .i64 t.kind) ∧ w'.cell? ⟨w.heap.size + 1, 1, none⟩ = some (.int .i64 t.n) ∧ w'.cell? ⟨w.heap.size + 1, 2, none⟩ = some (.float .f64 t.f) ∧ w'.cell? ⟨w.heap.size + 1, 3, none⟩ = some (.string t.s) ∧ w'.cell? ⟨w.heap.size + 1, 4, none⟩ = some (.slice A' t.l.length ca') ∧ w'.cell? ⟨w.heap.size + 1, 5, none⟩ = some (.slice B' t.keys.length cb')) w4) := ⟨b0, b1, b2, b3, b4, b5, d0, d1, d2, d3, d4, d5⟩
  have hS2 : Hid (∀ w2, Below w4.heap.size w4 w2 → (fun w' => w'.cell? ⟨w.heap.size, 0, none⟩ = some (.int .i64 f.kind) ∧ w'.cell? ⟨w.heap.size, 1, none⟩ = some (.int .i64 f.n) ∧ w'.cell? ⟨w.heap.size, 2, none⟩ = some (.float .f64 f.f) ∧ w'.cell? ⟨w.heap.size, 3, none⟩ = some (.string f.s) ∧ w'.cell? ⟨w.heap.size, 4, none⟩ = some (.slice A f.l.length ca) ∧ w'.cell? ⟨w.heap.size, 5, none⟩ = some (.slice B f.keys.length cb) ∧ w'.cell? ⟨w.heap.size + 1, 0, none⟩ = some (.int .i64 t.kind) ∧ w'.cell? ⟨w.heap.size + 1, 1, none⟩ = some (.int .i64 t.n) ∧ w'.cell? ⟨w.heap.size + 1, 2, none⟩ = some (.float .f64 t.f) ∧ w'.cell? ⟨w.heap.size + 1, 3, none⟩ = some (.string t.s) ∧ w'.cell? ⟨w.heap.size + 1, 4, none⟩ = some (.slice A' t.l.length ca') ∧ w'.cell? ⟨w.heap.size + 1, 5, none⟩ = some (.slice B' t.keys.length cb')) w2) := fun w2 hb2 => by
    obtain ⟨s1, s2, s3, s4, s5, s6, s7, s8, s9, s10, s11, s12⟩ := hS1.out
    have h := fun (p : Addr) (hp : p.block < w4.heap.size) => hb2.cell (p := p) hp
    have g0 : w.heap.size < w4.heap.size := by omega
    have g1 : w.heap.size + 1 < w4.heap.size := by omega
    exact ⟨(h _ g0).trans s1, (h _ g0).trans s2, (h _ g0).trans s3, (h _ g0).trans s4, (h _ g0).trans s5, (h _ g0).trans s6, (h _ g1).trans s7, (h _ g1).trans s8, (h _ g1).trans s9, (h _ g1).trans s10, (h _ g1).trans s11, (h _ g1).trans s12⟩
  refine wp_loop_rounds 1 ?_
  rw [rounds_succ]
  go_wp2_with fail
  have hp1 := Lib.hid (P1.out A B ca cb w4.drew hb ((hB.bel hbw4).move (fun _ _ => rfl)) ((hA.bel hbw4).move (fun _ _ => rfl)))
  go_region_held3 (fun w' => w'.cell? ⟨w.heap.size, 0, none⟩ = some (.int .i64 f.kind) ∧ w'.cell? ⟨w.heap.size, 1, none⟩ = some (.int .i64 f.n) ∧ w'.cell? ⟨w.heap.size, 2, none⟩ = some (.float .f64 f.f) ∧ w'.cell? ⟨w.heap.size, 3, none⟩ = some (.string f.s) ∧ w'.cell? ⟨w.heap.size, 4, none⟩ = some (.slice A f.l.length ca) ∧ w'.cell? ⟨w.heap.size, 5, none⟩ = some (.slice B f.keys.length cb) ∧ w'.cell? ⟨w.heap.size + 1, 0, none⟩ = some (.int .i64 t.kind) ∧ w'.cell? ⟨w.heap.size + 1, 1, none⟩ = some (.int .i64 t.n) ∧ w'.cell? ⟨w.heap.size + 1, 2, none⟩ = some (.float .f64 t.f) ∧ w'.cell? ⟨w.heap.size + 1, 3, none⟩ = some (.string t.s) ∧ w'.cell? ⟨w.heap.size + 1, 4, none⟩ = some (.slice A' t.l.length ca') ∧ w'.cell? ⟨w.heap.size + 1, 5, none⟩ = some (.slice B' t.keys.length cb')) (first | exact hS1.out | exact hS3.out | exact hS4.out | exact hS5.out | go_keep)
    (first
    | (go_at_call 29; refine hp1.out.mono ?_; rintro e w5 ⟨x, rfl, px, hb5⟩; have hb5' := below_undrew hb5; have hS3 := Lib.hid (hS2.out w5 hb5'); clear hp1)
    | (go_at_call 29; refine (P2.out A' B' ca' cb' w5 hb' (hB'.bel (hbw4.trans (hb5'.mono hbw4.size))) (hA'.bel (hbw4.trans (hb5'.mono hbw4.size)))).mono ?_; rintro e w6 ⟨y, rfl, py, hb6⟩; have hb6' := hb5'.trans (hb6.mono hb5'.size); have hS4 := Lib.hid (hS2.out w6 hb6'); have px6 := px.bel hb6)
    | (go_at_call 43; refine (altDiff_of f t x y w6 (HD.out x y w6 px6 py hb6.size (Nat.le_refl _))).mono ?_; rintro e w7 ⟨A7, n7, d7, rfl, hb7, hcs⟩; have hb7' := hb6'.trans (hb7.mono hb6'.size); have hS5 := Lib.hid (hS2.out w7 hb7')))
  have hbw7 := hbw4.trans (hb7'.mono hbw4.size)
  have hsz7 := hb7'.size
  have hcs' := Lib.hid hcs
  clear hcs hb7' hb7 hb6' hb6 hb5' hb5 px px6 py hS1 hS2 hS3 hS4 hS5
  rcases hcs'.out with ⟨rfl, rfl, rfl, hno⟩ | ⟨g1, p, rfl, rfl, hp, h1, d1, hne1, hout, hrow⟩
  · have hno' := Lib.hid hno
    clear hno hcs'
    go_wp2_with fail
    refine wp_loop_rounds 1 ?_
    rw [rounds_succ]
    go_wp2_with fail
    go_ret2
    exact ⟨_, rfl, hbw7, Or.inl ⟨rfl, hno'.out⟩⟩
  · have hp' := Lib.hid hp
    obtain ⟨h1lt, _, _, hcell, _⟩ := row_cells hrow
    have htl : (told p).length ≤ 1000001 := by have := told_len p; have := dif_len hp; omega
    have hte := told_tof p
    have hcell' : Hid (∀ i u, ((tof p).map toV)[i]? = some u → w7.cell? ⟨h1, i, none⟩ = some u) := fun i u hu => hcell i u (by rw [hte]; exact hu)
    have htn : Hid ((tof p).length = (told p).length) := by show _ = _; rw [hte, List.length_map]
    have k1 : w7.cell? ⟨g1, 0, none⟩ = some (.slice (some ⟨h1, 0, none⟩) (told p).length d1) := by
      obtain ⟨_, _, _, hc, _⟩ := row_cells hout
      exact hc 0 _ rfl
    clear hp hcs' hrow hcell hte hout
    go_wp2_with fail
    refine wp_loop_rounds 2 ?_
    rw [rounds_succ]
    go_wp2_with fail
    refine (trailOf_at w7 h1 d1 (told p).length (tof p) htn.out htl hcell'.out h1lt).mono ?_
    rintro e w8 ⟨v8, rfl, hfr, hb8⟩
    have hsl : ∃ A m c, v8 = .slice A m c := by
      rcases hfr.form with ⟨rfl, _⟩ | ⟨g, c, rfl, _⟩
      · exact ⟨_, _, _, rfl⟩
      · exact ⟨_, _, _, rfl⟩
    obtain ⟨A8, m8, c8, rfl⟩ := hsl
    have hfr' := Lib.hid hfr
    have hbw8 := hbw7.trans (hb8.mono hbw7.size)
    have hsz8 := hbw8.size
    clear hfr hb8
    go_wp2_with (at_builtin; refine wpList_append_own_at _ rfl _ _ 36 rfl w.heap.size 41 i0 (.slice none 0 0) 1 24 Try.underlying36 hi hz0 hz1 hz2 rfl (by decide) (.slice none 0 0) 0 [] rfl (World.ownsRow_nil _ _ _ _) ⟨w8.heap.size, 0, none⟩ 1 1 [.slice A8 m8 c8] rfl rfl ?c1 ?c2 ?c3 ?c4 ?c5 ?_)
    case c1 => exact cell_one_new _ _ _
    case c2 => intro u hu; rw [List.mem_singleton.1 hu]; rfl
    case c3 => unfold maxLen; omega
    case c4 => omega
    case c5 => simp; omega
    intro v' w' hown hgr hne hat
    obtain ⟨gx, cx, hvx, -⟩ := hown.form (by omega)
    subst hvx
    have hbw' := (hbw8.trans ((below_alloc w8 _).mono hbw8.size)).grown hgr (by simp; omega) (fun k hk => by cases hk)
    have hfin : Hid (FrOwn w' 0 (.slice A8 m8 c8) (tof p)) := (hfr'.out.le (Nat.zero_le _)).keep (Keeps.of_below (((below_alloc w8 _).mono (Nat.le_refl _)).grown hgr (by simp) (fun k hk => by cases hk)))
    have hc0 : Hid (w'.cell? ⟨gx, 0, none⟩ = some (.slice A8 m8 c8)) := by
      obtain ⟨_, _, _, hc, _⟩ := row_cells hown
      exact hc 0 _ rfl
    clear hown hgr hne hat hfr'
    go_wp2_with fail
    rw [rounds_succ]
    go_wp2_with fail
    go_ret2
    exact ⟨_, rfl, hbw', Or.inr ⟨gx, cx, p, _, rfl, hp'.out, hc0.out, hfin.out⟩⟩

theorem child_of (k : ByteArray) (w : World) : Calls Try.prog 39 #[.string k] w (fun e w' => e = .returned (.agg #[.int .i64 3, .string k, .slice none 0 0, .slice none 0 0, .int .i64 0, .int .i64 0, .int .i64 0, .float .f64 0, .string ⟨#[]⟩, .slice none 0 0, .slice none 0 0, .slice none 0 0, .slice none 0 0]) ∧ Below w.heap.size w w') := by
  refine (child_any k w).mono ?_
  rintro e w' ⟨n, rfl, hn, hb⟩
  obtain rfl : n = .slice none 0 0 := hn
  exact ⟨rfl, hb⟩
/-- A row of one step that was just built. -/
theorem frOwn_built (w : World) (k : ByteArray) : FrOwn (w.alloc (.cells #[.int .i64 3, .string k, .slice none 0 0, .slice none 0 0, .int .i64 0, .int .i64 0, .int .i64 0, .float .f64 0, .string ⟨#[]⟩, .slice none 0 0, .slice none 0 0, .slice none 0 0, .slice none 0 0] 64)) 0 (.slice (some ⟨w.heap.size, 0, none⟩) 1 1) ([Step.key k].map some) :=
  ⟨[.slice none 0 0], rfl, ⟨rfl, Or.inr ⟨w.heap.size, 1, _, rfl, Nat.zero_le _, heap_alloc_new w _, Nat.le_refl _, by unfold maxLen; omega, rfl, rfl⟩⟩, fun i s n h1 h2 => by
    have h0 : i = 0 := by have := (List.getElem?_eq_some_iff.1 h2).1; simp at this; omega
    subst h0
    have e1 : some (Step.key k) = s := by simpa using h1
    have e2 : Value.slice none 0 0 = n := by simpa using h2
    rw [← e1, ← e2]
    exact rfl⟩

def dA : V := V.obj1 keyA (V.int 1)
def dB : V := V.obj1 keyA (V.int 2)
theorem dAB_member (n : Int) : (V.obj1 keyA (V.int n)).member keyA = V.int n := obj1_member _ _
theorem not12 : ¬ LAlike (V.int 1) (V.int 2) := fun h => by
  have h1 : (1 : Int) = 2 := h.2.1 (Or.inr rfl)
  omega
theorem dif12 : Dif dA dB [.key keyA] := .obj _ _ keyA [] rfl rfl (Or.inl (by simp [dA, V.obj1])) (by
  show Dif ((V.obj1 keyA (V.int 1)).member keyA) ((V.obj1 keyA (V.int 2)).member keyA) []
  rw [dAB_member, dAB_member]
  exact .leaf _ _ (fun h => absurd h.1 (by decide)) (fun h => absurd h.1 (by decide)) not12)
theorem keys12 {k : ByteArray} (h : k ∈ dA.keys ∨ k ∈ dB.keys) : k = keyA := by
  rcases h with h | h
  · simpa [dA, V.obj1] using h
  · simpa [dB, V.obj1] using h
theorem dif12_only {p : List Step} (h : Dif dA dB p) : p = [.key keyA] := by
  obtain ⟨k, q, rfl, hk, hq⟩ := (dif_obj rfl rfl).1 h
  obtain rfl := keys12 hk
  have hq' : Dif ((V.obj1 keyA (V.int 1)).member keyA) ((V.obj1 keyA (V.int 2)).member keyA) q := hq
  rw [dAB_member, dAB_member] at hq'
  rw [((dif_leaf (fun h => absurd h.1 (by decide)) (fun h => absurd h.1 (by decide))).1 hq').1]
theorem obj_wt (n : Int) : (V.obj1 keyA (V.int n)).wt ≤ 1000000 := by
  have h2 : (V.int n).wt ≤ 1 := by rw [V.wt_eq]; exact Nat.le_refl _
  have h3 : keyA.size = 1 := rfl
  rw [obj1_wt]
  omega
theorem diff12 (x y : Value) (w : World) {lo hi lo' hi' : Nat} (hx : PT w lo hi dA x) (hy : PT w lo' hi' dB y) (h1 : hi ≤ w.heap.size) (h2 : hi' ≤ w.heap.size) : Calls Try.prog 69 #[x, y, .bool false, .slice none 0 0] w (Told (Dif dA dB) w) := by
  refine diff_obj_at false dA dB x y w hx hy h1 h2 rfl rfl (obj_wt 1) (Or.inr (fun k k' hk hk' => (keys12 hk).trans (keys12 hk').symm)) (fun k hk z z2 wr pz pz2 e1 e2 => ?_)
  obtain rfl := keys12 hk
  have hm1 : dA.member keyA = V.int 1 := dAB_member 1
  have hm2 : dB.member keyA = V.int 2 := dAB_member 2
  rw [hm1] at pz ⊢
  rw [hm2] at pz2 ⊢
  exact diff_leaf false _ _ z z2 wr pz pz2 (int_ok 1) (int_ok 2) (fun h => absurd h.1 (by decide)) (fun h => absurd h.1 (by decide)) (by decide) (by decide)

set_option maxHeartbeats 2000000 in
theorem differs_any (w : World) : Calls Try.prog 15 #[] w (SomeBool (fun r => r = true) w) := by
  have hone : I64 1 := by unfold I64; omega
  have htwo : I64 2 := by unfold I64; omega
  have g1 := Lib.hid hone
  have g2 := Lib.hid htwo
  have hka : keyA.size ≤ 1000 := by show (1 : Nat) ≤ _; omega
  clear hone htwo
  go_enter Try.func15, Try.ntmps15
  go_wp2_with fail
  refine (integer_any any 1 g1.out w).mono ?_
  rintro e w1 ⟨A, ca, B, cb, rfl, hb1, hB1, hA1, hl1⟩
  go_wp2_with fail
  refine (object_any keyA (V.int 1) A B ca cb w1 hb1 hB1 hA1 (by omega)).mono ?_
  rintro e w2 ⟨A2, ca2, B2, cb2, rfl, hb2, hB2, hA2, hl2⟩
  go_wp2_with fail
  refine (integer_any any 2 g2.out w2).mono ?_
  rintro e w3 ⟨A3, ca3, B3, cb3, rfl, hb3, hB3, hA3, hl3⟩
  go_wp2_with fail
  refine (object_any keyA (V.int 2) A3 B3 ca3 cb3 w3 hb3 hB3 hA3 (by omega)).mono ?_
  rintro e w4 ⟨A4, ca4, B4, cb4, rfl, hb4, hB4, hA4, hl4⟩
  have hl34 := hl3.trans (hl4.mono hl3.size)
  go_wp2_with fail
  refine (diffAll_any dA dB A2 B2 A4 B4 ca2 cb2 ca4 cb4 w4 hb2 (hB2.bel hl34) (hA2.bel hl34) hb4 hB4 hA4 (obj1_ok (int_ok 1)) (obj1_ok (int_ok 2)) (obj1_no (int_no 1)) (obj1_no (int_no 2)) (obj_wt 1) (obj_wt 2) @diff12).mono ?_
  rintro e w5 ⟨v5, rfl, hl5, hc5⟩
  have hbw := hl1.trans ((hl2.trans ((hl34.trans (hl5.mono hl34.size)).mono hl2.size)).mono hl1.size)
  rcases hc5 with ⟨_, hno⟩ | ⟨g, c, p, v0, rfl, hp, k1, hfr⟩
  · exact absurd dif12 (hno _)
  · rw [dif12_only hp] at hfr
    have hfr2 : FrOwn w5 0 v0 ([Step.key keyA].map some) := hfr
    obtain ⟨A0, c0, rfl, _⟩ := hfr2.view
    have hfr' := Lib.hid hfr2
    clear hl1 hl2 hl3 hl34 hl4 hl5 hB1 hA1 hB2 hA2 hB3 hA3 hB4 hA4 hp hfr hfr2
    have hglt := cell_lt k1
    have hsz5 := hbw.size
    have hS1 : Hid ((fun w' : World => w'.cell? ⟨g, 0, none⟩ = some (.slice A0 1 c0)) w5) := k1
    have hS2 : Hid (∀ w2, Below w5.heap.size w5 w2 → (fun w' : World => w'.cell? ⟨g, 0, none⟩ = some (.slice A0 1 c0)) w2) := fun w2 hb2 => (hb2.cell (p := ⟨g, 0, none⟩) hglt).trans k1
    go_wp2_with fail
    go_region_held3 (fun w' : World => w'.cell? ⟨g, 0, none⟩ = some (.slice A0 1 c0)) (first | exact hS1.out | exact hS3.out | exact hS4.out | go_keep)
      (first
      | (go_at_call 39; refine (child_of keyA w5.drew).mono ?_; rintro e w6 ⟨rfl, hl6⟩; have hl6' := below_undrew hl6; have hS3 := Lib.hid (hS2.out w6 hl6'))
      | (go_at_call 20; refine (samePlace_any [.key keyA] [.key keyA] _ _ 0 0 _ (hfr'.out.keep (Keeps.of_below (hl6'.trans ((below_alloc w6 _).mono hl6'.size)))) (frOwn_built w6 keyA) (by simp)).mono ?_; rintro e w7 ⟨r, rfl, hr, hl7⟩; have hl7' := (hl6'.trans ((below_alloc w6 _).mono hl6'.size)).trans (hl7.mono (hl6'.trans ((below_alloc w6 _).mono hl6'.size)).size); have hS4 := Lib.hid (hS2.out w7 hl7')))
    have hrt : r = true := by first | exact hr.2 rfl | simpa using hr
    subst hrt
    have hbw7 := hbw.trans (hl7'.mono hbw.size)
    clear hS1 hS2 hS3 hS4 hr hl7 hl7' hl6 hl6' hfr'
    go_wp2_with fail
    go_ret
    exact ⟨true, rfl, rfl, hbw7⟩
end Go.Proofs.Ytpdcoipfpffhnaa
