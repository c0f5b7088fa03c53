/-
  impl.Diff. Conditions: none.
-/
import Derived.Test.YtpdcoipfpffhnaaFound4
import Derived.Test.YtpdcoipfpffhnaaFitsIm
namespace Go.Proofs.Ytpdcoipfpffhnaa
open Go.ChangeShapes Go.WideShapes Go.ChangeAt Go.RowKit
set_option linter.unusedVariables false

theorem info_frags : (Try.prog.info? 41).map (fun i => (i.zero, i.size, i.bytes)) = some (some (.slice none 0 0), 1, 24) := by kernel_rfl
/-- What impl.Diff hands back: nothing, or one place, told. -/
def DiffAns (D : List Step → Prop) (w : World) (e : Ending) (w' : World) : Prop := ∃ v, e = .returned (.tuple #[v, .bool false]) ∧ Below w.heap.size w w' ∧ ((v = .slice none 0 0 ∧ ∀ p, ¬ D p) ∨ ∃ g c p v0, v = .slice (some ⟨g, 0, none⟩) 1 c ∧ D p ∧ w'.cell? ⟨g, 0, none⟩ = some v0 ∧ FrOwn w' 0 v0 (tof p))

theorem compare_of (a b : V) (x y : Value) (w : World) {lo hi lo' hi' : Nat} (hx : PT w lo hi a x) (hy : PT w lo' hi' b y) (h1 : hi ≤ w.heap.size) (h2 : hi' ≤ w.heap.size) (hao : a.Ok) (hbo : b.Ok) (h4 : a.No 4) (b4 : b.No 4) (haw : a.wt ≤ 1000000) (hbw : b.wt ≤ 1000000) :
    Calls Try.prog 41 #[x, y, .slice none 0 0] w (fun e w' => ∃ A n d, e = .returned (.slice A n d) ∧ Below w.heap.size w w' ∧ ((A = none ∧ n = 0 ∧ d = 0 ∧ ∀ p, ¬ Dif a b p) ∨ ∃ h p, A = some ⟨h, 0, none⟩ ∧ n = (told p).length ∧ Dif a b p ∧ w'.ownsRow w.heap.size 20 1 (.slice (some ⟨h, 0, none⟩) (told p).length d) (told p).length (told p))) := by
  refine (compare_any a b x y w hx hy h1 h2 hao hbo h4 b4 haw hbw).mono ?_
  rintro e w' ⟨hb, hc⟩
  rcases hc with ⟨rfl, hno⟩ | ⟨v, p, rfl, hp, h, d, rfl, ho⟩
  · exact ⟨_, _, _, rfl, hb, Or.inl ⟨rfl, rfl, rfl, hno⟩⟩
  · exact ⟨_, _, _, rfl, hb, Or.inr ⟨h, p, rfl, rfl, hp, ho⟩⟩

set_option maxHeartbeats 2000000 in
theorem diffFirst_any (f t : V) {ok : Nat → Prop} (A B A' B' : Option Addr) (ca cb ca' cb' : Nat) (w : World) (hb : Bds f ca cb) (hB : Strs ok w B f.keys) (hA : Vals ok w A f.l) (hb' : Bds t ca' cb') (hB' : Strs ok w B' t.keys) (hA' : Vals ok w A' t.l)
    (hfo : f.Ok) (hto : t.Ok) (h4 : f.No 4) (t4 : t.No 4) (hfw : f.wt ≤ 1000000) (htw : t.wt ≤ 1000000) :
    Calls Try.prog 16 #[.agg #[.int .i64 f.kind, .int .i64 f.n, .float .f64 f.f, .string f.s, .slice A f.l.length ca, .slice B f.keys.length cb], .agg #[.int .i64 t.kind, .int .i64 t.n, .float .f64 t.f, .string t.s, .slice A' t.l.length ca', .slice B' t.keys.length cb'], .slice none 0 0, .bool true] w (DiffAns (Dif f t) w) := by
  have R1 : Hid (RightAt f) := right_any f hfo hfw
  have R2 : Hid (RightAt t) := right_any t hto htw
  have P1 : Hid (PlainAt f) := plain_any f hfo hfw
  have P2 : Hid (PlainAt t) := plain_any t hto htw
  obtain ⟨i0, hi, hz0, hz1, hz2⟩ := info_parts info_frags
  go_enter Try.func16, Try.ntmps16
  go_wp2_with fail
  have hbel0 : Below (w.heap.size + 2) ((w.alloc (valObj f A ca B cb)).alloc (valObj t A' ca' B' cb')) ((w.alloc (valObj f A ca B cb)).alloc (valObj t A' ca' B' cb')) := Below.refl _ _
  have hbw0 := below2 w (valObj f A ca B cb) (valObj t A' ca' B' cb')
  refine (R1.out A B ca cb _ hb (hB.bel hbw0) (hA.bel hbw0)).mono ?_
  rintro e w1 ⟨r, rfl, rfl, hb1⟩
  have hbel1 := hbel0.trans (hb1.mono (by rw [alloc_size, alloc_size]; omega))
  obtain ⟨⟨b0, b1, b2, b3, b4, b5⟩, ⟨d0, d1, d2, d3, d4, d5⟩, hbw1⟩ := boxed2 hbel1
  clear hbel0 hbw0 hb1
  go_wp2_with fail
  refine (R2.out A' B' ca' cb' _ hb' (hB'.bel hbw1) (hA'.bel hbw1)).mono ?_
  rintro e w2 ⟨r, rfl, rfl, hb2⟩
  have hs1 : w.heap.size + 2 ≤ w1.heap.size := by have := hbel1.size; rw [alloc_size, alloc_size] at this; exact this
  have hbel2 := hbel1.trans (hb2.mono hs1)
  clear b0 b1 b2 b3 b4 b5 d0 d1 d2 d3 d4 d5 hb2 hbel1 hbw1
  obtain ⟨⟨b0, b1, b2, b3, b4, b5⟩, ⟨d0, d1, d2, d3, d4, d5⟩, hbw2⟩ := boxed2 hbel2
  go_wp2_with fail
  refine (big_any f A B ca cb _ hb (hB.bel hbw2) (hA.bel hbw2) hfo).mono ?_
  rintro e w3 ⟨r, rfl, rfl, hb3⟩
  have hs2 : w.heap.size + 2 ≤ w2.heap.size := by have := hbel2.size; rw [alloc_size, alloc_size] at this; exact this
  have hbel3 := hbel2.trans (hb3.mono hs2)
  clear b0 b1 b2 b3 b4 b5 d0 d1 d2 d3 d4 d5 hb3 hbel2 hbw2
  obtain ⟨⟨b0, b1, b2, b3, b4, b5⟩, ⟨d0, d1, d2, d3, d4, d5⟩, hbw3⟩ := boxed2 hbel3
  go_wp2_with fail
  refine (big_any t A' B' ca' cb' _ hb' (hB'.bel hbw3) (hA'.bel hbw3) hto).mono ?_
  rintro e w4 ⟨r, rfl, rfl, hb4⟩
  have hs3 : w.heap.size + 2 ≤ w3.heap.size := by have := hbel3.size; rw [alloc_size, alloc_size] at this; exact this
  have hbel4 := hbel3.trans (hb4.mono hs3)
  clear b0 b1 b2 b3 b4 b5 d0 d1 d2 d3 d4 d5 hb4 hbel3 hbw3
  obtain ⟨⟨b0, b1, b2, b3, b4, b5⟩, ⟨d0, d1, d2, d3, d4, d5⟩, hbw4⟩ := boxed2 hbel4
  have hs4 : w.heap.size + 2 ≤ w4.heap.size := by have := hbel4.size; rw [alloc_size, alloc_size] at this; exact this
  go_wp2_with fail
  have hS1 : Hid ((fun w' => w'.cell? ⟨w.heap.size, 0, none⟩ = some (.int .i64 f.kind) ∧ w'.cell? ⟨w.heap.size, 1, none⟩ = some (.int .i64 f.n) ∧ w'.cell? ⟨w.heap.size, 2, none⟩ = some (.float .f64 f.f) ∧ w'.cell? ⟨w.heap.size, 3, none⟩ = some (.string f.s) ∧ w'.cell? ⟨w.heap.size, 4, none⟩ = some (.slice A f.l.length ca) ∧ w'.cell? ⟨w.heap.size, 5, none⟩ = some (.slice B f.keys.length cb) ∧ w'.cell? ⟨w.heap.size + 1, 0, none⟩ = some (.int .i64 t.kind) ∧ w'.cell? ⟨w.heap.size + 1, 1, none⟩ = some (.int .i64 t.n) ∧ w'.cell? ⟨w.heap.size + 1, 2, none⟩ = some (.float .f64 t.f) ∧ w'.cell? ⟨w.heap.size + 1, 3, none⟩ = some (.string t.s) ∧ w'.cell? ⟨w.heap.size + 1, 4, none⟩ = some (.slice A' t.l.length ca') ∧ w'.cell? ⟨w.heap.size + 1, 5, none⟩ = some (.slice B' t.keys.length cb')) w4) := ⟨b0, b1, b2, b3, b4, b5, d0, d1, d2, d3, d4, d5⟩
  have hS2 : Hid (∀ w2, Below w4.heap.size w4 w2 → (fun w' => w'.cell? ⟨w.heap.size, 0, none⟩ = some (.int .i64 f.kind) ∧ w'.cell? ⟨w.heap.size, 1, none⟩ = some (.int .i64 f.n) ∧ w'.cell? ⟨w.heap.size, 2, none⟩ = some (.float .f64 f.f) ∧ w'.cell? ⟨w.heap.size, 3, none⟩ = some (.string f.s) ∧ w'.cell? ⟨w.heap.size, 4, none⟩ = some (.slice A f.l.length ca) ∧ w'.cell? ⟨w.heap.size, 5, none⟩ = some (.slice B f.keys.length cb) ∧ w'.cell? ⟨w.heap.size + 1, 0, none⟩ = some (.int .i64 t.kind) ∧ w'.cell? ⟨w.heap.size + 1, 1, none⟩ = some (.int .i64 t.n) ∧ w'.cell? ⟨w.heap.size + 1, 2, none⟩ = some (.float .f64 t.f) ∧ w'.cell? ⟨w.heap.size + 1, 3, none⟩ = some (.string t.s) ∧ w'.cell? ⟨w.heap.size + 1, 4, none⟩ = some (.slice A' t.l.length ca') ∧ w'.cell? ⟨w.heap.size + 1, 5, none⟩ = some (.slice B' t.keys.length cb')) w2) := fun w2 hb2 => by
    obtain ⟨s1, s2, s3, s4, s5, s6, s7, s8, s9, s10, s11, s12⟩ := hS1.out
    have h := fun (p : Addr) (hp : p.block < w4.heap.size) => hb2.cell (p := p) hp
    have g0 : w.heap.size < w4.heap.size := by omega
    have g1 : w.heap.size + 1 < w4.heap.size := by omega
    exact ⟨(h _ g0).trans s1, (h _ g0).trans s2, (h _ g0).trans s3, (h _ g0).trans s4, (h _ g0).trans s5, (h _ g0).trans s6, (h _ g1).trans s7, (h _ g1).trans s8, (h _ g1).trans s9, (h _ g1).trans s10, (h _ g1).trans s11, (h _ g1).trans s12⟩
  refine wp_loop_rounds 1 ?_
  rw [rounds_succ]
  go_wp2_with fail
  have hp1 := Lib.hid (P1.out A B ca cb w4.drew hb ((hB.bel hbw4).move (fun _ _ => rfl)) ((hA.bel hbw4).move (fun _ _ => rfl)))
  go_region_held3 (fun w' => w'.cell? ⟨w.heap.size, 0, none⟩ = some (.int .i64 f.kind) ∧ w'.cell? ⟨w.heap.size, 1, none⟩ = some (.int .i64 f.n) ∧ w'.cell? ⟨w.heap.size, 2, none⟩ = some (.float .f64 f.f) ∧ w'.cell? ⟨w.heap.size, 3, none⟩ = some (.string f.s) ∧ w'.cell? ⟨w.heap.size, 4, none⟩ = some (.slice A f.l.length ca) ∧ w'.cell? ⟨w.heap.size, 5, none⟩ = some (.slice B f.keys.length cb) ∧ w'.cell? ⟨w.heap.size + 1, 0, none⟩ = some (.int .i64 t.kind) ∧ w'.cell? ⟨w.heap.size + 1, 1, none⟩ = some (.int .i64 t.n) ∧ w'.cell? ⟨w.heap.size + 1, 2, none⟩ = some (.float .f64 t.f) ∧ w'.cell? ⟨w.heap.size + 1, 3, none⟩ = some (.string t.s) ∧ w'.cell? ⟨w.heap.size + 1, 4, none⟩ = some (.slice A' t.l.length ca') ∧ w'.cell? ⟨w.heap.size + 1, 5, none⟩ = some (.slice B' t.keys.length cb')) (first | exact hS1.out | exact hS3.out | exact hS4.out | exact hS5.out | go_keep)
    (first
    | (go_at_call 29; refine hp1.out.mono ?_; rintro e w5 ⟨x, rfl, px, hb5⟩; have hb5' := below_undrew hb5; have hS3 := Lib.hid (hS2.out w5 hb5'); clear hp1)
    | (go_at_call 29; refine (P2.out A' B' ca' cb' w5 hb' (hB'.bel (hbw4.trans (hb5'.mono hbw4.size))) (hA'.bel (hbw4.trans (hb5'.mono hbw4.size)))).mono ?_; rintro e w6 ⟨y, rfl, py, hb6⟩; have hb6' := hb5'.trans (hb6.mono hb5'.size); have hS4 := Lib.hid (hS2.out w6 hb6'); have px6 := px.bel hb6)
    | (go_at_call 41; refine (compare_of f t x y w6 px6 py hb6.size (Nat.le_refl _) hfo hto h4 t4 hfw htw).mono ?_; rintro e w7 ⟨A7, n7, d7, rfl, hb7, hcs⟩; have hb7' := hb6'.trans (hb7.mono hb6'.size); have hS5 := Lib.hid (hS2.out w7 hb7')))
  have hbw7 := hbw4.trans (hb7'.mono hbw4.size)
  have hsz7 := hb7'.size
  have hcs' := Lib.hid hcs
  clear hcs hb7' hb7 hb6' hb6 hb5' hb5 px px6 py hS1 hS2 hS3 hS4 hS5
  rcases hcs'.out with ⟨rfl, rfl, rfl, hno⟩ | ⟨h1, p, rfl, rfl, hp, hrow⟩
  · have hno' := Lib.hid hno
    clear hno hcs'
    go_wp2_with fail
    go_ret2
    exact ⟨_, rfl, hbw7, Or.inl ⟨rfl, hno'.out⟩⟩
  · have hp' := Lib.hid hp
    obtain ⟨h1lt, _, _, hcell, _⟩ := row_cells hrow
    have htl : (told p).length ≤ 1000001 := by have := told_len p; have := dif_len hp; omega
    have hte := told_tof p
    have hcell' : Hid (∀ i u, ((tof p).map toV)[i]? = some u → w7.cell? ⟨h1, i, none⟩ = some u) := fun i u hu => hcell i u (by rw [hte]; exact hu)
    have htn : Hid ((tof p).length = (told p).length) := by show _ = _; rw [hte, List.length_map]
    clear hp hcs' hrow hcell hte
    go_wp2_with fail
    refine (trailOf_at w7 h1 d7 (told p).length (tof p) htn.out htl hcell'.out h1lt).mono ?_
    rintro e w8 ⟨v8, rfl, hfr, hb8⟩
    have hsl : ∃ A m c, v8 = .slice A m c := by
      rcases hfr.form with ⟨rfl, _⟩ | ⟨g, c, rfl, _⟩
      · exact ⟨_, _, _, rfl⟩
      · exact ⟨_, _, _, rfl⟩
    obtain ⟨A8, m8, c8, rfl⟩ := hsl
    have hfr' := Lib.hid hfr
    have hbw8 := hbw7.trans (hb8.mono hbw7.size)
    have hsz8 := hbw8.size
    clear hfr hb8
    go_wp2_with (at_builtin; refine wpList_append_own_at _ rfl _ _ 36 rfl w.heap.size 41 i0 (.slice none 0 0) 1 24 Try.underlying36 hi hz0 hz1 hz2 rfl (by decide) (.slice none 0 0) 0 [] rfl (World.ownsRow_nil _ _ _ _) ⟨w8.heap.size, 0, none⟩ 1 1 [.slice A8 m8 c8] rfl rfl ?c1 ?c2 ?c3 ?c4 ?c5 ?_)
    case c1 => exact cell_one_new _ _ _
    case c2 => intro u hu; rw [List.mem_singleton.1 hu]; rfl
    case c3 => unfold maxLen; omega
    case c4 => omega
    case c5 => simp; omega
    intro v' w' hown hgr hne hat
    obtain ⟨gx, cx, hvx, -⟩ := hown.form (by omega)
    subst hvx
    have hbw' := (hbw8.trans ((below_alloc w8 _).mono hbw8.size)).grown hgr (by simp; omega) (fun k hk => by cases hk)
    have hfin : Hid (FrOwn w' 0 (.slice A8 m8 c8) (tof p)) := (hfr'.out.le (Nat.zero_le _)).keep (Keeps.of_below (((below_alloc w8 _).mono (Nat.le_refl _)).grown hgr (by simp) (fun k hk => by cases hk)))
    have hc0 : Hid (w'.cell? ⟨gx, 0, none⟩ = some (.slice A8 m8 c8)) := by
      obtain ⟨_, _, _, hc, _⟩ := row_cells hown
      exact hc 0 _ rfl
    clear hown hgr hne hat hfr'
    go_wp2_with fail
    go_ret2
    exact ⟨_, rfl, hbw', Or.inr ⟨gx, cx, p, _, rfl, hp'.out, hc0.out, hfin.out⟩⟩
end Go.Proofs.Ytpdcoipfpffhnaa
