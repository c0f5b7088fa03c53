/-
  fitting: the definition. Conditions: none.
-/
import Derived.Test.YtpdcoipfpffhnaaAlikeL
import Derived.Test.YtpdcoipfpffhnaaPlain
namespace Go.Proofs.Ytpdcoipfpffhnaa
open Go.ChangeShapes Go.WideShapes Go.ChangeAt Go.RowKit
set_option linter.unusedVariables false
attribute [local go_sem] store_float'

/-- What a function of two values answers. -/
def Call2 (g : Nat) (x y : V) (P : Prop) : Prop := ∀ {ok : Nat → Prop} (A B A' B' : Option Addr) (ca cb ca' cb' : Nat) (w : World) (hb : Bds x ca cb) (hB : Strs ok w B x.keys) (hA : Vals ok w A x.l) (hb' : Bds y ca' cb') (hB' : Strs ok w B' y.keys) (hA' : Vals ok w A' y.l),
  Calls Try.prog g #[.agg #[.int .i64 x.kind, .int .i64 x.n, .float .f64 x.f, .string x.s, .slice A x.l.length ca, .slice B x.keys.length cb], .agg #[.int .i64 y.kind, .int .i64 y.n, .float .f64 y.f, .string y.s, .slice A' y.l.length ca', .slice B' y.keys.length cb']] w (IffB P w)

set_option maxHeartbeats 2000000 in
theorem equalFunc_any (g : Nat) (eg : ∀ args w, (callFunc g args).run Try.prog w = .ok (.enter g args) w) (l1 l2 : List V) (P : Nat → Prop) (hcall : ∀ (i : Nat) x y, l1[i]? = some x → l2[i]? = some y → Call2 g x y (P i)) {ok : Nat → Prop} (A A' : Option Addr) (ca ca' : Nat) (w : World) (hA : Vals ok w A l1) (hA' : Vals ok w A' l2) (h1 : l1.length ≤ 1000000) (h2 : l2.length ≤ 1000000) :
    Calls Try.prog 31 #[.slice A l1.length ca, .slice A' l2.length ca', .func (.func g) #[] #[]] w (IffB (l1.length = l2.length ∧ ∀ i, i < l1.length → P i) w) := by
  have H := Lib.hid hcall
  clear hcall
  by_cases hlen : l1.length = l2.length
  rotate_left
  · have hl1 : ((l1.length : Int) != (l2.length : Int)) = true := bne_iff_ne.2 (by omega)
    have hP : Hid ¬ (l1.length = l2.length ∧ ∀ i, i < l1.length → P i) := fun h => hlen h.1
    clear hlen
    go_enter Try.func31, Try.ntmps31
    go_wp2_with fail
    go_ret
    exact ⟨false, rfl, not_iff _ hP.out, Below.refl _ _⟩
  have hl1 : ((l1.length : Int) != (l2.length : Int)) = false := by rw [hlen]; simp
  have hlen' := Lib.hid hlen
  clear hlen
  go_enter Try.func31, Try.ntmps31
  go_wp2_with fail
  go_loopw [17] (fun i wr => ∃ j : Nat, j ≤ l1.length ∧ i = .int .i64 j ∧ Hid (∀ k, k < j → P k) ∧ Below w.heap.size w wr) (fun i _ => l1.length - (intOf i).toNat)
  case atStart => exact ⟨0, Nat.zero_le _, rfl, fun k hk => by omega, Below.refl _ _⟩
  case round =>
    obtain ⟨j, hj, rfl, hg, hbel⟩ := hrel
    by_cases hlt : j < l1.length
    · obtain ⟨x, hx⟩ := get_lt hlt
      have hlt2 : j < l2.length := by have := hlen'.out; omega
      obtain ⟨y, hy⟩ := get_lt hlt2
      obtain ⟨ad, Ai, ci, Bi, di, hAe, hdl, ⟨e0, e1, e2, e3, e4, e5⟩, hbx, hBx, hAx⟩ := (hA.bel hbel).lt.at_ hx
      obtain ⟨ad2, Aj, cj, Bj, dj, hAe2, hdl2, hat2, hby, hBy, hAy⟩ := (hA'.bel hbel).lt.at_ hy
      subst hAe hAe2
      have hbel1 : Below wr.heap.size wr (wr.alloc (valObj x Ai ci Bi di)) := below_alloc _ _
      have hl2 : (ad2.add (j * 6)).block < wr.heap.size := by rw [add_block]; exact hdl2.2
      have g0 := (hbel1.cell (p := ad2.add (j * 6)) hl2).trans hat2.c0
      have g1 := (hbel1.cell (p := ⟨(ad2.add (j * 6)).block, (ad2.add (j * 6)).off + 1, none⟩) hl2).trans hat2.c1
      have g2 := (hbel1.cell (p := ⟨(ad2.add (j * 6)).block, (ad2.add (j * 6)).off + 2, none⟩) hl2).trans hat2.c2
      have g3 := (hbel1.cell (p := ⟨(ad2.add (j * 6)).block, (ad2.add (j * 6)).off + 3, none⟩) hl2).trans hat2.c3
      have g4 := (hbel1.cell (p := ⟨(ad2.add (j * 6)).block, (ad2.add (j * 6)).off + 4, none⟩) hl2).trans hat2.c4
      have g5 := (hbel1.cell (p := ⟨(ad2.add (j * 6)).block, (ad2.add (j * 6)).off + 5, none⟩) hl2).trans hat2.c5
      simp only [valObj] at g0 g1 g2 g3 g4 g5
      have hx' := Lib.hid hx
      have hy' := Lib.hid hy
      clear hx hy hA hA' hat2
      go_wp2_with fail
      have hbel2 : Below wr.heap.size wr ((wr.alloc (valObj x Ai ci Bi di)).alloc (valObj y Aj cj Bj dj)) := below2 _ _ _
      refine (H.out j x y hx'.out hy'.out Ai Bi Aj Bj ci di cj dj _ hbx (hBx.bel hbel2) (hAx.bel hbel2) hby (hBy.bel hbel2) (hAy.bel hbel2)).mono ?_
      rintro e w2 ⟨r, rfl, hr, hb3⟩
      have hbel3 := hbel.trans ((hbel2.trans (hb3.mono (by rw [alloc_size, alloc_size]; omega))).mono hbel.size)
      have hr' := Lib.hid hr
      clear hr hbel2 hbel1 e0 e1 e2 e3 e4 e5 g0 g1 g2 g3 g4 g5 hb3
      cases r with
      | false =>
        go_wp2_with fail
        go_ret
        exact ⟨false, rfl, not_iff _ (fun h => by have := hr'.out.2 (h.2 j hlt); cases this), hbel3⟩
      | true =>
        have hg' : Hid (∀ k, k < j + 1 → P k) := fun k hk => by
          by_cases hkj : k < j
          · exact hg.out k hkj
          · obtain rfl : k = j := by omega
            exact hr'.out.1 rfl
        clear hg hr'
        go_wp2_with fail
        go_roundw
        case rel => exact ⟨j + 1, by omega, by go_num, hg', hbel3⟩
        case measure => simp [intOf]; omega
    · have hfin : Hid (l1.length = l2.length ∧ ∀ i, i < l1.length → P i) := ⟨hlen'.out, fun i hi => hg.out i (by omega)⟩
      clear hg
      go_wp2_with fail
      go_ret
      exact ⟨true, rfl, ⟨fun _ => hfin.out, fun _ => rfl⟩, hbel⟩

/-- Two boxed values. -/
theorem boxed2 {w wr : World} {v v' : V} {A : Option Addr} {ca : Nat} {B : Option Addr} {cb : Nat} {A' : Option Addr} {ca' : Nat} {B' : Option Addr} {cb' : Nat} (h : Below (w.heap.size + 2) ((w.alloc (valObj v A ca B cb)).alloc (valObj v' A' ca' B' cb')) wr) :
    Box wr w.heap.size v A ca B cb ∧ Box wr (w.heap.size + 1) v' A' ca' B' cb' ∧ Below w.heap.size w wr := by
  have h2 : Below (w.heap.size + 1) (w.alloc (valObj v A ca B cb)) wr := ((Below.refl _ _).alloc (by simp) _).trans (h.mono (by omega))
  obtain ⟨hb1, hb2⟩ := boxed h2
  have h3 : Below ((w.alloc (valObj v A ca B cb)).heap.size + 1) ((w.alloc (valObj v A ca B cb)).alloc (valObj v' A' ca' B' cb')) wr := by rw [alloc_size]; exact h
  obtain ⟨hb3, _⟩ := boxed h3
  rw [alloc_size] at hb3
  exact ⟨hb1, hb3, hb2⟩

set_option maxHeartbeats 4000000 in
theorem fitting_obj (n n' : Int) (f f' : Nat) (s s' : ByteArray) (l l' : List V) (ks ks' : List ByteArray) (hlen : ks.length = l.length) (hlen' : ks'.length ≤ l'.length) (hlm : ks.length ≤ 1000000) (hlm' : ks'.length ≤ 1000000)
    (H0 : ∀ (i : Nat) k x, ks[i]? = some k → l[i]? = some x → Call2 10 x ((V.mk 8 n' f' s' l' ks').member k) (Fit x ((V.mk 8 n' f' s' l' ks').member k)))
    {ok : Nat → Prop} (A B A' B' : Option Addr) (ca cb ca' cb' : Nat) (w : World) (hb : Bds ⟨8, n, f, s, l, ks⟩ ca cb) (hB : Strs ok w B ks) (hA : Vals ok w A l) (hb' : Bds ⟨8, n', f', s', l', ks'⟩ ca' cb') (hB' : Strs ok w B' ks') (hA' : Vals ok w A' l') :
    Calls Try.prog 10 #[.agg #[.int .i64 8, .int .i64 n, .float .f64 f, .string s, .slice A l.length ca, .slice B ks.length cb], .agg #[.int .i64 8, .int .i64 n', .float .f64 f', .string s', .slice A' l'.length ca', .slice B' ks'.length cb']] w
      (IffB (∀ (i : Nat) k x, ks[i]? = some k → l[i]? = some x → Fit x ((V.mk 8 n' f' s' l' ks').member k)) w) := by
  have H := Lib.hid H0
  have hbH := Lib.hid hb
  have hbH' := Lib.hid hb'
  have hlenH := Lib.hid hlen
  have hlenH' := Lib.hid hlen'
  have hBH' := Lib.hid hB'
  have hAH' := Lib.hid hA'
  clear H0 hb hb' hlen hlen' hB' hA'
  go_enter Try.func10, Try.ntmps10
  go_wp2_with fail
  go_loopw [5] (fun i wr => ∃ (j : Nat), j ≤ ks.length ∧ i = .int .i64 j ∧ Hid (∀ (i : Nat) k x, i < j → ks[i]? = some k → l[i]? = some x → Fit x ((V.mk 8 n' f' s' l' ks').member k)) ∧ Below (w.heap.size + 2) ((w.alloc (valObj ⟨8, n, f, s, l, ks⟩ A ca B cb)).alloc (valObj ⟨8, n', f', s', l', ks'⟩ A' ca' B' cb')) wr) (fun i _ => ks.length - (intOf i).toNat)
  case atStart => exact ⟨0, Nat.zero_le _, rfl, fun i k x hi => by omega, Below.refl _ _⟩
  case round =>
    obtain ⟨j, hj, rfl, hg, hbel⟩ := hrel
    obtain ⟨⟨b0, b1, b2, b3, b4, b5⟩, ⟨d0, d1, d2, d3, d4, d5⟩, hbw⟩ := boxed2 hbel
    dsimp only at b0 b1 b2 b3 b4 b5 d0 d1 d2 d3 d4 d5
    have hs2 : w.heap.size + 2 ≤ wr.heap.size := by have := hbel.size; rw [alloc_size, alloc_size] at this; exact this
    by_cases hlt : j < ks.length
    · obtain ⟨key, hkey⟩ := get_lt hlt
      have hjl : j < l.length := by have := hlenH.out; omega
      obtain ⟨x, hx⟩ := get_lt hjl
      obtain ⟨adk, hBe, hkb, hck, hsz⟩ := (hB.bel hbw).lt.at_ hkey
      obtain ⟨ad, Ai, ci, Bi, di, hAe, hdl, ⟨e0, e1, e2, e3, e4, e5⟩, hbx, hBx, hAx⟩ := (hA.bel hbw).lt.at_ hx
      subst hAe hBe
      have gk : (adk.add j).block < wr.heap.size := by rw [add_block]; exact hkb.2
      have gx : (ad.add (j * 6)).block < wr.heap.size := by rw [add_block]; exact hdl.2
      have g0 : w.heap.size < wr.heap.size := by omega
      have g1 : w.heap.size + 1 < wr.heap.size := by omega
      have hS1 : Hid ((fun w' => w'.cell? ⟨w.heap.size, 4, none⟩ = some (.slice (some ad) l.length ca) ∧ w'.cell? ⟨w.heap.size, 5, none⟩ = some (.slice (some adk) ks.length cb) ∧ w'.cell? ⟨w.heap.size + 1, 0, none⟩ = some (.int .i64 8) ∧ w'.cell? ⟨w.heap.size + 1, 1, none⟩ = some (.int .i64 n') ∧ w'.cell? ⟨w.heap.size + 1, 2, none⟩ = some (.float .f64 f') ∧ w'.cell? ⟨w.heap.size + 1, 3, none⟩ = some (.string s') ∧ w'.cell? ⟨w.heap.size + 1, 4, none⟩ = some (.slice A' l'.length ca') ∧ w'.cell? ⟨w.heap.size + 1, 5, none⟩ = some (.slice B' ks'.length cb') ∧ w'.cell? (adk.add j) = some (.string key) ∧ w'.cell? (ad.add (j * 6)) = some (.int .i64 x.kind) ∧ w'.cell? ⟨(ad.add (j * 6)).block, (ad.add (j * 6)).off + 1, none⟩ = some (.int .i64 x.n) ∧ w'.cell? ⟨(ad.add (j * 6)).block, (ad.add (j * 6)).off + 2, none⟩ = some (.float .f64 x.f) ∧ w'.cell? ⟨(ad.add (j * 6)).block, (ad.add (j * 6)).off + 3, none⟩ = some (.string x.s) ∧ w'.cell? ⟨(ad.add (j * 6)).block, (ad.add (j * 6)).off + 4, none⟩ = some (.slice Ai x.l.length ci) ∧ w'.cell? ⟨(ad.add (j * 6)).block, (ad.add (j * 6)).off + 5, none⟩ = some (.slice Bi x.keys.length di)) wr) := ⟨b4, b5, d0, d1, d2, d3, d4, d5, hck, e0, e1, e2, e3, e4, e5⟩
      have hS2 : Hid (∀ w2, Below wr.heap.size wr w2 → (fun w' => w'.cell? ⟨w.heap.size, 4, none⟩ = some (.slice (some ad) l.length ca) ∧ w'.cell? ⟨w.heap.size, 5, none⟩ = some (.slice (some adk) ks.length cb) ∧ w'.cell? ⟨w.heap.size + 1, 0, none⟩ = some (.int .i64 8) ∧ w'.cell? ⟨w.heap.size + 1, 1, none⟩ = some (.int .i64 n') ∧ w'.cell? ⟨w.heap.size + 1, 2, none⟩ = some (.float .f64 f') ∧ w'.cell? ⟨w.heap.size + 1, 3, none⟩ = some (.string s') ∧ w'.cell? ⟨w.heap.size + 1, 4, none⟩ = some (.slice A' l'.length ca') ∧ w'.cell? ⟨w.heap.size + 1, 5, none⟩ = some (.slice B' ks'.length cb') ∧ w'.cell? (adk.add j) = some (.string key) ∧ w'.cell? (ad.add (j * 6)) = some (.int .i64 x.kind) ∧ w'.cell? ⟨(ad.add (j * 6)).block, (ad.add (j * 6)).off + 1, none⟩ = some (.int .i64 x.n) ∧ w'.cell? ⟨(ad.add (j * 6)).block, (ad.add (j * 6)).off + 2, none⟩ = some (.float .f64 x.f) ∧ w'.cell? ⟨(ad.add (j * 6)).block, (ad.add (j * 6)).off + 3, none⟩ = some (.string x.s) ∧ w'.cell? ⟨(ad.add (j * 6)).block, (ad.add (j * 6)).off + 4, none⟩ = some (.slice Ai x.l.length ci) ∧ w'.cell? ⟨(ad.add (j * 6)).block, (ad.add (j * 6)).off + 5, none⟩ = some (.slice Bi x.keys.length di)) w2) := fun w2 hb2 => by
        obtain ⟨s1, s2, s3, s4, s5, s6, s7, s8, s9, s10, s11, s12, s13, s14, s15⟩ := hS1.out
        have h := fun (p : Addr) (hp : p.block < wr.heap.size) => hb2.cell (p := p) hp
        exact ⟨(h _ g0).trans s1,(h _ g0).trans s2,(h _ g1).trans s3,(h _ g1).trans s4,(h _ g1).trans s5,(h _ g1).trans s6,(h _ g1).trans s7,(h _ g1).trans s8,(h _ gk).trans s9,(h _ gx).trans s10,(h ⟨(ad.add (j * 6)).block, (ad.add (j * 6)).off + 1, none⟩ gx).trans s11,(h ⟨(ad.add (j * 6)).block, (ad.add (j * 6)).off + 2, none⟩ gx).trans s12,(h ⟨(ad.add (j * 6)).block, (ad.add (j * 6)).off + 3, none⟩ gx).trans s13,(h ⟨(ad.add (j * 6)).block, (ad.add (j * 6)).off + 4, none⟩ gx).trans s14,(h ⟨(ad.add (j * 6)).block, (ad.add (j * 6)).off + 5, none⟩ gx).trans s15⟩
      have hmem := Lib.hid (memberOf_any ⟨8, n', f', s', l', ks'⟩ A' B' ca' cb' key wr.drew hbH'.out ((hBH'.out.bel hbw).move (fun _ _ => rfl)) ((hAH'.out.bel hbw).move (fun _ _ => rfl)) hlenH'.out hlm')
      have hx' := Lib.hid hx
      have hkey' := Lib.hid hkey
      have hBxH := Lib.hid (hBx.mono (fun _ h => h.1))
      have hAxH := Lib.hid (hAx.mono (fun _ h => h.1))
      have j0 : (0 : Int) ≤ (j : Int) := by omega
      have j1 : (j : Int) < (ks.length : Int) := by omega
      have j2 : (j : Int) < (l.length : Int) := by omega
      clear hx hkey hB hA hBx hAx hck
      go_wp2_with fail
      go_region_held3 (fun w' => w'.cell? ⟨w.heap.size, 4, none⟩ = some (.slice (some ad) l.length ca) ∧ w'.cell? ⟨w.heap.size, 5, none⟩ = some (.slice (some adk) ks.length cb) ∧ w'.cell? ⟨w.heap.size + 1, 0, none⟩ = some (.int .i64 8) ∧ w'.cell? ⟨w.heap.size + 1, 1, none⟩ = some (.int .i64 n') ∧ w'.cell? ⟨w.heap.size + 1, 2, none⟩ = some (.float .f64 f') ∧ w'.cell? ⟨w.heap.size + 1, 3, none⟩ = some (.string s') ∧ w'.cell? ⟨w.heap.size + 1, 4, none⟩ = some (.slice A' l'.length ca') ∧ w'.cell? ⟨w.heap.size + 1, 5, none⟩ = some (.slice B' ks'.length cb') ∧ w'.cell? (adk.add j) = some (.string key) ∧ w'.cell? (ad.add (j * 6)) = some (.int .i64 x.kind) ∧ w'.cell? ⟨(ad.add (j * 6)).block, (ad.add (j * 6)).off + 1, none⟩ = some (.int .i64 x.n) ∧ w'.cell? ⟨(ad.add (j * 6)).block, (ad.add (j * 6)).off + 2, none⟩ = some (.float .f64 x.f) ∧ w'.cell? ⟨(ad.add (j * 6)).block, (ad.add (j * 6)).off + 3, none⟩ = some (.string x.s) ∧ w'.cell? ⟨(ad.add (j * 6)).block, (ad.add (j * 6)).off + 4, none⟩ = some (.slice Ai x.l.length ci) ∧ w'.cell? ⟨(ad.add (j * 6)).block, (ad.add (j * 6)).off + 5, none⟩ = some (.slice Bi x.keys.length di)) (first | exact hS1.out | exact hS3.out | exact hS4.out | go_keep)
        (first
        | (go_at_call 30; refine hmem.out.mono ?_; rintro e w2 ⟨A2, c2, B2, d2', rfl, hb2, hB2, hA2, hbl2⟩; have hbl3 := below_undrew hbl2; have hS3 := Lib.hid (hS2.out w2 hbl3))
        | (go_at_call 10; refine (H.out j key x hkey'.out hx'.out Ai Bi A2 B2 ci di c2 d2' _ hbx (hBxH.out.bel hbl3) (hAxH.out.bel hbl3) hb2 hB2 hA2).mono ?_; rintro e w3 ⟨r, rfl, hr, hbl4⟩; have hbl5 := hbl3.trans (hbl4.mono hbl3.size); have hS4 := Lib.hid (hS2.out w3 hbl5)))
      have hbel3 := hbel.trans (hbl5.mono hs2)
      have hbw3 := hbw.trans (hbl5.mono hbw.size)
      have hrP := Lib.hid hr
      clear hr hbl5 hbl4 hbl3 hbl2 hb2 hB2 hA2 b0 b1 b2 b3 b4 b5 d0 d1 d2 d3 d4 d5 e0 e1 e2 e3 e4 e5 j0 j1 j2 gk gx g0 g1
      cases r with
      | false =>
        go_wp2_with fail
        go_ret
        exact ⟨false, rfl, not_iff _ (fun h => by have := hrP.out.2 (h j key x hkey'.out hx'.out); cases this), hbw3⟩
      | true =>
        have hg' : Hid (∀ (i : Nat) k x, i < j + 1 → ks[i]? = some k → l[i]? = some x → Fit x ((V.mk 8 n' f' s' l' ks').member k)) := fun i k y hi hk hy => by
          by_cases hij : i < j
          · exact hg.out i k y hij hk hy
          · obtain rfl : i = j := by omega
            obtain rfl := Option.some.inj (hkey'.out.symm.trans hk)
            obtain rfl := Option.some.inj (hx'.out.symm.trans hy)
            exact hrP.out.1 rfl
        clear hg hrP
        go_wp2_with fail
        go_roundw
        case rel => exact ⟨j + 1, by omega, by go_num, hg', hbel3⟩
        case measure => simp [intOf]; omega
    · have hfin : Hid (∀ (i : Nat) k x, ks[i]? = some k → l[i]? = some x → Fit x ((V.mk 8 n' f' s' l' ks').member k)) := fun i k x hk hx => hg.out i k x (by have := (List.getElem?_eq_some_iff.1 hk).1; omega) hk hx
      clear hg
      go_wp2_with fail
      go_ret
      exact ⟨true, rfl, ⟨fun _ => hfin.out, fun _ => rfl⟩, hbw⟩
end Go.Proofs.Ytpdcoipfpffhnaa
