/-
  alike at objects, and whole. Conditions: none.
-/
import Derived.Test.YtpdcoipfpffhnaaGreatAlike5
namespace Go.Proofs.YtpdcoipfpffhnaaGreat
open Go.ChangeShapes Go.WideShapes Go.ChangeAt Go.RowKit
set_option linter.unusedVariables false
set_option linter.unusedSimpArgs false

set_option maxRecDepth 100000 in
set_option maxHeartbeats 4000000 in
theorem alike_obj5 (n n' : Int) (f f' : Nat) (s s' : ByteArray) (l l' : List V) (ks ks' : List ByteArray) (hkl : ks.length = l.length) (hkl' : ks'.length = l'.length) (hkk : ks.length = ks'.length) (hlm' : ks'.length ≤ 1000000) (hmem : ∀ k ∈ ks, k ∈ ks')
    (H0 : ∀ (i : Nat) k x, ks[i]? = some k → l[i]? = some x → Call2 8 x (V.member ⟨8, n', f', s', l', ks'⟩ k) True)
    {ok : Nat → Prop} (A B A' B' : Option Addr) (ca cb ca' cb' : Nat) (w : World) (hb : Bds ⟨8, n, f, s, l, ks⟩ ca cb) (hB : Strs ok w B ks) (hA : Vals ok w A l) (hb' : Bds ⟨8, n', f', s', l', ks'⟩ ca' cb') (hB' : Strs ok w B' ks') (hA' : Vals ok w A' l') :
    Calls Tryz.prog 8 #[.agg #[.int .i64 8, .int .i64 n, .float .f64 f, .string s, .slice A l.length ca, .slice B ks.length cb], .agg #[.int .i64 8, .int .i64 n', .float .f64 f', .string s', .slice A' l'.length ca', .slice B' ks'.length cb']] w (IffB True w) := by
  have H := Lib.hid H0
  have hmemH := Lib.hid hmem
  have hAH := Lib.hid hA.lt
  have hBH := Lib.hid hB.lt
  have hAH' := Lib.hid hA'.lt
  have hBH' := Lib.hid hB'
  have hklH := Lib.hid hkl
  have hklH' := Lib.hid hkl'
  have hkkH := Lib.hid hkk
  have hlm : ks.length ≤ 1000000 := by omega
  have t1 : ((ks.length : Int) != (ks'.length : Int)) = false := by rw [hkk]; simp
  have t2 : ((l.length : Int) != (l'.length : Int)) = false := by rw [← hkl, ← hkl', hkk]; simp
  have t3 : ((l.length : Int) != (ks.length : Int)) = false := by rw [hkl]; simp
  clear H0 hb hb' hB hB' hA hA' hmem hkl hkl' hkk
  go_enter Tryz.func8, Tryz.ntmps8
  go_wp2_with fail
  go_loopw [5] (fun i wr => ∃ (j : Nat), j ≤ ks.length ∧ i = .int .i64 j ∧ Below (w.heap.size + 2) ((w.alloc (valObj ⟨8, n, f, s, l, ks⟩ A ca B cb)).alloc (valObj ⟨8, n', f', s', l', ks'⟩ A' ca' B' cb')) wr) (fun i _ => ks.length - (intOf i).toNat)
  case atStart => exact ⟨0, Nat.zero_le _, rfl, Below.refl _ _⟩
  case round =>
    obtain ⟨j, hj, rfl, hbel⟩ := hrel
    obtain ⟨⟨b0, b1, b2, b3, b4, b5⟩, ⟨d0, d1, d2, d3, d4, d5⟩, hbw⟩ := boxed2 hbel
    dsimp only at b0 b1 b2 b3 b4 b5 d0 d1 d2 d3 d4 d5
    have hs2 : w.heap.size + 2 ≤ wr.heap.size := by have := hbel.size; rw [alloc_size, alloc_size] at this; exact this
    by_cases hlt : j < ks.length
    · have hltH := Lib.hid hlt
      obtain ⟨key, hkey⟩ := get_lt hlt
      obtain ⟨x, hx⟩ : ∃ x, l[j]? = some x := get_lt (by rw [← hklH.out]; exact hlt)
      obtain ⟨adk, hBe, hkb, hck, _⟩ := (hBH.out.bel hbw).at_ hkey
      obtain ⟨i, hi, hil⟩ : ∃ i : Nat, idxS ks' key = i ∧ i < ks'.length := by
        rcases idxS_cases ks' key with h | h
        · exfalso
          have hin := hmemH.out key (get_mem hkey)
          unfold idxS at h
          cases hf : ks'.findIdx? (· == key) with
          | none =>
            rw [List.findIdx?_eq_none_iff] at hf
            have := hf key hin
            rw [(MapKept.bytes_beq key key).2 rfl] at this
            cases this
          | some q =>
            rw [hf] at h
            have h2 : (q : Int) = -1 := h
            omega
        · exact h
      obtain ⟨y, hy⟩ : ∃ y, l'[i]? = some y := get_lt (by rw [← hklH'.out]; exact hil)
      have hym : V.member ⟨8, n', f', s', l', ks'⟩ key = y := idxS_some (v := ⟨8, n', f', s', l', ks'⟩) hi hy
      have hc0 : Call2 8 x y True := by
        rw [← hym]
        intro ok
        exact H.out j key x hkey hx
      have hc : Hid (Call2 8 x y True) := hc0
      clear hc0
      obtain ⟨ad, Ai, ci, Bi, di, hAe, hdl, ⟨e0, e1, e2, e3, e4, e5⟩, hbx, hBx, hAx⟩ := (hAH.out.bel hbw).at_ hx
      obtain ⟨ad', Ai', ci', Bi', di', hAe', hdl', ⟨q0, q1, q2, q3, q4, q5⟩, hby, hBy, hAy⟩ := (hAH'.out.bel hbw).at_ hy
      subst hAe hBe hAe'
      have gk : (adk.add j).block < wr.heap.size := by rw [add_block]; have := hkb.2; omega
      have gx : (ad.add (j * 6)).block < wr.heap.size := by rw [add_block]; have := hdl.2; omega
      have gy : (ad'.add (i * 6)).block < wr.heap.size := by rw [add_block]; have := hdl'.2; omega
      have k0 : w.heap.size < wr.heap.size := by omega
      have k1 : w.heap.size + 1 < wr.heap.size := by omega
      have hR1 : Hid ((fun w' => w'.cell? ⟨w.heap.size, 5, none⟩ = some (.slice (some adk) ks.length cb) ∧ w'.cell? ⟨w.heap.size + 1, 5, none⟩ = some (.slice B' ks'.length cb') ∧ w'.cell? (adk.add j) = some (.string key)) wr) := ⟨b5, d5, hck⟩
      have hS1 : Hid ((fun w' => w'.cell? ⟨w.heap.size, 4, none⟩ = some (.slice (some ad) l.length ca) ∧ w'.cell? ⟨w.heap.size + 1, 4, none⟩ = some (.slice (some ad') l'.length ca') ∧ w'.cell? (ad.add (j * 6)) = some (.int .i64 x.kind) ∧ w'.cell? ⟨(ad.add (j * 6)).block, (ad.add (j * 6)).off + 1, none⟩ = some (.int .i64 x.n) ∧ w'.cell? ⟨(ad.add (j * 6)).block, (ad.add (j * 6)).off + 2, none⟩ = some (.float .f64 x.f) ∧ w'.cell? ⟨(ad.add (j * 6)).block, (ad.add (j * 6)).off + 3, none⟩ = some (.string x.s) ∧ w'.cell? ⟨(ad.add (j * 6)).block, (ad.add (j * 6)).off + 4, none⟩ = some (.slice Ai x.l.length ci) ∧ w'.cell? ⟨(ad.add (j * 6)).block, (ad.add (j * 6)).off + 5, none⟩ = some (.slice Bi x.keys.length di) ∧ w'.cell? (ad'.add (i * 6)) = some (.int .i64 y.kind) ∧ w'.cell? ⟨(ad'.add (i * 6)).block, (ad'.add (i * 6)).off + 1, none⟩ = some (.int .i64 y.n) ∧ w'.cell? ⟨(ad'.add (i * 6)).block, (ad'.add (i * 6)).off + 2, none⟩ = some (.float .f64 y.f) ∧ w'.cell? ⟨(ad'.add (i * 6)).block, (ad'.add (i * 6)).off + 3, none⟩ = some (.string y.s) ∧ w'.cell? ⟨(ad'.add (i * 6)).block, (ad'.add (i * 6)).off + 4, none⟩ = some (.slice Ai' y.l.length ci') ∧ w'.cell? ⟨(ad'.add (i * 6)).block, (ad'.add (i * 6)).off + 5, none⟩ = some (.slice Bi' y.keys.length di')) wr) := ⟨b4, d4, e0, e1, e2, e3, e4, e5, q0, q1, q2, q3, q4, q5⟩
      have hS2 : Hid (∀ w2, Below wr.heap.size wr w2 → (fun w' => w'.cell? ⟨w.heap.size, 4, none⟩ = some (.slice (some ad) l.length ca) ∧ w'.cell? ⟨w.heap.size + 1, 4, none⟩ = some (.slice (some ad') l'.length ca') ∧ w'.cell? (ad.add (j * 6)) = some (.int .i64 x.kind) ∧ w'.cell? ⟨(ad.add (j * 6)).block, (ad.add (j * 6)).off + 1, none⟩ = some (.int .i64 x.n) ∧ w'.cell? ⟨(ad.add (j * 6)).block, (ad.add (j * 6)).off + 2, none⟩ = some (.float .f64 x.f) ∧ w'.cell? ⟨(ad.add (j * 6)).block, (ad.add (j * 6)).off + 3, none⟩ = some (.string x.s) ∧ w'.cell? ⟨(ad.add (j * 6)).block, (ad.add (j * 6)).off + 4, none⟩ = some (.slice Ai x.l.length ci) ∧ w'.cell? ⟨(ad.add (j * 6)).block, (ad.add (j * 6)).off + 5, none⟩ = some (.slice Bi x.keys.length di) ∧ w'.cell? (ad'.add (i * 6)) = some (.int .i64 y.kind) ∧ w'.cell? ⟨(ad'.add (i * 6)).block, (ad'.add (i * 6)).off + 1, none⟩ = some (.int .i64 y.n) ∧ w'.cell? ⟨(ad'.add (i * 6)).block, (ad'.add (i * 6)).off + 2, none⟩ = some (.float .f64 y.f) ∧ w'.cell? ⟨(ad'.add (i * 6)).block, (ad'.add (i * 6)).off + 3, none⟩ = some (.string y.s) ∧ w'.cell? ⟨(ad'.add (i * 6)).block, (ad'.add (i * 6)).off + 4, none⟩ = some (.slice Ai' y.l.length ci') ∧ w'.cell? ⟨(ad'.add (i * 6)).block, (ad'.add (i * 6)).off + 5, none⟩ = some (.slice Bi' y.keys.length di')) w2) := fun w2 hb2 => by
        obtain ⟨s1, s2, s3, s4, s5, s6, s7, s8, s9, s10, s11, s12, s13, s14⟩ := hS1.out
        have h := fun (p : Addr) (hp : p.block < wr.heap.size) => hb2.cell (p := p) hp
        exact ⟨(h ⟨w.heap.size, 4, none⟩ k0).trans s1, (h ⟨w.heap.size + 1, 4, none⟩ k1).trans s2, (h _ gx).trans s3, (h ⟨(ad.add (j * 6)).block, (ad.add (j * 6)).off + 1, none⟩ gx).trans s4, (h ⟨(ad.add (j * 6)).block, (ad.add (j * 6)).off + 2, none⟩ gx).trans s5, (h ⟨(ad.add (j * 6)).block, (ad.add (j * 6)).off + 3, none⟩ gx).trans s6, (h ⟨(ad.add (j * 6)).block, (ad.add (j * 6)).off + 4, none⟩ gx).trans s7, (h ⟨(ad.add (j * 6)).block, (ad.add (j * 6)).off + 5, none⟩ gx).trans s8, (h _ gy).trans s9, (h ⟨(ad'.add (i * 6)).block, (ad'.add (i * 6)).off + 1, none⟩ gy).trans s10, (h ⟨(ad'.add (i * 6)).block, (ad'.add (i * 6)).off + 2, none⟩ gy).trans s11, (h ⟨(ad'.add (i * 6)).block, (ad'.add (i * 6)).off + 3, none⟩ gy).trans s12, (h ⟨(ad'.add (i * 6)).block, (ad'.add (i * 6)).off + 4, none⟩ gy).trans s13, (h ⟨(ad'.add (i * 6)).block, (ad'.add (i * 6)).off + 5, none⟩ gy).trans s14⟩
      have hidx := Lib.hid (index_any B' ks' cb' key wr.drew (hBH'.out.bel (below_drew hbw)) hlm')
      rw [hi] at hidx
      have hBxH := Lib.hid (hBx.mono (ok' := any) (fun _ _ => trivial))
      have hAxH := Lib.hid (hAx.mono (ok' := any) (fun _ _ => trivial))
      have hByH := Lib.hid (hBy.mono (ok' := any) (fun _ _ => trivial))
      have hAyH := Lib.hid (hAy.mono (ok' := any) (fun _ _ => trivial))
      have hilH := Lib.hid hil
      have hil' : i < l'.length := by rw [← hklH'.out]; exact hil
      have j0 : (0 : Int) ≤ (j : Int) := by omega
      have j1 : (j : Int) < (ks.length : Int) := by omega
      have j2 : (j : Int) < (l.length : Int) := by rw [← hklH.out]; omega
      have i0 : (0 : Int) ≤ (i : Int) := by omega
      have i1 : (i : Int) < (l'.length : Int) := by omega
      have i2 : ¬ ((i : Int) < 0) := by omega
      have i3 : decide ((i : Int) < 0) = false := decide_eq_false i2
      clear hi hym hkey hx hy hBx hAx hBy hAy hck hil hil' hkb hdl hdl'
      go_wp2_with fail
      go_region_held3 (fun w' => w'.cell? ⟨w.heap.size, 5, none⟩ = some (.slice (some adk) ks.length cb) ∧ w'.cell? ⟨w.heap.size + 1, 5, none⟩ = some (.slice B' ks'.length cb') ∧ w'.cell? (adk.add j) = some (.string key)) (first | exact hR1.out | go_keep) ((go_at_call 24; refine hidx.out.mono ?_; rintro e w' ⟨rfl, rfl⟩))
      clear hidx hR1 b5 d5
      go_wp2_with fail
      go_region_held3 (fun w' => w'.cell? ⟨w.heap.size, 4, none⟩ = some (.slice (some ad) l.length ca) ∧ w'.cell? ⟨w.heap.size + 1, 4, none⟩ = some (.slice (some ad') l'.length ca') ∧ w'.cell? (ad.add (j * 6)) = some (.int .i64 x.kind) ∧ w'.cell? ⟨(ad.add (j * 6)).block, (ad.add (j * 6)).off + 1, none⟩ = some (.int .i64 x.n) ∧ w'.cell? ⟨(ad.add (j * 6)).block, (ad.add (j * 6)).off + 2, none⟩ = some (.float .f64 x.f) ∧ w'.cell? ⟨(ad.add (j * 6)).block, (ad.add (j * 6)).off + 3, none⟩ = some (.string x.s) ∧ w'.cell? ⟨(ad.add (j * 6)).block, (ad.add (j * 6)).off + 4, none⟩ = some (.slice Ai x.l.length ci) ∧ w'.cell? ⟨(ad.add (j * 6)).block, (ad.add (j * 6)).off + 5, none⟩ = some (.slice Bi x.keys.length di) ∧ w'.cell? (ad'.add (i * 6)) = some (.int .i64 y.kind) ∧ w'.cell? ⟨(ad'.add (i * 6)).block, (ad'.add (i * 6)).off + 1, none⟩ = some (.int .i64 y.n) ∧ w'.cell? ⟨(ad'.add (i * 6)).block, (ad'.add (i * 6)).off + 2, none⟩ = some (.float .f64 y.f) ∧ w'.cell? ⟨(ad'.add (i * 6)).block, (ad'.add (i * 6)).off + 3, none⟩ = some (.string y.s) ∧ w'.cell? ⟨(ad'.add (i * 6)).block, (ad'.add (i * 6)).off + 4, none⟩ = some (.slice Ai' y.l.length ci') ∧ w'.cell? ⟨(ad'.add (i * 6)).block, (ad'.add (i * 6)).off + 5, none⟩ = some (.slice Bi' y.keys.length di')) (first | exact hS1.out | exact hS3.out | go_keep)
        ((go_at_call 8; refine (hc.out Ai Bi Ai' Bi' ci di ci' di' wr.drew.drew hbx (hBxH.out.move (w1 := wr.drew.drew) (fun _ _ => rfl)) (hAxH.out.move (w1 := wr.drew.drew) (fun _ _ => rfl)) hby (hByH.out.move (w1 := wr.drew.drew) (fun _ _ => rfl)) (hAyH.out.move (w1 := wr.drew.drew) (fun _ _ => rfl))).mono ?_; rintro e w2 ⟨r, rfl, hr, hb2⟩; have hb2' : Below wr.heap.size wr w2 := ⟨hb2.os, hb2.tape, hb2.output, hb2.size, hb2.block⟩; have hS3 := Lib.hid (hS2.out w2 hb2')))
      have hrt : r = true := by first | exact hr | simpa using hr
      subst hrt
      have hbel2 := hbel.trans (hb2'.mono hs2)
      clear hS1 hS2 hS3 hr hb2 hb2' hc b0 b1 b2 b3 b4 d0 d1 d2 d3 d4 e0 e1 e2 e3 e4 e5 q0 q1 q2 q3 q4 q5 gk gx gy k0 k1 j0 j1 j2 i0 i1 i2 i3
      go_wp2_with fail
      go_roundw
      case rel => exact ⟨j + 1, by have := hltH.out; omega, by go_num, hbel2⟩
      case measure => have := hltH.out; simp [intOf]; omega
    · go_wp2_with fail
      go_ret
      exact ⟨true, rfl, true_iff true rfl, hbw⟩

theorem alike_any (b : V) : b.wt ≤ 1000000 → ∀ a : V, EqV a b → Call2 8 a b True := by
  induction b using V.ind with
  | h b ih =>
  intro hwt a heq ok A B A' B' ca cb ca' cb' w hb hB hA hb' hB' hA'
  have ih' : ∀ x ∈ b.l, ∀ y, EqV y x → Call2 8 y x True := fun x hx => ih x hx (by have := wt_kid hx; omega)
  have hlm : b.l.length ≤ 1000000 := by have := wt_len b; omega
  have hkm : b.keys.length ≤ 1000000 := by have := wt_klen b; omega
  clear ih
  cases heq with
  | leaf _ _ hk h5 hn hf hs => exact alike_leaf5 a b A B A' B' ca cb ca' cb' w hk h5 hn hf hs
  | arr _ _ ha hbk hl h =>
    obtain ⟨k, n, f, s, l, ks⟩ := a
    obtain ⟨k', n', f', s', l', ks'⟩ := b
    obtain rfl : k = 7 := ha
    obtain rfl : k' = 7 := hbk
    exact alike_arr5 n n' f f' s s' l l' ks ks' hl hlm (fun i x y hx hy => ih' y (get_mem hy) x (h i x y hx hy)) A B A' B' ca cb ca' cb' w hA hA'
  | obj _ _ ha hbk al bl an bn hm h =>
    obtain ⟨k, n, f, s, l, ks⟩ := a
    obtain ⟨k', n', f', s', l', ks'⟩ := b
    obtain rfl : k = 8 := ha
    obtain rfl : k' = 8 := hbk
    have e1 := nodup_le ks ks' an (fun s hs => (hm s).1 hs)
    have e2 := nodup_le ks' ks bn (fun s hs => (hm s).2 hs)
    refine alike_obj5 n n' f f' s s' l l' ks ks' al bl (by omega) hkm (fun k hk => (hm k).1 hk) (fun i k x hk hx => ?_) A B A' B' ca cb ca' cb' w hb hB hA hb' hB' hA'
    obtain ⟨j, y, _, g2, g3⟩ := key_at (v := ⟨8, n', f', s', l', ks'⟩) bl bn ((hm k).1 (get_mem hk))
    have h1 := h i k x hk hx
    rw [g3] at h1 ⊢
    intro ok
    exact ih' y (get_mem g2) x h1
end Go.Proofs.YtpdcoipfpffhnaaGreat
