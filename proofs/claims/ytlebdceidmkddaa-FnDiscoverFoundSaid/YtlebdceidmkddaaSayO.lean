/-
  say, of an object. Conditions: none.
-/
import Derived.Test.YtlebdceidmkddaaSayA
namespace Go.Proofs.Ytlebdceidmkddaa
open Go.ChangeShapes Go.WideShapes Go.ChangeAt Go.RowKit
set_option linter.unusedVariables false

/-- What has been said of an object's members. -/
def MemsTo (j : Nat) (e : List UInt8) : Prop := j = 0 ∧ e = [] ∨ 0 < j ∧ Mems e
theorem sumS_le {xs : List ByteArray} {k : Nat} {x : ByteArray} (h : xs[k]? = some x) : sumS (xs.take k) + x.size ≤ sumS xs := by
  have h1 := sumS_snoc h
  have h2 : sumS (xs.take (k + 1)) + sumS (xs.drop (k + 1)) = sumS xs := by
    unfold sumS
    rw [← List.sum_append, ← List.map_append, List.take_append_drop]
  omega
theorem sumS_take_le (xs : List ByteArray) (k : Nat) : sumS (xs.take k) ≤ sumS xs := by
  have h2 : sumS (xs.take k) + sumS (xs.drop k) = sumS xs := by
    unfold sumS
    rw [← List.sum_append, ← List.map_append, List.take_append_drop]
  omega

theorem word_size {m : Nat} {t : ByteArray} (h : Word m (L t)) : t.size ≤ m + 2 := by
  obtain ⟨body, e1, _, e2⟩ := h
  rw [← L_len, e1]; simp; omega
theorem spoken_size {d : Prop} {m : Nat} {t : ByteArray} (h : Spoken d m (L t)) : t.size ≤ m := by
  obtain ⟨_, _, _, _, _, _, _, _, h9⟩ := h; rw [← L_len]; exact h9
theorem Ways.drew {w : World} {g : Nat} {A : Option Addr} {n c : Nat} {p : Int} (h : Ways w g A n c p) : Ways w.drew g A n c p := ⟨h.blk, h.row, h.cap, h.len, h.pos⟩
theorem Step.drew1 (g : Nat) (w : World) : Step g w w.drew := ⟨rfl, rfl, rfl, Nat.le_refl _, fun _ _ _ => rfl⟩

set_option maxHeartbeats 4000000 in
theorem say_obj (nn : Int) (f : Nat) (s : ByteArray) (l : List V) (ks : List ByteArray) (ih : ∀ x ∈ l, SayAt x) {ok : Nat → Prop} (A B : Option Addr) (ca cb : Nat) (w : World) (g : Nat) (A' : Option Addr) (n k : Nat) (p : Int)
    (hb : Bds ⟨8, nn, f, s, l, ks⟩ ca cb) (hB : Strs ok w B ks) (hA : Vals ok w A l) (hok : ∀ i, ok i → i ≠ g) (h : Ways w g A' n k p) (hp : p + 10 * ((V.mk 8 nn f s l ks).heft : Int) ≤ 4611686010000000000)
    (hh : (V.mk 8 nn f s l ks).heft ≤ 1000) (hgood : V.Goods l) :
    Calls Try.prog 8 #[.pointer (some ⟨g, 0, none⟩), .agg #[.int .i64 8, .int .i64 nn, .float .f64 f, .string s, .slice A l.length ca, .slice B ks.length cb]] w
      (Moved (IsStr (Spoken ((8 : Int) = 7 ∨ (8 : Int) = 8) (40 * (V.mk 8 nn f s l ks).heft - 10))) g A' n k p (10 * ((V.mk 8 nn f s l ks).heft : Int) - 3) w) := by
  have hhe := V.heft_eq ⟨8, nn, f, s, l, ks⟩
  generalize (V.mk 8 nn f s l ks).heft = H at *
  dsimp only at hhe
  have hH : 1 + sumS ks + V.hefts l ≤ H := by omega
  obtain ⟨_, _, _, hs, _, _, _, _, hla, hlb⟩ := hb
  dsimp only at hla hlb
  clear hhe
  have hg := blk_lt h.blk
  have IH := Lib.hid ih
  have HG := Lib.hid (goods_mem hgood)
  clear ih hgood
  go_enter Try.func8, Try.ntmps8
  go_wp2_with fail
  refine (wblank_any _ g A' n k p (h.bel ((Below.refl _ _).alloc (Nat.le_refl _) _)) (by omega)).mono ?_
  rintro e w1 ⟨v, q1, rfl, ⟨s0, rfl, hs0, hs0l⟩, hq1, hq1', hw1, hst1⟩
  have hsz0 : s0.size ≤ 2 := by rw [← L_len]; exact hs0l
  have hs0' := Lib.hid hs0
  have hbx := (boxedS (v := V.mk _ _ f s l ks) (A := A) (ca := ca) (B := B) (cb := cb) hst1 hg).1
  obtain ⟨c0, c1, c2, c3, c4, c5⟩ := hbx
  dsimp only at c0 c1 c2 c3 c4 c5
  clear hs0 hs0l
  go_wp2_with fail
  clear c0 c1 c2 c3 c4 c5
  go_loopw [5, 7] (fun o i wr => ∃ (x : ByteArray) (e : List UInt8) (j : Nat) (q : Int), j ≤ l.length ∧ j ≤ ks.length ∧ o = .string x ∧ i = .int .i64 j ∧ Hid (L x = L s0 ++ 123 :: e) ∧ Hid (MemsTo j e) ∧ e.length ≤ 40 * V.hefts (l.take j) + 40 * sumS (ks.take j) ∧ x.size = s0.size + 1 + e.length ∧ q1 ≤ q ∧ q ≤ q1 + 10 * (V.hefts (l.take j) : Int) + 10 * (sumS (ks.take j) : Int) ∧ Ways wr g A' n k q ∧ Step g (w.alloc (valObj ⟨8, nn, f, s, l, ks⟩ A ca B cb)) wr) (fun _ i _ => l.length - (intOf i).toNat)
  case atStart => exact ⟨_, [], 0, q1, by omega, by omega, rfl, rfl, by show L (s0 ++ _) = _; rw [L_cat]; rfl, Or.inl ⟨rfl, rfl⟩, by simp, by rw [cat2]; simp, by omega, by simp [V.hefts, sumS], hw1, hst1⟩
  case round =>
    clear hst1 hw1
    obtain ⟨x, e, j, q, hj, hjk, rfl, rfl, hx, he, hel, hxs, hq2, hq3, hw, hst⟩ := hrel
    obtain ⟨⟨c0, c1, c2, c3, c4, c5⟩, hS⟩ := boxedS hst hg
    dsimp only at c0 c1 c2 c3 c4 c5
    have hle := hefts_take_le l j
    have hle2 := sumS_take_le ks j
    by_cases hcont : j < l.length ∧ j < ks.length
    · obtain ⟨hlt, hltk⟩ := hcont
      obtain ⟨y, hy⟩ := get_lt hlt
      obtain ⟨z, hz⟩ := get_lt hltk
      have hym := Lib.hid (get_mem hy)
      have hss := Lib.hid (heft_le_hefts hy)
      have hsn := Lib.hid (hefts_snoc hy)
      have hzs := Lib.hid (sumS_le hz)
      have hzn := Lib.hid (sumS_snoc hz)
      obtain ⟨ad, Ai, ci, Bi, di, hAe, had, ⟨e0, e1, e2, e3, e4, e5⟩, hbx, hBx, hAx⟩ := (hA.stp hS hok).at_ hy
      obtain ⟨ak, hBe, hak, ek, hzl⟩ := (hB.stp hS hok).at_ hz
      subst hAe hBe
      clear hy hA hz hB
      by_cases hj0 : 0 < j
      · have he' : Hid (Mems e) := by
          rcases he.out with ⟨h0, _⟩ | ⟨_, h1⟩
          · omega
          · exact h1
        have hxb : x.size ≤ 1000000 := by omega
        have hxs' := Lib.hid hxs
        clear hxs
        have hJ0 : (0 : Int) ≤ (j : Int) := by omega
        have hJ1 : (j : Int) < (l.length : Int) := by omega
        have hJ2 : (j : Int) < (ks.length : Int) := by omega
        have hzsz : z.size ≤ 1000 := by have := hzs.out; omega
        have hyh : y.heft ≤ 1000 ∧ q + 3 + 5 * (z.size : Int) + 10 * (y.heft : Int) ≤ 4611686010000000000 ∧ V.hefts (l.take j) + y.heft ≤ 1000 := by have := hss.out; have := hzs.out; omega
        obtain ⟨hyh1, hyh2, hyh3⟩ := hyh
        have hgood := HG.out y hym.out
        have hK : Hid (∀ w' : World, Step g wr w' → w'.cell? ⟨w.heap.size, 4, none⟩ = some (.slice (some ad) l.length ca) ∧ w'.cell? ⟨w.heap.size, 5, none⟩ = some (.slice (some ak) ks.length cb) ∧ w'.cell? (ak.add j) = some (.string z) ∧ w'.cell? (ad.add (j * 6)) = some (.int .i64 y.kind) ∧ w'.cell? ⟨(ad.add (j * 6)).block, (ad.add (j * 6)).off + 1, none⟩ = some (.int .i64 y.n) ∧ w'.cell? ⟨(ad.add (j * 6)).block, (ad.add (j * 6)).off + 2, none⟩ = some (.float .f64 y.f) ∧ w'.cell? ⟨(ad.add (j * 6)).block, (ad.add (j * 6)).off + 3, none⟩ = some (.string y.s) ∧ w'.cell? ⟨(ad.add (j * 6)).block, (ad.add (j * 6)).off + 4, none⟩ = some (.slice Ai y.l.length ci) ∧ w'.cell? ⟨(ad.add (j * 6)).block, (ad.add (j * 6)).off + 5, none⟩ = some (.slice Bi y.keys.length di)) := fun w' h' => by
          have h1 : w.heap.size ≠ g := by omega
          have h2 : (ad.add (j * 6)).block ≠ g := by rw [add_block]; exact hok _ had
          have h3 : (ak.add j).block ≠ g := by rw [add_block]; exact hok _ hak
          exact ⟨h'.cell c4 h1, h'.cell c5 h1, h'.cell ek h3, h'.cell e0 h2, h'.cell e1 h2, h'.cell e2 h2, h'.cell e3 h2, h'.cell e4 h2, h'.cell e5 h2⟩
        have hW0 := hw.drew
        have hT0 := Step.drew1 g wr
        have hok' := Lib.hid hok
        have hss' := hss
        have tok1 : True := trivial
        go_wp2_with fail
        go_region_held3 (fun w' => w'.cell? ⟨w.heap.size, 4, none⟩ = some (.slice (some ad) l.length ca) ∧ w'.cell? ⟨w.heap.size, 5, none⟩ = some (.slice (some ak) ks.length cb) ∧ w'.cell? (ak.add j) = some (.string z) ∧ w'.cell? (ad.add (j * 6)) = some (.int .i64 y.kind) ∧ w'.cell? ⟨(ad.add (j * 6)).block, (ad.add (j * 6)).off + 1, none⟩ = some (.int .i64 y.n) ∧ w'.cell? ⟨(ad.add (j * 6)).block, (ad.add (j * 6)).off + 2, none⟩ = some (.float .f64 y.f) ∧ w'.cell? ⟨(ad.add (j * 6)).block, (ad.add (j * 6)).off + 3, none⟩ = some (.string y.s) ∧ w'.cell? ⟨(ad.add (j * 6)).block, (ad.add (j * 6)).off + 4, none⟩ = some (.slice Ai y.l.length ci) ∧ w'.cell? ⟨(ad.add (j * 6)).block, (ad.add (j * 6)).off + 5, none⟩ = some (.slice Bi y.keys.length di)) (first | go_keep | exact hK.out _ (by assumption)) (first | (go_at_call 16; have _t := tok1; refine (wblank_any _ g A' n k _ (by assumption) (by omega)).mono ?_; rintro e w2 ⟨v, q2, rfl, ⟨t1, rfl, ht1, ht1l⟩, hqa, hqb, hwA, hstA⟩; have hTA := hT0.trans hstA; have ht1s : t1.size ≤ 2 := (by rw [← L_len]; exact ht1l); have ht1' := Lib.hid ht1; clear tok1 ht1 ht1l) | (go_at_call 18; refine (word_any _ g A' n k _ z (by assumption) (by omega) (by omega)).mono ?_; rintro e w3 ⟨v, q3, rfl, ⟨t2, rfl, ht2⟩, hqc, hqd, hwB, hstB⟩; have hTB := hTA.trans hstB; have ht2s : t2.size ≤ 6 * z.size + 2 := word_size ht2; have ht2' := Lib.hid ht2; have m10 : ¬ 9223372036854775807 < t1.size + t2.size := (by omega); clear ht2) | (go_at_call 16; refine (wblank_any _ g A' n k _ hwB (by omega)).mono ?_; rintro e w4 ⟨v, q4, rfl, ⟨t3, rfl, ht3, ht3l⟩, hqe, hqf, hwC, hstC⟩; have hTC := hTB.trans hstC; have ht3s : t3.size ≤ 2 := (by rw [← L_len]; exact ht3l); have ht3' := Lib.hid ht3; have m13 : ¬ 9223372036854775807 < t1.size + t2.size + t3.size := (by omega); have m14 : ¬ 9223372036854775807 < t1.size + t2.size + t3.size + 1 := (by omega); clear ht3 ht3l) | (go_at_call 8; refine (IH.out y hym.out Ai Bi ci di _ g A' n k _ hbx (by exact hBx.stp hTC hok'.out) (by exact hAx.stp hTC hok'.out) hok'.out hwC (by omega) (by omega) hgood).mono ?_; rintro e w5 ⟨v, q5, rfl, ⟨t4, rfl, ht4⟩, hqg, hqh, hwD, hstD⟩; have hTD := hTC.trans hstD; have ht4s : t4.size ≤ 40 * y.heft - 10 := spoken_size ht4; have ht4' := Lib.hid ht4; have m22 : ¬ 9223372036854775807 < t1.size + t2.size + t3.size + 1 + t4.size := (by omega); have m23 : ¬ 9223372036854775807 < x.size + 1 + (t1.size + t2.size + t3.size + 1 + t4.size) := (by omega); clear ht4))
        clear hW0 hT0 hK hwA hwB hwC hstA hstB hstC hstD hTA hTB hTC m10 m13 m14 m22 m23 hBx hAx e0 e1 e2 e3 e4 e5 c0 c1 c2 c3 c4 c5 ek
        have hst9 := hst.trans hTD
        clear hTD hst
        go_wp2_with fail
        go_roundw
        case rel =>
          obtain ⟨a, v, b, ea, ha, hv, hb', _⟩ := ht4'.out
          have h1 := hss.out
          have h2 := hzs.out
          have h3 := heft_pos y
          refine ⟨_, e ++ 44 :: (L t1 ++ L t2 ++ L t3 ++ 58 :: (a ++ v ++ b)), j + 1, q5, by omega, by omega, rfl, by go_num, ?_, Or.inr ⟨by omega, Mems.snoc _ _ _ _ _ _ _ _ he'.out ht1'.out ht2'.out ht3'.out ha hv hb'⟩, ?_, ?_, by omega, by rw [hsn.out, hzn.out]; push_cast; omega, hwD, hst9⟩
          · show L _ = _
            simp only [L_cat, hx.out, ea]; simp [L]
          · rw [hsn.out, hzn.out]; simp only [List.length_append, List.length_cons, L_len]; rw [← L_len t4, ea] at ht4s; simp only [List.length_append] at ht4s; omega
          · have h5 := L_len t4; rw [ea] at h5; simp only [List.length_append] at h5; simp only [cat_size, List.length_append, List.length_cons, L_len]; have := hxs'.out; rw [show (({ data := #[58] } : ByteArray)).size = 1 from rfl]; rw [show (({ data := #[44] } : ByteArray)).size = 1 from rfl]; omega
        case measure => simp [intOf]; omega
      · have he' : Hid (e = []) := by
          rcases he.out with ⟨_, h0⟩ | ⟨h1, _⟩
          · exact h0
          · omega
        have hxb : x.size ≤ 1000000 := by omega
        have hxs' := Lib.hid hxs
        clear hxs
        have hJ0 : (0 : Int) ≤ (j : Int) := by omega
        have hJ1 : (j : Int) < (l.length : Int) := by omega
        have hJ2 : (j : Int) < (ks.length : Int) := by omega
        have hzsz : z.size ≤ 1000 := by have := hzs.out; omega
        have hyh : y.heft ≤ 1000 ∧ q + 3 + 5 * (z.size : Int) + 10 * (y.heft : Int) ≤ 4611686010000000000 ∧ V.hefts (l.take j) + y.heft ≤ 1000 := by have := hss.out; have := hzs.out; omega
        obtain ⟨hyh1, hyh2, hyh3⟩ := hyh
        have hgood := HG.out y hym.out
        have hK : Hid (∀ w' : World, Step g wr w' → w'.cell? ⟨w.heap.size, 4, none⟩ = some (.slice (some ad) l.length ca) ∧ w'.cell? ⟨w.heap.size, 5, none⟩ = some (.slice (some ak) ks.length cb) ∧ w'.cell? (ak.add j) = some (.string z) ∧ w'.cell? (ad.add (j * 6)) = some (.int .i64 y.kind) ∧ w'.cell? ⟨(ad.add (j * 6)).block, (ad.add (j * 6)).off + 1, none⟩ = some (.int .i64 y.n) ∧ w'.cell? ⟨(ad.add (j * 6)).block, (ad.add (j * 6)).off + 2, none⟩ = some (.float .f64 y.f) ∧ w'.cell? ⟨(ad.add (j * 6)).block, (ad.add (j * 6)).off + 3, none⟩ = some (.string y.s) ∧ w'.cell? ⟨(ad.add (j * 6)).block, (ad.add (j * 6)).off + 4, none⟩ = some (.slice Ai y.l.length ci) ∧ w'.cell? ⟨(ad.add (j * 6)).block, (ad.add (j * 6)).off + 5, none⟩ = some (.slice Bi y.keys.length di)) := fun w' h' => by
          have h1 : w.heap.size ≠ g := by omega
          have h2 : (ad.add (j * 6)).block ≠ g := by rw [add_block]; exact hok _ had
          have h3 : (ak.add j).block ≠ g := by rw [add_block]; exact hok _ hak
          exact ⟨h'.cell c4 h1, h'.cell c5 h1, h'.cell ek h3, h'.cell e0 h2, h'.cell e1 h2, h'.cell e2 h2, h'.cell e3 h2, h'.cell e4 h2, h'.cell e5 h2⟩
        have hW0 := hw.drew
        have hT0 := Step.drew1 g wr
        have hok' := Lib.hid hok
        have hss' := hss
        have tok1 : True := trivial
        go_wp2_with fail
        go_region_held3 (fun w' => w'.cell? ⟨w.heap.size, 4, none⟩ = some (.slice (some ad) l.length ca) ∧ w'.cell? ⟨w.heap.size, 5, none⟩ = some (.slice (some ak) ks.length cb) ∧ w'.cell? (ak.add j) = some (.string z) ∧ w'.cell? (ad.add (j * 6)) = some (.int .i64 y.kind) ∧ w'.cell? ⟨(ad.add (j * 6)).block, (ad.add (j * 6)).off + 1, none⟩ = some (.int .i64 y.n) ∧ w'.cell? ⟨(ad.add (j * 6)).block, (ad.add (j * 6)).off + 2, none⟩ = some (.float .f64 y.f) ∧ w'.cell? ⟨(ad.add (j * 6)).block, (ad.add (j * 6)).off + 3, none⟩ = some (.string y.s) ∧ w'.cell? ⟨(ad.add (j * 6)).block, (ad.add (j * 6)).off + 4, none⟩ = some (.slice Ai y.l.length ci) ∧ w'.cell? ⟨(ad.add (j * 6)).block, (ad.add (j * 6)).off + 5, none⟩ = some (.slice Bi y.keys.length di)) (first | go_keep | exact hK.out _ (by assumption)) (first | (go_at_call 16; have _t := tok1; refine (wblank_any _ g A' n k _ (by assumption) (by omega)).mono ?_; rintro e w2 ⟨v, q2, rfl, ⟨t1, rfl, ht1, ht1l⟩, hqa, hqb, hwA, hstA⟩; have hTA := hT0.trans hstA; have ht1s : t1.size ≤ 2 := (by rw [← L_len]; exact ht1l); have ht1' := Lib.hid ht1; clear tok1 ht1 ht1l) | (go_at_call 18; refine (word_any _ g A' n k _ z (by assumption) (by omega) (by omega)).mono ?_; rintro e w3 ⟨v, q3, rfl, ⟨t2, rfl, ht2⟩, hqc, hqd, hwB, hstB⟩; have hTB := hTA.trans hstB; have ht2s : t2.size ≤ 6 * z.size + 2 := word_size ht2; have ht2' := Lib.hid ht2; have m10 : ¬ 9223372036854775807 < t1.size + t2.size := (by omega); clear ht2) | (go_at_call 16; refine (wblank_any _ g A' n k _ hwB (by omega)).mono ?_; rintro e w4 ⟨v, q4, rfl, ⟨t3, rfl, ht3, ht3l⟩, hqe, hqf, hwC, hstC⟩; have hTC := hTB.trans hstC; have ht3s : t3.size ≤ 2 := (by rw [← L_len]; exact ht3l); have ht3' := Lib.hid ht3; have m13 : ¬ 9223372036854775807 < t1.size + t2.size + t3.size := (by omega); have m14 : ¬ 9223372036854775807 < t1.size + t2.size + t3.size + 1 := (by omega); clear ht3 ht3l) | (go_at_call 8; refine (IH.out y hym.out Ai Bi ci di _ g A' n k _ hbx (by exact hBx.stp hTC hok'.out) (by exact hAx.stp hTC hok'.out) hok'.out hwC (by omega) (by omega) hgood).mono ?_; rintro e w5 ⟨v, q5, rfl, ⟨t4, rfl, ht4⟩, hqg, hqh, hwD, hstD⟩; have hTD := hTC.trans hstD; have ht4s : t4.size ≤ 40 * y.heft - 10 := spoken_size ht4; have ht4' := Lib.hid ht4; have m22 : ¬ 9223372036854775807 < t1.size + t2.size + t3.size + 1 + t4.size := (by omega); have m23 : ¬ 9223372036854775807 < x.size + (t1.size + t2.size + t3.size + 1 + t4.size) := (by omega); clear ht4))
        clear hW0 hT0 hK hwA hwB hwC hstA hstB hstC hstD hTA hTB hTC m10 m13 m14 m22 m23 hBx hAx e0 e1 e2 e3 e4 e5 c0 c1 c2 c3 c4 c5 ek
        have hst9 := hst.trans hTD
        clear hTD hst
        go_wp2_with fail
        go_roundw
        case rel =>
          obtain ⟨a, v, b, ea, ha, hv, hb', _⟩ := ht4'.out
          have h1 := hss.out
          have h2 := hzs.out
          have h3 := heft_pos y
          refine ⟨_, L t1 ++ L t2 ++ L t3 ++ 58 :: (a ++ v ++ b), j + 1, q5, by omega, by omega, rfl, by go_num, ?_, Or.inr ⟨by omega, Mems.one _ _ _ _ _ _ _ ht1'.out ht2'.out ht3'.out ha hv hb'⟩, ?_, ?_, by omega, by rw [hsn.out, hzn.out]; push_cast; omega, hwD, hst9⟩
          · show L _ = _
            simp only [L_cat, hx.out, ea, he'.out]; simp [L]
          · rw [hsn.out, hzn.out]; simp only [List.length_append, List.length_cons, L_len]; rw [← L_len t4, ea] at ht4s; simp only [List.length_append] at ht4s; omega
          · have h5 := L_len t4; rw [ea] at h5; simp only [List.length_append] at h5; simp only [cat_size, List.length_append, List.length_cons, L_len]; have := hxs'.out; simp only [he'.out, List.length_nil] at this; rw [show (({ data := #[58] } : ByteArray)).size = 1 from rfl]; omega
        case measure => simp [intOf]; omega
    · have hfl : Hid (j = l.length ∨ j = ks.length) := by show _ ∨ _; omega
      have hval : Hid (Val (123 :: (e ++ [125]))) := by
        rcases he.out with ⟨_, h0⟩ | ⟨_, h1⟩
        · subst h0; exact Val.obj0 [] (by intro b hb; simp at hb)
        · exact Val.obj _ h1
      by_cases hlt : j < l.length
      · have hltk : ¬ j < ks.length := fun h => hcont ⟨hlt, h⟩
        have hl0 : 0 < l.length := by omega
        clear hcont
        go_wp2_with fail
        refine (wblank_any _ g A' n k q hw (by omega)).mono ?_
        rintro e9 w9 ⟨v, q9, rfl, ⟨s9, rfl, hs9, hs9l⟩, hq9, hq9', hw9, hst9⟩
        have hsz9 : s9.size ≤ 2 := by rw [← L_len]; exact hs9l
        have hs9' := Lib.hid hs9
        have hS9 := hS.trans hst9
        clear hs9 hs9l hst9
        go_wp2_with fail
        go_ret
        refine ⟨_, q9, rfl, ⟨_, rfl, L s0, 123 :: (e ++ [125]), L s9, ?_, hs0'.out, hval.out, hs9'.out, fun _ => Or.inr rfl, ?_⟩, by omega, by omega, hw9, hS9⟩
        · rw [L_cat, L_cat, hx.out]; simp [L]
        · rw [L_cat, List.length_append, L_len, L_len, cat2]; omega
      · have hj' : j = l.length := by omega
        clear hcont
        subst hj'
        by_cases hl0 : 0 < l.length
        · go_wp2_with fail
          refine (wblank_any _ g A' n k q hw (by omega)).mono ?_
          rintro e9 w9 ⟨v, q9, rfl, ⟨s9, rfl, hs9, hs9l⟩, hq9, hq9', hw9, hst9⟩
          have hsz9 : s9.size ≤ 2 := by rw [← L_len]; exact hs9l
          have hs9' := Lib.hid hs9
          have hS9 := hS.trans hst9
          clear hs9 hs9l hst9
          go_wp2_with fail
          go_ret
          refine ⟨_, q9, rfl, ⟨_, rfl, L s0, 123 :: (e ++ [125]), L s9, ?_, hs0'.out, hval.out, hs9'.out, fun _ => Or.inr rfl, ?_⟩, by omega, by omega, hw9, hS9⟩
          · rw [L_cat, L_cat, hx.out]; simp [L]
          · rw [L_cat, List.length_append, L_len, L_len, cat2]; omega
        · have he' : Hid (e = []) := by
            rcases he.out with ⟨_, h0⟩ | ⟨h1, _⟩
            · exact h0
            · omega
          have hl1 : l = [] := by cases l with | nil => rfl | cons x r => simp at hl0
          subst hl1
          go_wp2_with fail
          refine (wblank_any _ g A' n k q hw (by omega)).mono ?_
          rintro e8 w8 ⟨v, q8, rfl, ⟨s8, rfl, hs8, hs8l⟩, hq8, hq8', hw8, hst8⟩
          have hsz8 : s8.size ≤ 2 := by rw [← L_len]; exact hs8l
          have hs8' := Lib.hid hs8
          have hS8 := hS.trans hst8
          clear hs8 hs8l hst8
          go_wp2_with fail
          refine (wblank_any _ g A' n k q8 hw8 (by omega)).mono ?_
          rintro e9 w9 ⟨v, q9, rfl, ⟨s9, rfl, hs9, hs9l⟩, hq9, hq9', hw9, hst9⟩
          have hsz9 : s9.size ≤ 2 := by rw [← L_len]; exact hs9l
          have hs9' := Lib.hid hs9
          have hS9 := hS8.trans hst9
          clear hs9 hs9l hst9
          go_wp2_with fail
          go_ret
          refine ⟨_, q9, rfl, ⟨_, rfl, L s0, 123 :: (L s8 ++ [125]), L s9, ?_, hs0'.out, Val.obj0 _ hs8'.out, hs9'.out, fun _ => Or.inr rfl, ?_⟩, by omega, by omega, hw9, hS9⟩
          · rw [L_cat, L_cat, L_cat, hx.out, he'.out]; simp [L]
          · rw [L_cat, List.length_append, L_len, L_len, cat2, cat_size]; omega

theorem say_any (v : V) : SayAt v := by
  induction v using V.ind with
  | h v ih =>
  intro ok A B ca cb w g A' n k p hb hB hA hok h hp hh hg
  rw [V.good_eq] at hg
  obtain ⟨hk, hgs⟩ := hg
  obtain ⟨kd, nn, f, s, l, ks⟩ := v
  dsimp only at hk hgs
  rcases hk with rfl | rfl | rfl | rfl | rfl | rfl
  · exact say_scalar 1 nn f s l ks w g A' n k p A B ca cb hb h hp hh (by decide)
  · exact say_scalar 2 nn f s l ks w g A' n k p A B ca cb hb h hp hh (by decide)
  · exact say_scalar 3 nn f s l ks w g A' n k p A B ca cb hb h hp hh (by decide)
  · exact say_scalar 5 nn f s l ks w g A' n k p A B ca cb hb h hp hh (by decide)
  · exact say_arr nn f s l ks ih A B ca cb w g A' n k p hb hB hA hok h hp hh hgs
  · exact say_obj nn f s l ks ih A B ca cb w g A' n k p hb hB hA hok h hp hh hgs
end Go.Proofs.Ytlebdceidmkddaa
