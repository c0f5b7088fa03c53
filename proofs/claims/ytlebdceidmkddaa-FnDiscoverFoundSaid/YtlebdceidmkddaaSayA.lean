/-
  say, of an array. Conditions: none.
-/
import Derived.Test.YtlebdceidmkddaaSay
namespace Go.Proofs.Ytlebdceidmkddaa
open Go.ChangeShapes Go.WideShapes Go.ChangeAt Go.RowKit
set_option linter.unusedVariables false

/-- say's contract at a tree. -/
def SayAt (x : V) : Prop := ∀ {ok : Nat → Prop} (A B : Option Addr) (ca cb : Nat) (w : World) (g : Nat) (A' : Option Addr) (n k : Nat) (p : Int), Bds x ca cb → Strs ok w B x.keys → Vals ok w A x.l → (∀ i, ok i → i ≠ g) →
  Ways w g A' n k p → p + 10 * (x.heft : Int) ≤ 4611686010000000000 → x.heft ≤ 1000 → x.Good →
  Calls Try.prog 8 #[.pointer (some ⟨g, 0, none⟩), .agg #[.int .i64 x.kind, .int .i64 x.n, .float .f64 x.f, .string x.s, .slice A x.l.length ca, .slice B x.keys.length cb]] w
    (Moved (IsStr (Spoken (x.kind = 7 ∨ x.kind = 8) (40 * x.heft - 10))) g A' n k p (10 * (x.heft : Int) - 3) w)

/-- What has been said of an array's elements. -/
def ElsTo (j : Nat) (e : List UInt8) : Prop := j = 0 ∧ e = [] ∨ 0 < j ∧ Els e

set_option maxHeartbeats 2000000 in
theorem say_arr (nn : Int) (f : Nat) (s : ByteArray) (l : List V) (ks : List ByteArray) (ih : ∀ x ∈ l, SayAt x) {ok : Nat → Prop} (A B : Option Addr) (ca cb : Nat) (w : World) (g : Nat) (A' : Option Addr) (n k : Nat) (p : Int)
    (hb : Bds ⟨7, nn, f, s, l, ks⟩ ca cb) (hB : Strs ok w B ks) (hA : Vals ok w A l) (hok : ∀ i, ok i → i ≠ g) (h : Ways w g A' n k p) (hp : p + 10 * ((V.mk 7 nn f s l ks).heft : Int) ≤ 4611686010000000000)
    (hh : (V.mk 7 nn f s l ks).heft ≤ 1000) (hgood : V.Goods l) :
    Calls Try.prog 8 #[.pointer (some ⟨g, 0, none⟩), .agg #[.int .i64 7, .int .i64 nn, .float .f64 f, .string s, .slice A l.length ca, .slice B ks.length cb]] w
      (Moved (IsStr (Spoken ((7 : Int) = 7 ∨ (7 : Int) = 8) (40 * (V.mk 7 nn f s l ks).heft - 10))) g A' n k p (10 * ((V.mk 7 nn f s l ks).heft : Int) - 3) w) := by
  have hhe := V.heft_eq ⟨7, nn, f, s, l, ks⟩
  generalize (V.mk 7 nn f s l ks).heft = H at *
  dsimp only at hhe
  have hH : 1 + V.hefts l ≤ H := by omega
  obtain ⟨_, _, _, hs, _, _, _, _, hla, hlb⟩ := hb
  dsimp only at hla
  clear hhe hB
  have hg := blk_lt h.blk
  have IH := Lib.hid ih
  have HG := Lib.hid (goods_mem hgood)
  clear ih hgood
  go_enter Try.func8, Try.ntmps8
  go_wp2_with fail
  refine (wblank_any _ g A' n k p (h.bel ((Below.refl _ _).alloc (Nat.le_refl _) _)) (by omega)).mono ?_
  rintro e w1 ⟨v, q1, rfl, ⟨s0, rfl, hs0, hs0l⟩, hq1, hq1', hw1, hst1⟩
  have hsz0 : s0.size ≤ 2 := by rw [← L_len]; exact hs0l
  have hs0' := Lib.hid hs0
  have hbx := (boxedS (v := V.mk _ _ f s l ks) (A := A) (ca := ca) (B := B) (cb := cb) hst1 hg).1
  obtain ⟨c0, c1, c2, c3, c4, c5⟩ := hbx
  dsimp only at c0 c1 c2 c3 c4 c5
  clear hs0 hs0l
  go_wp2_with fail
  clear c0 c1 c2 c3 c4 c5
  go_loopw [5, 6] (fun o i wr => ∃ (x : ByteArray) (e : List UInt8) (j : Nat) (q : Int), j ≤ l.length ∧ o = .string x ∧ i = .int .i64 j ∧ Hid (L x = L s0 ++ 91 :: e) ∧ Hid (ElsTo j e) ∧ e.length ≤ 40 * V.hefts (l.take j) ∧ x.size = s0.size + 1 + e.length ∧ q1 ≤ q ∧ q ≤ q1 + 10 * (V.hefts (l.take j) : Int) - 2 * j ∧ Ways wr g A' n k q ∧ Step g (w.alloc (valObj ⟨7, nn, f, s, l, ks⟩ A ca B cb)) wr) (fun _ i _ => l.length - (intOf i).toNat)
  case atStart => exact ⟨_, [], 0, q1, by omega, rfl, rfl, by show L (s0 ++ _) = _; rw [L_cat]; rfl, Or.inl ⟨rfl, rfl⟩, by simp, by rw [cat2]; simp, by omega, by simp [V.hefts], hw1, hst1⟩
  case round =>
    clear hst1 hw1
    obtain ⟨x, e, j, q, hj, rfl, rfl, hx, he, hel, hxs, hq2, hq3, hw, hst⟩ := hrel
    obtain ⟨⟨c0, c1, c2, c3, c4, c5⟩, hS⟩ := boxedS hst hg
    dsimp only at c0 c1 c2 c3 c4 c5
    have hle := hefts_take_le l j
    by_cases hlt : j < l.length
    · obtain ⟨y, hy⟩ := get_lt hlt
      have hym := Lib.hid (get_mem hy)
      have hss := Lib.hid (heft_le_hefts hy)
      have hsn := Lib.hid (hefts_snoc hy)
      obtain ⟨ad, Ai, ci, Bi, di, hAe, _, ⟨e0, e1, e2, e3, e4, e5⟩, hbx, hBx, hAx⟩ := (hA.stp hS hok).at_ hy
      subst hAe
      clear hy hA
      by_cases hj0 : 0 < j
      · have he' : Hid (Els e) := by
          rcases he.out with ⟨h0, _⟩ | ⟨_, h1⟩
          · omega
          · exact h1
        go_wp2_with fail
        refine (IH.out y hym.out Ai Bi ci di wr g A' n k q hbx hBx hAx hok hw (by have := hss.out; omega) (by have := hss.out; omega) (HG.out y hym.out)).mono ?_
        rintro e w2 ⟨v, q4, rfl, ⟨t, rfl, ht⟩, hq4, hq5, hw2, hst2⟩
        have htl : t.size ≤ 40 * y.heft - 10 := by obtain ⟨_, _, _, _, _, _, _, _, h9⟩ := ht; rw [← L_len]; exact h9
        have hpos := heft_pos y
        have ht' := Lib.hid ht
        have hst4 := hst.trans hst2
        have hss' := hss.out
        clear ht c0 c1 c2 c3 c4 c5 e0 e1 e2 e3 e4 e5 hst hst2 hS hw
        go_wp2_with fail
        go_roundw
        case rel =>
          obtain ⟨a, v, b, e1, ha, hv, hb', _⟩ := ht'.out
          refine ⟨_, e ++ 44 :: (a ++ v ++ b), j + 1, q4, by omega, rfl, by go_num, ?_, Or.inr ⟨by omega, Els.snoc _ _ _ _ he'.out ha hv hb'⟩, ?_, ?_, by omega, by rw [hsn.out]; push_cast; omega, hw2, hst4⟩
          · show L _ = _
            rw [L_cat, L_cat, hx.out, e1]; simp [L]
          · rw [hsn.out, List.length_append, List.length_cons, ← e1, L_len]; omega
          · rw [cat_size, cat2, List.length_append, List.length_cons, ← e1, L_len]; omega
        case measure => simp [intOf]; omega
      · have he' : Hid (e = []) := by
          rcases he.out with ⟨_, h0⟩ | ⟨h1, _⟩
          · exact h0
          · omega
        go_wp2_with fail
        refine (IH.out y hym.out Ai Bi ci di wr g A' n k q hbx hBx hAx hok hw (by have := hss.out; omega) (by have := hss.out; omega) (HG.out y hym.out)).mono ?_
        rintro e w2 ⟨v, q4, rfl, ⟨t, rfl, ht⟩, hq4, hq5, hw2, hst2⟩
        have htl : t.size ≤ 40 * y.heft - 10 := by obtain ⟨_, _, _, _, _, _, _, _, h9⟩ := ht; rw [← L_len]; exact h9
        have hpos := heft_pos y
        have ht' := Lib.hid ht
        have hst4 := hst.trans hst2
        have hss' := hss.out
        clear ht c0 c1 c2 c3 c4 c5 e0 e1 e2 e3 e4 e5 hst hst2 hS hw
        go_wp2_with fail
        go_roundw
        case rel =>
          obtain ⟨a, v, b, e1, ha, hv, hb', _⟩ := ht'.out
          refine ⟨_, a ++ v ++ b, j + 1, q4, by omega, rfl, by go_num, ?_, Or.inr ⟨by omega, Els.one _ _ _ ha hv hb'⟩, ?_, ?_, by omega, by rw [hsn.out]; push_cast; omega, hw2, hst4⟩
          · show L _ = _
            rw [L_cat, hx.out, he'.out, e1]; simp
          · rw [hsn.out, ← e1, L_len]; omega
          · rw [cat_size, hxs, he'.out, ← e1, L_len]; simp
        case measure => simp [intOf]; omega
    · obtain rfl : j = l.length := by omega
      rw [List.take_length] at hel hq3
      by_cases hl0 : 0 < l.length
      · have he' : Hid (Els e) := by
          rcases he.out with ⟨h0, _⟩ | ⟨_, h1⟩
          · omega
          · exact h1
        go_wp2_with fail
        refine (wblank_any _ g A' n k q hw (by omega)).mono ?_
        rintro e9 w9 ⟨v, q9, rfl, ⟨s9, rfl, hs9, hs9l⟩, hq9, hq9', hw9, hst9⟩
        have hsz9 : s9.size ≤ 2 := by rw [← L_len]; exact hs9l
        have hs9' := Lib.hid hs9
        have hS9 := hS.trans hst9
        clear hs9 hs9l hst9
        go_wp2_with fail
        go_ret
        refine ⟨_, q9, rfl, ⟨_, rfl, L s0, 91 :: (e ++ [93]), L s9, ?_, hs0'.out, Val.arr _ he'.out, hs9'.out, fun _ => Or.inl rfl, ?_⟩, by omega, by omega, hw9, hS9⟩
        · rw [L_cat, L_cat, hx.out]; simp [L]
        · rw [L_cat, List.length_append, L_len, L_len, cat2]; omega
      · have he' : Hid (e = []) := by
          rcases he.out with ⟨_, h0⟩ | ⟨h1, _⟩
          · exact h0
          · omega
        have hl1 : l = [] := by cases l with | nil => rfl | cons x r => simp at hl0
        subst hl1
        go_wp2_with fail
        refine (wblank_any _ g A' n k q hw (by omega)).mono ?_
        rintro e8 w8 ⟨v, q8, rfl, ⟨s8, rfl, hs8, hs8l⟩, hq8, hq8', hw8, hst8⟩
        have hsz8 : s8.size ≤ 2 := by rw [← L_len]; exact hs8l
        have hs8' := Lib.hid hs8
        have hS8 := hS.trans hst8
        clear hs8 hs8l hst8
        go_wp2_with fail
        refine (wblank_any _ g A' n k q8 hw8 (by omega)).mono ?_
        rintro e9 w9 ⟨v, q9, rfl, ⟨s9, rfl, hs9, hs9l⟩, hq9, hq9', hw9, hst9⟩
        have hsz9 : s9.size ≤ 2 := by rw [← L_len]; exact hs9l
        have hs9' := Lib.hid hs9
        have hS9 := hS8.trans hst9
        clear hs9 hs9l hst9
        go_wp2_with fail
        go_ret
        refine ⟨_, q9, rfl, ⟨_, rfl, L s0, 91 :: (L s8 ++ [93]), L s9, ?_, hs0'.out, Val.arr0 _ hs8'.out, hs9'.out, fun _ => Or.inl rfl, ?_⟩, by omega, by omega, hw9, hS9⟩
        · rw [L_cat, L_cat, L_cat, hx.out, he'.out]; simp [L]
        · rw [L_cat, List.length_append, L_len, L_len, cat2, cat_size]; omega
end Go.Proofs.Ytlebdceidmkddaa
