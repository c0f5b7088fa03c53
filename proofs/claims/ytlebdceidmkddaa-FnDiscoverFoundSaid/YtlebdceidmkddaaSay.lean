/-
  say: the texts that a tree of known kinds is said as. Conditions: none.
-/
import Derived.Test.YtlebdceidmkddaaWord
import Derived.Test.YtlebdceidmkddaaSmall
namespace Go.Proofs.Ytlebdceidmkddaa
open Go.ChangeShapes Go.WideShapes Go.ChangeAt Go.RowKit
set_option linter.unusedVariables false

def Blk (l : List UInt8) : Prop := ∀ b ∈ l, blankB b
/-- A byte of a number or of a word such as null. -/
def atomB (b : UInt8) : Prop := b.toNat = 45 ∨ 48 ≤ b.toNat ∧ b.toNat ≤ 57 ∨ 97 ≤ b.toNat ∧ b.toNat ≤ 122

/- The texts of values, of elements, of members. -/
mutual
inductive Val : List UInt8 → Prop
  | atom (l : List UInt8) : l ≠ [] → (∀ b ∈ l, atomB b) → Val l
  | word (m : Nat) (l : List UInt8) : Word m l → Val l
  | arr0 (b : List UInt8) : Blk b → Val (91 :: (b ++ [93]))
  | arr (e : List UInt8) : Els e → Val (91 :: (e ++ [93]))
  | obj0 (b : List UInt8) : Blk b → Val (123 :: (b ++ [125]))
  | obj (e : List UInt8) : Mems e → Val (123 :: (e ++ [125]))
inductive Els : List UInt8 → Prop
  | one (a v b : List UInt8) : Blk a → Val v → Blk b → Els (a ++ v ++ b)
  | snoc (e a v b : List UInt8) : Els e → Blk a → Val v → Blk b → Els (e ++ 44 :: (a ++ v ++ b))
inductive Mems : List UInt8 → Prop
  | one (a k b c v d : List UInt8) (m : Nat) : Blk a → Word m k → Blk b → Blk c → Val v → Blk d → Mems (a ++ k ++ b ++ 58 :: (c ++ v ++ d))
  | snoc (e a k b c v d : List UInt8) (m : Nat) : Mems e → Blk a → Word m k → Blk b → Blk c → Val v → Blk d → Mems (e ++ 44 :: (a ++ k ++ b ++ 58 :: (c ++ v ++ d)))
end
/-- A value's text with blanks at its ends, of at most so many bytes; an array's or an object's, where d says so. -/
def Spoken (d : Prop) (m : Nat) (l : List UInt8) : Prop := ∃ a v b, l = a ++ v ++ b ∧ Blk a ∧ Val v ∧ Blk b ∧ (d → v.head? = some 91 ∨ v.head? = some 123) ∧ l.length ≤ m

theorem boxedS {w wr : World} {v : V} {A : Option Addr} {ca : Nat} {B : Option Addr} {cb g : Nat} (h : Step g (w.alloc (valObj v A ca B cb)) wr) (hg : g < w.heap.size) : Box wr w.heap.size v A ca B cb ∧ Step g w wr := by
  have hc : ∀ j, wr.cell? ⟨w.heap.size, j, none⟩ = _ := fun j => (cell_same ⟨w.heap.size, j, none⟩ (h.block w.heap.size (by simp) (by omega))).trans (cells_new w _ _ j)
  exact ⟨⟨hc 0, hc 1, hc 2, hc 3, hc 4, hc 5⟩, (Step.of ((Below.refl _ _).alloc (Nat.le_refl _) _)).trans h⟩
theorem Vals.stp {ok : Nat → Prop} {w w1 : World} {A : Option Addr} {l : List V} {g : Nat} (h : Vals ok w A l) (hs : Step g w w1) (hok : ∀ k, ok k → k ≠ g) : Vals ok w1 A l :=
  (h.lt.move (fun k hk => hs.block k hk.2 (hok k hk.1))).mono (fun _ hk => hk.1)
theorem Strs.stp {ok : Nat → Prop} {w w1 : World} {A : Option Addr} {l : List ByteArray} {g : Nat} (h : Strs ok w A l) (hs : Step g w w1) (hok : ∀ k, ok k → k ≠ g) : Strs ok w1 A l :=
  (h.lt.move (fun k hk => hs.block k hk.2 (hok k hk.1))).mono (fun _ hk => hk.1)

set_option maxHeartbeats 2000000 in
theorem say_scalar (kd nn : Int) (f : Nat) (s : ByteArray) (l : List V) (ks : List ByteArray) (w : World) (g : Nat) (A' : Option Addr) (n k : Nat) (p : Int) (A B : Option Addr) (ca cb : Nat) (hb : Bds ⟨kd, nn, f, s, l, ks⟩ ca cb) (h : Ways w g A' n k p) (hp : p + 10 * ((V.mk kd nn f s l ks).heft : Int) ≤ 4611686010000000000)
    (hh : (V.mk kd nn f s l ks).heft ≤ 1000) (hk : kd = 1 ∨ kd = 2 ∨ kd = 3 ∨ kd = 5) :
    Calls Try.prog 8 #[.pointer (some ⟨g, 0, none⟩), .agg #[.int .i64 kd, .int .i64 nn, .float .f64 f, .string s, .slice A l.length ca, .slice B ks.length cb]] w
      (Moved (IsStr (Spoken (kd = 7 ∨ kd = 8) (40 * (V.mk kd nn f s l ks).heft - 10))) g A' n k p (10 * ((V.mk kd nn f s l ks).heft : Int) - 3) w) := by
  have hhe := V.heft_eq ⟨kd, nn, f, s, l, ks⟩
  generalize (V.mk kd nn f s l ks).heft = H at *
  dsimp only at hhe
  have hss : s.size ≤ 1000 := by omega
  have hH : 1 + s.size ≤ H := by omega
  have hhe' := Lib.hid hhe
  obtain ⟨_, hn64, hf, hs, _, _, _, _, hla, hlb⟩ := hb
  dsimp only at hn64
  clear hhe
  have hg := blk_lt h.blk
  rcases hk with rfl | rfl | rfl | rfl
  rotate_left
  rcases Decidable.em (nn = 1) with rfl | h1
  all_goals
    go_enter Try.func8, Try.ntmps8
    go_wp2_with fail
    refine (wblank_any _ g A' n k p (h.bel ((Below.refl _ _).alloc (Nat.le_refl _) _)) (by omega)).mono ?_
    rintro e w1 ⟨v, q1, rfl, ⟨s0, rfl, hs0, hs0l⟩, hq1, hq1', hw1, hst1⟩
    have hsz0 : s0.size ≤ 2 := by rw [← L_len]; exact hs0l
    have hS1 := (Step.of (g := g) ((Below.refl w.heap.size w).alloc (Nat.le_refl _) _)).trans hst1
    have hs0' := Lib.hid hs0
    have hbx := (boxedS (v := V.mk _ _ f s l ks) (A := A) (ca := ca) (B := B) (cb := cb) hst1 hg).1
    have hc0 := hbx.c0
    have hc1 := hbx.c1
    have hc3 := hbx.c3
    dsimp only at hc0 hc1 hc3
    clear hbx
    clear hs0 hs0l hst1
    go_wp2_with fail
  · clear hn64
    all_goals
      refine (wblank_any _ g A' n k q1 hw1 (by omega)).mono ?_
      rintro e w9 ⟨v, q9, rfl, ⟨s9, rfl, hs9, hs9l⟩, hq9, hq9', hw9, hst9⟩
      have hsz9 : s9.size ≤ 2 := by rw [← L_len]; exact hs9l
      have hs9' := Lib.hid hs9
      have hS9 := hS1.trans hst9
      clear hs9 hs9l hst9
      go_wp2_with fail
      go_ret
      exact ⟨_, q9, rfl, ⟨_, rfl, L s0, L ⟨#[116, 114, 117, 101]⟩, L s9, by rw [L_cat, L_cat], hs0'.out, Val.atom _ (by simp [L]) (by simp [L, atomB]), hs9'.out, fun h => absurd h (by decide), by simp only [L_cat, List.length_append, L_len]; have : (⟨#[116, 114, 117, 101]⟩ : ByteArray).size ≤ 5 := (by decide); omega⟩, by omega, by omega, hw9, hS9⟩
  · clear hn64
    all_goals
      refine (wblank_any _ g A' n k q1 hw1 (by omega)).mono ?_
      rintro e w9 ⟨v, q9, rfl, ⟨s9, rfl, hs9, hs9l⟩, hq9, hq9', hw9, hst9⟩
      have hsz9 : s9.size ≤ 2 := by rw [← L_len]; exact hs9l
      have hs9' := Lib.hid hs9
      have hS9 := hS1.trans hst9
      clear hs9 hs9l hst9
      go_wp2_with fail
      go_ret
      exact ⟨_, q9, rfl, ⟨_, rfl, L s0, L ⟨#[102, 97, 108, 115, 101]⟩, L s9, by rw [L_cat, L_cat], hs0'.out, Val.atom _ (by simp [L]) (by simp [L, atomB]), hs9'.out, fun h => absurd h (by decide), by simp only [L_cat, List.length_append, L_len]; have : (⟨#[102, 97, 108, 115, 101]⟩ : ByteArray).size ≤ 5 := (by decide); omega⟩, by omega, by omega, hw9, hS9⟩
  · refine (digits_any nn _ hn64).mono ?_
    rintro e w2 ⟨t, rfl, ⟨ht1, ht2, ht3⟩, hb2⟩
    have ht1' := Lib.hid ht1
    have ht2' := Lib.hid ht2
    have hS2 := hS1.trans (Step.of (g := g) hb2)
    have hw2 := hw1.bel hb2
    clear ht1 ht2 hc0 hc1 hc3 hb2
    go_wp2_with fail
    all_goals
      refine (wblank_any _ g A' n k q1 hw2 (by omega)).mono ?_
      rintro e w9 ⟨v, q9, rfl, ⟨s9, rfl, hs9, hs9l⟩, hq9, hq9', hw9, hst9⟩
      have hsz9 : s9.size ≤ 2 := by rw [← L_len]; exact hs9l
      have hs9' := Lib.hid hs9
      have hS9 := hS2.trans hst9
      clear hs9 hs9l hst9
      go_wp2_with fail
      go_ret
      exact ⟨_, q9, rfl, ⟨_, rfl, L s0, L t, L s9, by rw [L_cat, L_cat], hs0'.out, Val.atom _ ht1'.out (fun b hb => by have := ht2'.out b hb; unfold atomB; omega), hs9'.out, fun h => absurd h (by decide), by simp only [L_cat, List.length_append, L_len]; omega⟩, by omega, by omega, hw9, hS9⟩
  · refine (word_any _ g A' n k q1 s hw1 (by omega) (by omega)).mono ?_
    rintro e w2 ⟨v, q2, rfl, ⟨t, rfl, ht⟩, hq2, hq2', hw2, hst2⟩
    have hts : t.size ≤ 6 * s.size + 2 := by
      obtain ⟨body, e1, _, e2⟩ := ht
      rw [← L_len, e1]; simp; omega
    have ht' := Lib.hid ht
    have hS2 := hS1.trans hst2
    clear ht hc0 hc1 hc3 hst2
    go_wp2_with fail
    all_goals
      refine (wblank_any _ g A' n k q2 hw2 (by omega)).mono ?_
      rintro e w9 ⟨v, q9, rfl, ⟨s9, rfl, hs9, hs9l⟩, hq9, hq9', hw9, hst9⟩
      have hsz9 : s9.size ≤ 2 := by rw [← L_len]; exact hs9l
      have hs9' := Lib.hid hs9
      have hS9 := hS2.trans hst9
      clear hs9 hs9l hst9
      go_wp2_with fail
      go_ret
      exact ⟨_, q9, rfl, ⟨_, rfl, L s0, L t, L s9, by rw [L_cat, L_cat], hs0'.out, Val.word _ _ ht'.out, hs9'.out, fun h => absurd h (by decide), by simp only [L_cat, List.length_append, L_len]; omega⟩, by omega, by omega, hw9, hS9⟩
  · clear hn64
    all_goals
      refine (wblank_any _ g A' n k q1 hw1 (by omega)).mono ?_
      rintro e w9 ⟨v, q9, rfl, ⟨s9, rfl, hs9, hs9l⟩, hq9, hq9', hw9, hst9⟩
      have hsz9 : s9.size ≤ 2 := by rw [← L_len]; exact hs9l
      have hs9' := Lib.hid hs9
      have hS9 := hS1.trans hst9
      clear hs9 hs9l hst9
      go_wp2_with fail
      go_ret
      exact ⟨_, q9, rfl, ⟨_, rfl, L s0, L ⟨#[110, 117, 108, 108]⟩, L s9, by rw [L_cat, L_cat], hs0'.out, Val.atom _ (by simp [L]) (by simp [L, atomB]), hs9'.out, fun h => absurd h (by decide), by simp only [L_cat, List.length_append, L_len]; have : (⟨#[110, 117, 108, 108]⟩ : ByteArray).size ≤ 5 := (by decide); omega⟩, by omega, by omega, hw9, hS9⟩
end Go.Proofs.Ytlebdceidmkddaa
