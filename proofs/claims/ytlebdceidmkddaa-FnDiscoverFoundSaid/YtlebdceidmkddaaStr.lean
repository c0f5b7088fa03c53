/-
  hasByte, noneIn, blank, trimmed: what they say of a text's bytes. Conditions: none.
-/
import Derived.Test.YtlebdceidmkddaaBox
import Derived.WalkSpells
namespace Go.Proofs.Ytlebdceidmkddaa
open Go.ChangeShapes Go.WideShapes Go.ChangeAt Go.RowKit
set_option linter.unusedVariables false

/-- A text's bytes. -/
def L (s : ByteArray) : List UInt8 := s.data.toList
theorem L_len (s : ByteArray) : (L s).length = s.size := data_size s
theorem L_get {s : ByteArray} {k : Nat} (h : k < s.size) : (L s)[k]? = some (s[k]'h) := by
  unfold L
  rw [List.getElem?_eq_getElem (by rw [data_size]; exact h)]
  rfl

set_option maxHeartbeats 400000 in
theorem hasByte_any (s : ByteArray) (c : Int) (w : World) (hs : s.size ≤ 9223372036854775807) :
    Calls Try.prog 9 #[.string s, .int .u8 c] w
      (SomeBool (fun r => r = false → ∀ b ∈ L s, (b.toNat : Int) ≠ c) w) := by
  go_enter Try.func9, Try.ntmps9
  go_wp2
  go_loop [5] (fun i => ∃ k : Nat, k ≤ s.size ∧ i = .int .i64 k ∧ Hid (∀ b ∈ (L s).take k, (b.toNat : Int) ≠ c)) (fun i => s.size - (intOf i).toNat)
  case atStart => exact ⟨0, Nat.zero_le _, rfl, by simp [Hid]⟩
  case round =>
    obtain ⟨k, hk, rfl, hh⟩ := hrel
    by_cases hlt : k < s.size
    · have hg := Lib.hid (L_get hlt)
      by_cases heq : ((s[k]'hlt).toNat : Int) = c
      · go_wp2
        go_ret
        exact ⟨true, rfl, fun h => (by cases h), Below.refl _ _⟩
      · have heq' := Lib.hid heq
        have hh' : Hid (∀ b ∈ (L s).take (k + 1), (b.toNat : Int) ≠ c) := by
          show ∀ b ∈ _, _
          rw [take_get hg.out]
          intro b hb
          rcases List.mem_append.1 hb with hb | hb
          · exact hh.out b hb
          · rw [List.mem_singleton.1 hb]; exact heq'.out
        go_wp2
        go_round
        case rel => exact ⟨k + 1, by omega, by go_num, hh'⟩
        case measure => simp [intOf]; omega
    · have hfin := hh.out
      rw [take_all (by rw [L_len]; exact hlt)] at hfin
      have hfin' := Lib.hid hfin
      clear hfin hh
      go_wp2
      go_ret
      exact ⟨false, rfl, fun _ => hfin'.out, Below.refl _ _⟩

/-- None of the bytes that noneIn bars. -/
def plainB (b : UInt8) : Prop := b.toNat ≠ 91 ∧ b.toNat ≠ 93 ∧ b.toNat ≠ 123 ∧ b.toNat ≠ 125 ∧ b.toNat ≠ 34 ∧ b.toNat ≠ 39 ∧ b.toNat ≠ 92 ∧ b.toNat ≠ 47 ∧ b.toNat ≠ 96

set_option maxHeartbeats 1000000 in
theorem noneIn_any (s : ByteArray) (w : World) (hs : s.size ≤ 9223372036854775807) :
    Calls Try.prog 6 #[.string s] w
      (SomeBool (fun r => r = true → ∀ b ∈ L s, plainB b) w) := by
  go_enter Try.func6, Try.ntmps6
  go_wp2
  go_loop [3] (fun i => ∃ k : Nat, k ≤ s.size ∧ i = .int .i64 k ∧ Hid (∀ b ∈ (L s).take k, plainB b)) (fun i => s.size - (intOf i).toNat)
  case atStart => exact ⟨0, Nat.zero_le _, rfl, by simp [Hid]⟩
  case round =>
    obtain ⟨k, hk, rfl, hh⟩ := hrel
    by_cases hlt : k < s.size
    · have hg := Lib.hid (L_get hlt)
      by_cases hp : plainB (s[k]'hlt)
      · have hh' : Hid (∀ b ∈ (L s).take (k + 1), plainB b) := by
          show ∀ b ∈ _, _
          rw [take_get hg.out]
          intro b hb
          rcases List.mem_append.1 hb with hb | hb
          · exact hh.out b hb
          · rw [List.mem_singleton.1 hb]; exact hp
        obtain ⟨p1, p2, p3, p4, p5, p6, p7, p8, p9⟩ := hp
        have q1 : ¬ ((s[k]'hlt).toNat : Int) = 91 := by omega
        have q2 : ¬ ((s[k]'hlt).toNat : Int) = 93 := by omega
        have q3 : ¬ ((s[k]'hlt).toNat : Int) = 123 := by omega
        have q4 : ¬ ((s[k]'hlt).toNat : Int) = 125 := by omega
        have q5 : ¬ ((s[k]'hlt).toNat : Int) = 34 := by omega
        have q6 : ¬ ((s[k]'hlt).toNat : Int) = 39 := by omega
        have q7 : ¬ ((s[k]'hlt).toNat : Int) = 92 := by omega
        have q8 : ¬ ((s[k]'hlt).toNat : Int) = 47 := by omega
        have q9 : ¬ ((s[k]'hlt).toNat : Int) = 96 := by omega
        clear p1 p2 p3 p4 p5 p6 p7 p8 p9 hh hg
        go_wp2
        go_round
        case rel => exact ⟨k + 1, by omega, by go_num, hh'⟩
        case measure => simp [intOf]; omega
      · have hq : ((s[k]'hlt).toNat : Int) = 91 ∨ ((s[k]'hlt).toNat : Int) = 93 ∨ ((s[k]'hlt).toNat : Int) = 123 ∨ ((s[k]'hlt).toNat : Int) = 125 ∨ ((s[k]'hlt).toNat : Int) = 34 ∨ ((s[k]'hlt).toNat : Int) = 39 ∨ ((s[k]'hlt).toNat : Int) = 92 ∨ ((s[k]'hlt).toNat : Int) = 47 ∨ ((s[k]'hlt).toNat : Int) = 96 := by
          unfold plainB at hp; omega
        clear hp hh hg
        rcases hq with q | q | q | q | q | q | q | q | q
        all_goals
          go_wp2
          go_ret
          exact ⟨false, rfl, fun h => (by cases h), Below.refl _ _⟩
    · have hfin := hh.out
      rw [take_all (by rw [L_len]; exact hlt)] at hfin
      have hfin' := Lib.hid hfin
      clear hfin hh
      go_wp2
      go_ret
      exact ⟨true, rfl, fun _ => hfin'.out, Below.refl _ _⟩

/-- A blank. -/
def blankB (b : UInt8) : Prop := b.toNat = 32 ∨ b.toNat = 10 ∨ b.toNat = 9 ∨ b.toNat = 13

set_option maxHeartbeats 1000000 in
theorem blank_any (s : ByteArray) (w : World) (hs : s.size ≤ 9223372036854775807) :
    Calls Try.prog 15 #[.string s] w
      (SomeBool (fun r => (r = true ↔ ∀ b ∈ L s, blankB b)) w) := by
  go_enter Try.func15, Try.ntmps15
  go_wp2
  go_loop [3] (fun i => ∃ k : Nat, k ≤ s.size ∧ i = .int .i64 k ∧ Hid (∀ b ∈ (L s).take k, blankB b)) (fun i => s.size - (intOf i).toNat)
  case atStart => exact ⟨0, Nat.zero_le _, rfl, by simp [Hid]⟩
  case round =>
    obtain ⟨k, hk, rfl, hh⟩ := hrel
    by_cases hlt : k < s.size
    · have hg := Lib.hid (L_get hlt)
      by_cases hp : blankB (s[k]'hlt)
      · have hh' : Hid (∀ b ∈ (L s).take (k + 1), blankB b) := by
          show ∀ b ∈ _, _
          rw [take_get hg.out]
          intro b hb
          rcases List.mem_append.1 hb with hb | hb
          · exact hh.out b hb
          · rw [List.mem_singleton.1 hb]; exact hp
        have hq : ((s[k]'hlt).toNat : Int) = 32 ∨ ((s[k]'hlt).toNat : Int) = 10 ∨ ((s[k]'hlt).toNat : Int) = 9 ∨ ((s[k]'hlt).toNat : Int) = 13 := by
          unfold blankB at hp; omega
        clear hp hh hg
        rcases hq with q | q | q | q
        all_goals
          go_wp2
          go_round
          case rel => exact ⟨k + 1, by omega, by go_num, hh'⟩
          case measure => simp [intOf]; omega
      · have hfin : Hid (¬ ∀ b ∈ L s, blankB b) := fun h => hp (h _ (get_mem hg.out))
        have q1 : (((s[k]'hlt).toNat : Int) != 32) = true := by rw [bne_iff_ne]; unfold blankB at hp; omega
        have q2 : (((s[k]'hlt).toNat : Int) != 10) = true := by rw [bne_iff_ne]; unfold blankB at hp; omega
        have q3 : (((s[k]'hlt).toNat : Int) != 9) = true := by rw [bne_iff_ne]; unfold blankB at hp; omega
        have q4 : (((s[k]'hlt).toNat : Int) != 13) = true := by rw [bne_iff_ne]; unfold blankB at hp; omega
        clear hp hh hg
        go_wp2
        go_ret
        exact ⟨false, rfl, ⟨fun h => (by cases h), fun h => absurd h hfin.out⟩, Below.refl _ _⟩
    · have hfin := hh.out
      rw [take_all (by rw [L_len]; exact hlt)] at hfin
      have hfin' := Lib.hid hfin
      clear hfin hh
      go_wp2
      go_ret
      exact ⟨true, rfl, ⟨fun _ => hfin'.out, fun _ => rfl⟩, Below.refl _ _⟩

def strSize : Value → Nat
  | .string s => s.size
  | _ => 0
theorem L_extract (s : ByteArray) (a b : Nat) : L (s.extract a b) = ((L s).drop a).take (b - a) := by simp [L]
theorem L_size_le (s : ByteArray) (a b : Nat) : (s.extract a b).size ≤ s.size := by rw [← L_len, ← L_len, L_extract]; simp; omega

/-- What trimmed leaves: the blanks at the ends are gone. -/
structure Trimmed (s r : List UInt8) : Prop where
  eq : ∃ a b, s = a ++ r ++ b ∧ (∀ x ∈ a, blankB x) ∧ (∀ x ∈ b, blankB x)
  head : ∀ x, r.head? = some x → ¬ blankB x
  last : ∀ x, r.getLast? = some x → ¬ blankB x

theorem drop_last {α : Type} {l : List α} (h : l ≠ []) : l.drop (l.length - 1) = [l.getLast h] := by
  have e := (List.dropLast_concat_getLast h)
  conv => lhs; arg 2; rw [← e]
  rw [← List.length_dropLast, List.drop_left']
  rfl
theorem head_blank {x : ByteArray} {z : UInt8} (hz : (L x).head? = some z) : ∀ b ∈ L (x.extract 0 1), b = z := by
  rw [L_extract]
  cases h : L x with
  | nil => simp
  | cons c r =>
    rw [h] at hz
    simp at hz
    subst hz
    simp
theorem L_pos {x : ByteArray} (h : 0 < x.size) : ∃ c r, L x = c :: r := by
  cases hx : L x with
  | nil => have := L_len x; rw [hx] at this; simp at this; omega
  | cons c r => exact ⟨c, r, rfl⟩
theorem L_nil {x : ByteArray} (h : ¬ 0 < x.size) : L x = [] := List.eq_nil_of_length_eq_zero (by rw [L_len]; omega)
theorem trim_front {s x : ByteArray} (h : ∃ a, L s = a ++ L x ∧ ∀ b ∈ a, blankB b) (hb : ∀ b ∈ L (x.extract 0 1), blankB b) (hp : 0 < x.size) :
    ∃ a, L s = a ++ L (x.extract 1 x.size) ∧ ∀ b ∈ a, blankB b := by
  obtain ⟨a, h1, h2⟩ := h
  obtain ⟨c, r, hx⟩ := L_pos hp
  rw [L_extract, hx] at hb
  refine ⟨a ++ [c], ?_, ?_⟩
  · have hl := L_len x
    rw [hx] at hl
    rw [h1, L_extract, hx]
    simp at hl
    simp only [List.drop_succ_cons, List.drop_zero, List.append_assoc, List.singleton_append]
    rw [List.take_of_length_le (by omega)]
  · intro b hb'
    rcases List.mem_append.1 hb' with h' | h'
    · exact h2 b h'
    · rw [List.mem_singleton.1 h']; exact hb c (by simp)
theorem trim_mid {s x : ByteArray} (h : ∃ a, L s = a ++ L x ∧ ∀ b ∈ a, blankB b) (hb : ¬ ∀ b ∈ L (x.extract 0 1), blankB b) :
    ∃ a b, L s = a ++ L x ++ b ∧ (∀ z ∈ a, blankB z) ∧ (∀ z ∈ b, blankB z) ∧ ∀ z, (L x).head? = some z → ¬ blankB z := by
  obtain ⟨a, h1, h2⟩ := h
  refine ⟨a, [], by simpa using h1, h2, by simp, fun z hz hbl => hb (fun b hb' => ?_)⟩
  rw [head_blank hz b hb']; exact hbl
theorem trim_mid0 {s x : ByteArray} (h : ∃ a, L s = a ++ L x ∧ ∀ b ∈ a, blankB b) (hp : ¬ 0 < x.size) :
    ∃ a b, L s = a ++ L x ++ b ∧ (∀ z ∈ a, blankB z) ∧ (∀ z ∈ b, blankB z) ∧ ∀ z, (L x).head? = some z → ¬ blankB z := by
  obtain ⟨a, h1, h2⟩ := h
  exact ⟨a, [], by simpa using h1, h2, by simp, fun z hz => by rw [L_nil hp] at hz; simp at hz⟩
theorem trim_back {s y : ByteArray} (h : ∃ a b, L s = a ++ L y ++ b ∧ (∀ z ∈ a, blankB z) ∧ (∀ z ∈ b, blankB z) ∧ ∀ z, (L y).head? = some z → ¬ blankB z)
    (hb : ∀ b ∈ L (y.extract (y.size - 1) y.size), blankB b) (hp : 0 < y.size) :
    ∃ a b, L s = a ++ L (y.extract 0 (y.size - 1)) ++ b ∧ (∀ z ∈ a, blankB z) ∧ (∀ z ∈ b, blankB z) ∧ ∀ z, (L (y.extract 0 (y.size - 1))).head? = some z → ¬ blankB z := by
  obtain ⟨a, b, h1, h2, h3, h4⟩ := h
  have hl := L_len y
  rw [L_extract] at hb
  rw [List.take_of_length_le (by simp; omega)] at hb
  have hs : L y = (L y).take (y.size - 1) ++ (L y).drop (y.size - 1) := (List.take_append_drop _ _).symm
  refine ⟨a, (L y).drop (y.size - 1) ++ b, ?_, h2, ?_, ?_⟩
  · rw [h1, L_extract]
    simp only [List.drop_zero, Nat.sub_zero]
    rw [List.append_assoc, List.append_assoc, ← List.append_assoc ((L y).take _), List.take_append_drop]
  · intro z hz
    rcases List.mem_append.1 hz with hz | hz
    · exact hb z hz
    · exact h3 z hz
  · intro z hz
    refine h4 z ?_
    rw [L_extract] at hz
    simp only [List.drop_zero, Nat.sub_zero] at hz
    cases hy : L y with
    | nil => rw [hy] at hz; simp at hz
    | cons c r =>
      rw [hy] at hz
      cases hn : y.size - 1 with
      | zero => rw [hn] at hz; simp at hz
      | succ m => rw [hn] at hz; simpa using hz
theorem trim_end {s y : ByteArray} (h : ∃ a b, L s = a ++ L y ++ b ∧ (∀ z ∈ a, blankB z) ∧ (∀ z ∈ b, blankB z) ∧ ∀ z, (L y).head? = some z → ¬ blankB z)
    (hb : ¬ ∀ b ∈ L (y.extract (y.size - 1) y.size), blankB b) (hp : 0 < y.size) : Trimmed (L s) (L y) := by
  obtain ⟨a, b, h1, h2, h3, h4⟩ := h
  refine ⟨⟨a, b, h1, h2, h3⟩, h4, fun x hx hbl => hb (fun z hz => ?_)⟩
  have hl := L_len y
  rw [L_extract, List.take_of_length_le (by simp; omega)] at hz
  obtain ⟨c, r, hy⟩ := L_pos hp
  have hne : L y ≠ [] := by rw [hy]; simp
  rw [List.getLast?_eq_some_getLast hne] at hx
  have hd : (L y).drop (y.size - 1) = [(L y).getLast hne] := by
    rw [← hl]; exact drop_last hne
  rw [hd] at hz
  rw [List.mem_singleton.1 hz, Option.some.inj hx]; exact hbl
theorem trim_nil {s y : ByteArray} (h : ∃ a b, L s = a ++ L y ++ b ∧ (∀ z ∈ a, blankB z) ∧ (∀ z ∈ b, blankB z) ∧ ∀ z, (L y).head? = some z → ¬ blankB z)
    (hp : ¬ 0 < y.size) : Trimmed (L s) (L y) := by
  obtain ⟨a, b, h1, h2, h3, h4⟩ := h
  exact ⟨⟨a, b, h1, h2, h3⟩, h4, fun x hx => by rw [L_nil hp] at hx; simp at hx⟩

set_option maxHeartbeats 1000000 in
theorem trimmed_any (s : ByteArray) (w : World) (hs : s.size ≤ 9223372036854775807) :
    Calls Try.prog 7 #[.string s] w
      (SomeStr (fun r => Trimmed (L s) (L r)) w) := by
  go_enter Try.func7, Try.ntmps7
  go_wp2
  go_loopw [0] (fun v wr => ∃ x : ByteArray, v = .string x ∧ x.size ≤ 9223372036854775807 ∧ Hid (∃ a, L s = a ++ L x ∧ ∀ b ∈ a, blankB b) ∧ Below w.heap.size w wr) (fun v _ => strSize v)
  case atStart => exact ⟨s, rfl, hs, ⟨[], by simp, by simp⟩, Below.refl _ _⟩
  case round =>
    clear hs
    obtain ⟨x, rfl, hx, hh, hbw⟩ := hrel
    by_cases hpos : 0 < x.size
    · go_wp2_with fail
      refine (blank_any _ _ (Nat.le_trans (L_size_le _ _ _) hx)).mono ?_
      rintro e w2 ⟨r, rfl, hr, hb2⟩
      have hr' := Lib.hid hr
      clear hr
      have hbw2 := below_call hbw hbw.size hb2
      clear hbw
      cases r with
      | true =>
        have hI2 := Lib.hid (trim_front hh.out (hr'.out.1 rfl) hpos)
        clear hr' hh
        go_wp2_with fail
        go_roundw
        case rel => exact ⟨_, rfl, Nat.le_trans (L_size_le _ _ _) hx, hI2.out, hbw2⟩
        case measure => simp [strSize]; omega
      | false =>
        have hI := Lib.hid (trim_mid hh.out (fun h => by have := hr'.out.2 h; cases this))
        have hbw := hbw2
        clear hr' hh hbw2 hb2 hpos
        go_wp2_with fail
        go_loopw [0] (fun v wr => ∃ y : ByteArray, v = .string y ∧ y.size ≤ 9223372036854775807 ∧ Hid (∃ a b, L s = a ++ L y ++ b ∧ (∀ z ∈ a, blankB z) ∧ (∀ z ∈ b, blankB z) ∧ ∀ z, (L y).head? = some z → ¬ blankB z) ∧ Below w.heap.size w wr) (fun v _ => strSize v)
        case atStart => exact ⟨x, rfl, hx, hI, hbw⟩
        case round =>
          clear hbw hI hx
          obtain ⟨y, rfl, hy, hh, hbw⟩ := hrel
          by_cases hpos2 : 0 < y.size
          · go_wp2_with fail
            refine (blank_any _ _ (Nat.le_trans (L_size_le _ _ _) hy)).mono ?_
            rintro e w2 ⟨r, rfl, hr, hb2⟩
            have hr' := Lib.hid hr
            clear hr
            have hbw2 := below_call hbw hbw.size hb2
            clear hbw
            cases r with
            | true =>
              have hI2 := Lib.hid (trim_back hh.out (hr'.out.1 rfl) hpos2)
              clear hr' hh
              go_wp2_with fail
              go_roundw
              case rel => exact ⟨_, rfl, Nat.le_trans (L_size_le _ _ _) hy, hI2.out, hbw2⟩
              case measure => simp [strSize]; omega
            | false =>
              have hfin := Lib.hid (trim_end hh.out (fun h => by have := hr'.out.2 h; cases this) hpos2)
              clear hr' hh
              go_wp2_with fail
              go_ret
              exact ⟨y, rfl, hfin.out, hbw2⟩
          · have hfin := Lib.hid (trim_nil hh.out hpos2)
            clear hh
            go_wp2_with fail
            go_ret
            exact ⟨y, rfl, hfin.out, hbw⟩
    · have hI := Lib.hid (trim_mid0 hh.out hpos)
      clear hh
      go_wp2_with fail
      go_loopw [0] (fun v wr => ∃ y : ByteArray, v = .string y ∧ y.size ≤ 9223372036854775807 ∧ Hid (∃ a b, L s = a ++ L y ++ b ∧ (∀ z ∈ a, blankB z) ∧ (∀ z ∈ b, blankB z) ∧ ∀ z, (L y).head? = some z → ¬ blankB z) ∧ Below w.heap.size w wr) (fun v _ => strSize v)
      case atStart => exact ⟨x, rfl, hx, hI, hbw⟩
      case round =>
        clear hbw hI hx
        obtain ⟨y, rfl, hy, hh, hbw⟩ := hrel
        by_cases hpos2 : 0 < y.size
        · go_wp2_with fail
          refine (blank_any _ _ (Nat.le_trans (L_size_le _ _ _) hy)).mono ?_
          rintro e w2 ⟨r, rfl, hr, hb2⟩
          have hr' := Lib.hid hr
          clear hr
          have hbw2 := below_call hbw hbw.size hb2
          clear hbw
          cases r with
          | true =>
            have hI2 := Lib.hid (trim_back hh.out (hr'.out.1 rfl) hpos2)
            clear hr' hh
            go_wp2_with fail
            go_roundw
            case rel => exact ⟨_, rfl, Nat.le_trans (L_size_le _ _ _) hy, hI2.out, hbw2⟩
            case measure => simp [strSize]; omega
          | false =>
            have hfin := Lib.hid (trim_end hh.out (fun h => by have := hr'.out.2 h; cases this) hpos2)
            clear hr' hh
            go_wp2_with fail
            go_ret
            exact ⟨y, rfl, hfin.out, hbw2⟩
        · have hfin := Lib.hid (trim_nil hh.out hpos2)
          clear hh
          go_wp2_with fail
          go_ret
          exact ⟨y, rfl, hfin.out, hbw⟩
end Go.Proofs.Ytlebdceidmkddaa
