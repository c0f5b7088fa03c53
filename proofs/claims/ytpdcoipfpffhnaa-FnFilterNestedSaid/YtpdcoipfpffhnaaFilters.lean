/-
  filters; slices.Contains at bytes. Conditions: none.
-/
import Derived.Test.YtpdcoipfpffhnaaFMatch
import Derived.Lib.ConvBytes
namespace Go.Proofs.Ytpdcoipfpffhnaa
open Go.ChangeShapes Go.WideShapes Go.ChangeAt Go.RowKit
set_option linter.unusedVariables false

theorem obj1_ok {k : ByteArray} {x : V} (h : x.Ok) : (V.obj1 k x).Ok := .obj _ rfl rfl (by simp [V.obj1]) (fun y hy => by
  have : y = x := by simpa [V.obj1] using hy
  rw [this]; exact h)
theorem obj1_no {k : ByteArray} {x : V} (h : x.No 4) : (V.obj1 k x).No 4 := .mk _ (by show (8 : Int) ≠ 4; omega) (fun _ y hy => by
  have : y = x := by simpa [V.obj1] using hy
  rw [this]; exact h)
theorem obj1_wt (k : ByteArray) (x : V) : (V.obj1 k x).wt = 2 + k.size + x.wt := by
  rw [V.wt_eq]
  show 1 + 0 + 1 + sumS [k] + V.wts [x] = _
  simp [sumS, V.wts]
theorem obj1_member (k : ByteArray) (x : V) : (V.obj1 k x).member k = x := member_some (v := V.obj1 k x) (by simp [V.obj1]) rfl (i := 0) rfl rfl

def keyA : ByteArray := ⟨#[97]⟩
theorem keyA_dot : NoDot keyA := fun i b h => by
  have h0 : i = 0 := by have := (List.getElem?_eq_some_iff.1 h).1; simp [keyA] at this; omega
  subst h0
  have : (97 : UInt8) = b := by simpa [keyA] using h
  rw [← this]; decide
theorem roadsOne_leaf (k : ByteArray) (x : V) (hk : k.size ≤ 10000) (hx : x.kind ≠ 8) : RoadsOne (V.obj1 k x) :=
  fun A B ca cb w hb hB hA => roads_leaf k x hk hx A B ca cb ⟨#[]⟩ w hb hB hA (by show (0 : Nat) ≤ _; omega)
theorem roadsOne_nest (k k2 : ByteArray) (x : V) (hk : k.size ≤ 10000) (hk2 : k2.size ≤ 10000) (hx : x.kind ≠ 8) : RoadsOne (V.obj1 k (V.obj1 k2 x)) :=
  fun A B ca cb w hb hB hA => roads_nest k (V.obj1 k2 x) hk rfl rfl (roads_leaf k2 x hk2 hx) A B ca cb ⟨#[]⟩ w hB hA (by show (0 : Nat) ≤ _; omega)

set_option maxHeartbeats 1000000 in
theorem filters_any (w : World) : Calls Try.prog 12 #[] w (SomeBool (fun r => r = true) w) := by
  have hone : I64 1 := by unfold I64; omega
  have hM : Hid (M (V.obj1 keyA (V.int 1)) (V.obj1 keyA (V.int 1))) := by
    refine .obj _ _ rfl rfl (fun i k x hk hx => ?_)
    have h0 : i = 0 := by have := (List.getElem?_eq_some_iff.1 hk).1; simp [V.obj1] at this; omega
    subst h0
    have e1 : keyA = k := by simpa [V.obj1] using hk
    have e2 : V.int 1 = x := by simpa [V.obj1] using hx
    rw [← e1, ← e2, obj1_member]
    exact .leaf _ _ (by show (3 : Int) ≠ 7; omega) (by show (3 : Int) ≠ 8; omega) (by show (3 : Int) ≠ 8; omega) ⟨rfl, fun _ => rfl, fun h => (by have : (3 : Int) = 4 := h; omega), fun _ => rfl⟩
  have h1 := Lib.hid hone
  have hka : keyA.size ≤ 1000 := by show (1 : Nat) ≤ _; omega
  have hmk : Hid (Makes (V.obj1 keyA (V.int 1)) (V.obj1 keyA (V.int 1))) := makes_one keyA (V.int 1) keyA_dot hka ⟨by show (3 : Int) ≠ 4; omega, by show (3 : Int) ≠ 7; omega, by show (3 : Int) ≠ 8; omega⟩
  have hrd : Hid (RoadsOne (V.obj1 keyA (V.int 1))) := roadsOne_leaf keyA (V.int 1) (by omega) (by show (3 : Int) ≠ 8; omega)
  have hwt : Hid ((V.obj1 keyA (V.int 1)).wt ≤ 1000000) := by
    have h2 : (V.int 1).wt ≤ 1 := by rw [V.wt_eq]; exact Nat.le_refl _
    have h3 : keyA.size = 1 := rfl
    show (V.obj1 keyA (V.int 1)).wt ≤ 1000000
    rw [obj1_wt]
    omega
  have hok : Hid ((V.obj1 keyA (V.int 1)).Ok) := obj1_ok (int_ok 1)
  have hno : Hid ((V.obj1 keyA (V.int 1)).No 4) := obj1_no (int_no 1)
  clear hone
  go_enter Try.func12, Try.ntmps12
  go_wp2_with fail
  refine (integer_any any 1 h1.out w).mono ?_
  rintro e w1 ⟨A, ca, B, cb, rfl, hb1, hB1, hA1, hl1⟩
  go_wp2_with fail
  refine (object_any keyA (V.int 1) A B ca cb w1 hb1 hB1 hA1 (by omega)).mono ?_
  rintro e w2 ⟨A2, ca2, B2, cb2, rfl, hb2, hB2, hA2, hl2⟩
  go_wp2_with fail
  refine (integer_any any 1 h1.out w2).mono ?_
  rintro e w3 ⟨A3, ca3, B3, cb3, rfl, hb3, hB3, hA3, hl3⟩
  go_wp2_with fail
  refine (object_any keyA (V.int 1) A3 B3 ca3 cb3 w3 hb3 hB3 hA3 (by omega)).mono ?_
  rintro e w4 ⟨A4, ca4, B4, cb4, rfl, hb4, hB4, hA4, hl4⟩
  have hl34 := hl3.trans (hl4.mono hl3.size)
  go_wp2_with fail
  refine (fMatch_any (V.obj1 keyA (V.int 1)) (V.obj1 keyA (V.int 1)) (V.obj1 keyA (V.int 1)) A2 B2 A4 B4 ca2 cb2 ca4 cb4 w4 hb2 (hB2.bel hl34) (hA2.bel hl34) hb4 hB4 hA4 rfl hok.out hok.out hwt.out hwt.out hno.out hok.out hno.out hrd.out hmk.out).mono ?_
  rintro e w5 ⟨r, rfl, hr, hl5⟩
  have hrt : r = true := hr.2 hM.out
  subst hrt
  have hbw := hl1.trans ((hl2.trans ((hl34.trans (hl5.mono hl34.size)).mono hl2.size)).mono hl1.size)
  clear hl1 hl2 hl3 hl34 hl4 hl5 hr hB1 hA1 hB2 hA2 hB3 hA3 hB4 hA4
  go_wp2_with fail
  go_ret
  exact ⟨true, rfl, rfl, hbw⟩

/-- Whether a byte is among those of a text. -/
def HasB (s : ByteArray) (w : World) (e : Ending) (w' : World) : Prop := ∃ r : Bool, e = .returned (.bool r) ∧ (r = false → NoDot s) ∧ w = w'

def IdxB (s : ByteArray) (w : World) (e : Ending) (w' : World) : Prop := ∃ r : Int, e = .returned (.int .i64 r) ∧ (r < 0 → NoDot s) ∧ w = w'

set_option maxHeartbeats 1000000 in
theorem idxByte_any (s : ByteArray) (g c : Nat) (w : World) (hs : s.size ≤ 1000000) (hc : ∀ (i : Nat) b, s.data.toList[i]? = some b → w.cell? ⟨g, i, none⟩ = some (.int .u8 (b.toNat : Int))) :
    Calls Try.prog 33 #[.slice (some ⟨g, 0, none⟩) s.size c, .int .u8 46] w (IdxB s w) := by
  have hL : Hid (s.data.toList.length = s.size) := data_size s
  have hc' := Lib.hid hc
  clear hc
  go_enter Try.func33, Try.ntmps33
  go_wp2_with fail
  go_loop [5, 8] (fun _ i => ∃ k : Nat, k ≤ s.size ∧ i = .int .i64 k ∧ NoDotTo s k) (fun _ i => s.size - (intOf i).toNat)
  case atStart => exact ⟨0, Nat.zero_le _, rfl, fun j b h => by omega⟩
  case round =>
    obtain ⟨k, hk, rfl, hg⟩ := hrel
    by_cases hlt : k < s.size
    · obtain ⟨b, hb⟩ : ∃ b, s.data.toList[k]? = some b := get_lt (by rw [hL.out]; exact hlt)
      have hcell := hc'.out k b hb
      have hb' := Lib.hid hb
      clear hb
      by_cases h46 : b = 46
      · have h1 : ((46 : Int) == (b.toNat : Int)) = true := by rw [h46]; rfl
        clear h46
        go_wp2_with fail
        go_ret
        exact ⟨_, rfl, fun h => absurd h (by omega), rfl⟩
      · have h1 : ((46 : Int) == (b.toNat : Int)) = false := by
          rw [beq_eq_false_iff_ne]; intro e; apply h46
          exact UInt8.toNat_inj.1 (by show b.toNat = 46; omega)
        have hg' : NoDotTo s (k + 1) := fun j c hj hc => by
          by_cases hjk : j < k
          · exact hg j c hjk hc
          · obtain rfl : j = k := by omega
            obtain rfl := Option.some.inj (hb'.out.symm.trans hc)
            exact h46
        clear h46
        go_wp2_with fail
        go_round
        case rel => exact ⟨k + 1, by omega, by go_num, hg'⟩
        case measure => simp [intOf]; omega
    · have hfin : NoDot s := fun i b hb => hg i b (by have := (List.getElem?_eq_some_iff.1 hb).1; rw [hL.out] at this; omega) hb
      go_wp2_with fail
      go_ret
      exact ⟨_, rfl, fun _ => hfin, rfl⟩

set_option maxHeartbeats 1000000 in
theorem containsByte_any (s : ByteArray) (g c : Nat) (w : World) (hs : s.size ≤ 1000000) (hc : ∀ (i : Nat) b, s.data.toList[i]? = some b → w.cell? ⟨g, i, none⟩ = some (.int .u8 (b.toNat : Int))) :
    Calls Try.prog 11 #[.slice (some ⟨g, 0, none⟩) s.size c, .int .u8 46] w (HasB s w) := by
  have hc' := Lib.hid hc
  clear hc
  go_enter Try.func11, Try.ntmps11
  go_wp2_with fail
  refine (idxByte_any s g c w hs hc'.out).mono ?_
  rintro e w2 ⟨r, rfl, hr, rfl⟩
  have hr' := Lib.hid hr
  clear hr
  by_cases h0 : 0 ≤ r
  · go_wp2_with fail
    go_ret
    exact ⟨true, rfl, fun h => (by cases h), rfl⟩
  · have hfin : Hid (NoDot s) := hr'.out (by omega)
    have h1 : decide (0 ≤ r) = false := by simpa using h0
    go_wp2_with fail
    go_ret
    exact ⟨false, rfl, fun _ => hfin.out, rfl⟩
end Go.Proofs.Ytpdcoipfpffhnaa
