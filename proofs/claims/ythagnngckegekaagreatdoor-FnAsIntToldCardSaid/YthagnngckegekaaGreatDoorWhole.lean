/-
  apart, whole: whether a tree is a value. Conditions: none.
-/
import Derived.Test.YthagnngckegekaaGreatDoorHolds
import Derived.Test.YthagnngckegekaaGreatDoorSlc
namespace Go.Proofs.YthagnngckegekaaGreatDoor
open Go.ChangeShapes Go.WideShapes Go.ChangeAt Go.RowKit
set_option linter.unusedVariables false

theorem own_slice {w : World} {B : Nat} {v : Value} {xs : List ByteArray} (h : Own w B v xs) : ∃ A c, v = .slice A xs.length c ∧ xs.length ≤ c ∧ c ≤ maxLen := by
  rcases h.2 with ⟨rfl, h0⟩ | ⟨g, cap, cur, rfl, _, _, h1, h2, _⟩
  · exact ⟨none, 0, by rw [h0], by omega, by unfold maxLen; omega⟩
  · exact ⟨_, cap, rfl, h1, h2⟩
theorem own_cell {w : World} {B : Nat} {A : Option Addr} {n c : Nat} {xs : List ByteArray} (h : Own w B (.slice A n c) xs) {j : Nat} {s : ByteArray} (hj : xs[j]? = some s) :
    ∃ g, A = some ⟨g, 0, none⟩ ∧ w.cell? ⟨g, j, none⟩ = some (.string s) := by
  have hlt : j < xs.length := (List.getElem?_eq_some_iff.1 hj).1
  rcases h.2 with ⟨_, h0⟩ | ⟨g, cap, cur, e, _, hb, h1, h2, h3, h4⟩
  · omega
  · simp only [Value.slice.injEq] at e
    obtain ⟨rfl, rfl, rfl⟩ := e
    refine ⟨g, rfl, ?_⟩
    have h5 : (cur.toList.take (xs.length * 1))[j]? = (strVs xs)[j]? := by rw [h4]
    rw [List.getElem?_take_of_lt (by omega)] at h5
    simp [World.cell?, hb, ← Array.getElem?_toList, h5, strVs, hj]

set_option maxHeartbeats 1000000 in
theorem apart_any {ok : Nat → Prop} (A : Option Addr) (xs : List ByteArray) (c : Nat) (w : World) (hA : Strs ok w A xs) (hl : xs.length ≤ 1000000) :
    Calls Tryz.prog 32 #[.slice A xs.length c] w (SomeBool (fun r => r = true → xs.Nodup) w) := by
  go_enter Tryz.func32, Tryz.ntmps32
  go_wp2_with fail
  refine (clone_any A xs c w hA hl).mono ?_
  rintro e w1 ⟨v, zs, rfl, hzs, ho1, hb1⟩
  rw [hzs] at ho1
  clear hzs
  have ho1' := Lib.hid ho1
  obtain ⟨A1, c1, rfl, hc1, hc1'⟩ := own_slice ho1
  clear ho1 hA
  go_wp2_with fail
  refine (sort_any _ w.heap.size _ w1 ho1'.out hl).mono ?_
  rintro e w2 ⟨ys, rfl, hp, hasc, ho2, hgr⟩
  have hb2 : Below w.heap.size w w2 := hb1.grown hgr hb1.size (fun k hk => (ho1'.out.lt k hk).1)
  have hlen := hp.length_eq
  have hn : Hid (ys.Nodup → xs.Nodup) := fun h => hp.nodup_iff.1 h
  have ho2' : Hid (Own w2 w.heap.size (.slice A1 ys.length c1) ys) := by rw [hlen]; exact ho2
  have hasc' := Lib.hid hasc
  have hly : ys.length ≤ 1000000 := by omega
  rw [← hlen]
  rw [← hlen] at hc1
  clear hasc hgr hb1 ho1' ho2 hp hlen hl
  go_wp2_with fail
  go_loopw [4] (fun i wr => ∃ j : Nat, 1 ≤ j ∧ i = .int .i64 j ∧ (j ≤ ys.length ∨ j = 1) ∧ Hid (∀ k a b, k + 1 < j → ys[k]? = some a → ys[k + 1]? = some b → a ≠ b) ∧ ∃ n, wr = w2.drewN n) (fun i _ => ys.length + 1 - (intOf i).toNat)
  case atStart => exact ⟨1, by omega, rfl, Or.inr rfl, fun k a b h => by omega, 0, rfl⟩
  case round =>
    obtain ⟨j, hj1, rfl, hj2, hg, nd, rfl⟩ := hrel
    by_cases hlt : j < ys.length
    · obtain ⟨a, ha⟩ : ∃ a, ys[j - 1]? = some a := get_lt (by omega)
      obtain ⟨b, hb⟩ := get_lt hlt
      obtain ⟨g, hA1, hca⟩ := own_cell ho2'.out ha
      obtain ⟨g', hA2, hcb⟩ := own_cell ho2'.out hb
      rw [hA1] at hA2
      obtain rfl : g = g' := by simpa using hA2
      clear hA2
      subst hA1
      have i1 : (0 : Int) ≤ (j : Int) - 1 := by omega
      have i2 : (j : Int) - 1 < ys.length := by omega
      have i3 : IntKind.i64.wrap ((j : Int) - 1) = (j : Int) - 1 := IntWalk.i64_in _ (by omega)
      have i4 : ((j : Int) - 1).toNat = j - 1 := by omega
      have i5 : (0 : Int) ≤ (j : Int) := by omega
      have ha' := Lib.hid ha
      have hb' := Lib.hid hb
      clear ha hb hj2
      go_wp2_with fail
      go_quiet (fail)
      clear i1 i2 i3 i4 i5
      cases heq : (b.toList == a.toList) with
      | true =>
        go_wp2_with fail
        go_ret
        exact ⟨false, rfl, fun h => (by cases h), below_drewN (below_drewN hb2 _) _⟩
      | false =>
        have hg' : Hid (∀ k a b, k + 1 < j + 1 → ys[k]? = some a → ys[k + 1]? = some b → a ≠ b) := by
          intro k x y hk hx hy
          by_cases hkj : k + 1 < j
          · exact hg.out k x y hkj hx hy
          · obtain rfl : k + 1 = j := by omega
            rintro rfl
            have e1 := hb'.out.symm.trans hy
            have e2 := ha'.out.symm.trans (by simpa using hx)
            obtain rfl := Option.some.inj e1
            obtain rfl := Option.some.inj e2
            rw [Lib.bytes_beq_false_iff] at heq
            exact heq rfl
        clear hg
        go_wp2_with fail
        go_roundw
        case rel => exact ⟨j + 1, by omega, by go_num, Or.inl (by omega), hg', _, rfl⟩
        case measure => simp [intOf]; omega
    · have hfin : Hid (ys.Nodup) := nodup_of_asc hasc'.out (fun k a b ha hb => hg.out k a b (by have := (List.getElem?_eq_some_iff.1 hb).1; omega) ha hb)
      clear hg hj2
      go_wp2_with fail
      go_ret
      exact ⟨true, rfl, fun _ => hn.out hfin.out, below_drewN hb2 _⟩

set_option maxHeartbeats 1000000 in
theorem whole_leaf (k n : Int) (f : Nat) (s : ByteArray) (l : List V) (ks : List ByteArray) (A B : Option Addr) (ca cb : Nat) (w : World) (h7 : k ≠ 7) (h8 : k ≠ 8) :
    Calls Tryz.prog 23 #[.agg #[.int .i64 k, .int .i64 n, .float .f64 f, .string s, .slice A l.length ca, .slice B ks.length cb]] w
      (SomeBool (fun r => r = true → (V.mk k n f s l ks).Whole) w) := by
  by_cases h1 : k = 1 ∨ k = 3 ∨ k = 5 ∨ k = 6
  · have hF : Hid ((V.mk k n f s l ks).Whole) := .leaf _ h1
    rcases h1 with rfl | rfl | rfl | rfl
    all_goals
      clear h7 h8
      go_enter Tryz.func23, Tryz.ntmps23
      go_wp2_with fail
      go_ret
      exact ⟨true, rfl, fun _ => hF.out, (Below.refl _ _).alloc (Nat.le_refl _) _⟩
  by_cases h2 : k = 2
  · subst h2
    by_cases hn : n = 0 ∨ n = 1
    · have hF : Hid ((V.mk 2 n f s l ks).Whole) := .bool _ rfl hn
      clear h1 h7 h8
      rcases hn with rfl | rfl
      all_goals
        go_enter Tryz.func23, Tryz.ntmps23
        go_wp2_with fail
        go_ret
        exact ⟨true, rfl, fun _ => hF.out, (Below.refl _ _).alloc (Nat.le_refl _) _⟩
    · have n0 : (n == 0) = false := beq_eq_false_iff_ne.2 (by omega)
      have n1 : (n == 1) = false := beq_eq_false_iff_ne.2 (by omega)
      clear h1 h7 h8 hn
      go_enter Tryz.func23, Tryz.ntmps23
      go_wp2_with fail
      go_ret
      exact ⟨false, rfl, fun h => (by cases h), (Below.refl _ _).alloc (Nat.le_refl _) _⟩
  by_cases h4 : k = 4
  · subst h4
    clear h1 h2 h7 h8
    cases hnan : nanF f with
    | true =>
      go_enter Tryz.func23, Tryz.ntmps23
      go_wp2_with (first | (go_at_call 30; refine (nan_any f _).mono ?_; rintro e w' ⟨rfl, rfl⟩) | (go_at_call 31; refine (inf_any f _).mono ?_; rintro e w' ⟨rfl, rfl⟩))
      go_ret
      exact ⟨false, rfl, fun h => (by cases h), (Below.refl _ _).alloc (Nat.le_refl _) _⟩
    | false =>
      cases hinf : infF f with
      | true =>
        go_enter Tryz.func23, Tryz.ntmps23
        go_wp2_with (first | (go_at_call 30; refine (nan_any f _).mono ?_; rintro e w' ⟨rfl, rfl⟩) | (go_at_call 31; refine (inf_any f _).mono ?_; rintro e w' ⟨rfl, rfl⟩))
        go_ret
        exact ⟨false, rfl, fun h => (by cases h), (Below.refl _ _).alloc (Nat.le_refl _) _⟩
      | false =>
        have hF : Hid ((V.mk 4 n f s l ks).Whole) := .float _ rfl (by simp [finF, hnan, hinf])
        go_enter Tryz.func23, Tryz.ntmps23
        go_wp2_with (first | (go_at_call 30; refine (nan_any f _).mono ?_; rintro e w' ⟨rfl, rfl⟩) | (go_at_call 31; refine (inf_any f _).mono ?_; rintro e w' ⟨rfl, rfl⟩))
        go_ret
        exact ⟨true, rfl, fun _ => hF.out, (Below.refl _ _).alloc (Nat.le_refl _) _⟩
  have k1 : (k == 1) = false := beq_eq_false_iff_ne.2 (by omega)
  have k2 : (k == 2) = false := beq_eq_false_iff_ne.2 (by omega)
  have k3 : (k == 3) = false := beq_eq_false_iff_ne.2 (by omega)
  have k4 : (k == 4) = false := beq_eq_false_iff_ne.2 (by omega)
  have k5 : (k == 5) = false := beq_eq_false_iff_ne.2 (by omega)
  have k6 : (k == 6) = false := beq_eq_false_iff_ne.2 (by omega)
  have k7 : (k == 7) = false := beq_eq_false_iff_ne.2 (by omega)
  have k8 : (k == 8) = false := beq_eq_false_iff_ne.2 (by omega)
  clear h1 h2 h4 h7 h8
  go_enter Tryz.func23, Tryz.ntmps23
  go_wp2_with fail
  go_ret
  exact ⟨false, rfl, fun h => (by cases h), (Below.refl _ _).alloc (Nat.le_refl _) _⟩

set_option maxHeartbeats 1000000 in
theorem whole_deep (k n : Int) (f : Nat) (s : ByteArray) (l : List V) (ks : List ByteArray)
    (ih : ∀ x ∈ l, ∀ {ok : Nat → Prop} (A B : Option Addr) (ca cb : Nat) (w : World) (hb : Bds x ca cb) (hB : Strs ok w B x.keys) (hA : Vals ok w A x.l) (hwt : x.wt ≤ 1000000),
      Calls Tryz.prog 23 #[.agg #[.int .i64 x.kind, .int .i64 x.n, .float .f64 x.f, .string x.s, .slice A x.l.length ca, .slice B x.keys.length cb]] w (SomeBool (fun r => r = true → x.Whole) w))
    {ok : Nat → Prop} (A B : Option Addr) (ca cb : Nat) (w : World) (hb : Bds ⟨k, n, f, s, l, ks⟩ ca cb) (hB : Strs ok w B ks) (hA : Vals ok w A l) (hk : k = 7 ∨ k = 8) (hwt : (V.mk k n f s l ks).wt ≤ 1000000) :
    Calls Tryz.prog 23 #[.agg #[.int .i64 k, .int .i64 n, .float .f64 f, .string s, .slice A l.length ca, .slice B ks.length cb]] w
      (SomeBool (fun r => r = true → (V.mk k n f s l ks).Whole) w) := by
  obtain ⟨_, _, hf, hs, _, _, _, _, hla, hlb⟩ := hb
  dsimp only at *
  have hkw := wt_klen (V.mk k n f s l ks)
  have hkl : ks.length ≤ 1000000 := by have : ks.length < _ := hkw; omega
  have hwx : Hid (∀ x ∈ l, x.wt ≤ 1000000) := fun x hx => by have : x.wt < _ := wt_kid (v := V.mk k n f s l ks) hx; omega
  have IH := Lib.hid ih
  have hF : Hid ((∀ x ∈ l, x.Whole) → (k = 7 ∨ (ks.length = l.length ∧ ks.Nodup)) → (V.mk k n f s l ks).Whole) := fun hl h => by
    rcases hk with hk | hk
    · exact .arr _ hk hl
    · rcases h with h | h
      · omega
      · exact .obj _ hk h.1 h.2 hl
  clear ih hkw hwt
  rcases hk with rfl | rfl
  all_goals
    go_enter Tryz.func23, Tryz.ntmps23
    go_wp2_with fail
    go_loopw [3] (fun i wr => ∃ (j : Nat), j ≤ l.length ∧ i = .int .i64 j ∧ Hid (∀ y ∈ l.take j, y.Whole) ∧ Below (w.heap.size + 1) (w.alloc (valObj ⟨_, n, f, s, l, ks⟩ A ca B cb)) wr) (fun i _ => l.length - (intOf i).toNat)
    case atStart => exact ⟨0, by simp, rfl, by intro y hy; simp at hy, Below.refl _ _⟩
    case round =>
      obtain ⟨i, hi, rfl, hg, hbel⟩ := hrel
      obtain ⟨⟨b0, b1, b2, b3, b4, b5⟩, hbw⟩ := boxed hbel
      dsimp only at b0 b1 b2 b3 b4 b5
      by_cases hlt : i < l.length
      · obtain ⟨x, hx⟩ := get_lt hlt
        have hxm := Lib.hid (get_mem hx)
        obtain ⟨ad, Ai, ci, Bi, di, hAe, _, ⟨e0, e1, e2, e3, e4, e5⟩, hbx, hBx, hAx⟩ := (hA.bel hbw).at_ hx
        subst hAe
        have hx' := Lib.hid hx
        clear hx hA
        go_wp2_with fail
        have hle := below_boxed_size hbel
        refine (IH.out x hxm.out Ai Bi ci di wr hbx hBx hAx (hwx.out x hxm.out)).mono ?_
        rintro e w2 ⟨r, rfl, hr, hb2⟩
        have hbel2 := hbel.trans (hb2.mono hle)
        clear b0 b1 b2 b3 b4 b5 e0 e1 e2 e3 e4 e5
        cases r with
        | false =>
          go_wp2_with fail
          go_ret
          exact ⟨false, rfl, fun h => (by cases h), below_call hbw (by omega) hb2⟩
        | true =>
          have hg' : Hid (∀ y ∈ l.take (i + 1), y.Whole) := all_take hg.out hx'.out (hr rfl)
          clear hr
          go_wp2_with fail
          go_roundw
          case rel => exact ⟨i + 1, by omega, by go_num, hg', hbel2⟩
          case measure => simp [intOf]; omega
      · have hfin := hg.out
        rw [take_all hlt] at hfin
        have hfin' := Lib.hid hfin
        have hB' := Lib.hid (hB.bel hbw)
        clear hfin hg hA hB
        by_cases hlk : ks.length = l.length
        · have hlk1 : ((ks.length : Int) == (l.length : Int)) = true := by rw [hlk]; simp
          have hlk' := Lib.hid hlk
          clear hlk
          have hle := below_boxed_size hbel
          go_wp2_with fail
          first
          | (refine (apart_any _ _ _ _ hB'.out hkl).mono ?_
             rintro e w2 ⟨r, rfl, hr, hb2⟩
             cases r with
             | false =>
               clear hr
               go_wp2_with fail
               go_ret
               exact ⟨false, rfl, fun h => (by cases h), below_call hbw (by omega) hb2⟩
             | true =>
               have hr' := Lib.hid (hr rfl)
               clear hr
               go_wp2_with fail
               go_ret
               exact ⟨true, rfl, fun _ => hF.out hfin'.out (Or.inr ⟨hlk'.out, hr'.out⟩), below_call hbw (by omega) hb2⟩)
          | (go_ret
             exact ⟨true, rfl, fun _ => hF.out hfin'.out (by simp), hbw⟩)
        · have hlk1 : ((ks.length : Int) == (l.length : Int)) = false := beq_eq_false_iff_ne.2 (by omega)
          clear hlk
          go_wp2_with fail
          go_ret
          first
          | exact ⟨false, rfl, fun h => (by cases h), hbw⟩
          | exact ⟨true, rfl, fun _ => hF.out hfin'.out (by simp), hbw⟩

theorem whole_any (v : V) : ∀ {ok : Nat → Prop} (A B : Option Addr) (ca cb : Nat) (w : World) (hb : Bds v ca cb) (hB : Strs ok w B v.keys) (hA : Vals ok w A v.l) (hwt : v.wt ≤ 1000000),
    Calls Tryz.prog 23 #[.agg #[.int .i64 v.kind, .int .i64 v.n, .float .f64 v.f, .string v.s, .slice A v.l.length ca, .slice B v.keys.length cb]] w (SomeBool (fun r => r = true → v.Whole) w) := by
  induction v using V.ind with
  | h v ih =>
  intro ok A B ca cb w hb hB hA hwt
  obtain ⟨k, n, f, s, l, ks⟩ := v
  by_cases h2 : k = 7 ∨ k = 8
  · exact whole_deep k n f s l ks ih A B ca cb w hb hB hA h2 hwt
  · exact whole_leaf k n f s l ks A B ca cb w (by omega) (by omega)
end Go.Proofs.YthagnngckegekaaGreatDoor
