/-
  atof64 and ParseFloat return. Conditions: none.
-/
import Derived.Test.YthagnngckegekaaGreatDoorRdf
import Derived.Test.YthagnngckegekaaGreatDoorHex6
import Derived.Test.YthagnngckegekaaGreatDoorSm
import Derived.Test.YthagnngckegekaaGreatDoorPf3
namespace Go.Proofs.YthagnngckegekaaGreatDoor
open Go.ChangeShapes Go.WideShapes Go.ChangeAt Go.RowKit Go.Joins
set_option linter.unusedVariables false
set_option linter.unusedSimpArgs false

/-- The tables that ParseFloat reads lie in memory. -/
structure Tabs (W : World) : Prop where
  flo : FloTab W
  cheat : CheatTab W
  ten : TenTab W
  ften : FtenTab W
  opt : W.cell? ⟨4, 0, none⟩ = some (.bool true)
  b5 : ∃ ca ta, W.heap[5]? = some (.cells ca ta (0, 0))
  b3 : ∃ ca ta, W.heap[3]? = some (.cells ca ta (0, 0))
theorem Tabs.bel {W w : World} (h : Tabs W) (hb : Below W.heap.size W w) : Tabs w := by
  have lt : ∀ k, (∃ ca ta, W.heap[k]? = some (.cells ca ta (0, 0))) → k < W.heap.size := by
    rintro k ⟨ca, ta, hk⟩
    apply Decidable.byContradiction
    intro hn
    rw [Array.getElem?_eq_none (by omega)] at hk
    cases hk
  exact ⟨h.flo.bel hb, h.cheat.bel hb, h.ten.bel hb, h.ften.bel hb, cell_later hb h.opt, by rw [hb.block 5 (lt 5 h.b5)]; exact h.b5, by rw [hb.block 3 (lt 3 h.b3)]; exact h.b3⟩

set_option maxRecDepth 20000 in
theorem zero_dec : Tryz.zeroCells130 = (decL (List.replicate 800 0) 0 0 false false).toArray := by kernel_rfl
def F3Out (W : World) (e : Ending) (w' : World) : Prop := Below W.heap.size W w' ∧ ∃ (f : Nat) (n : Int) (v : Value), ErrV v ∧ e = .returned (.tuple #[.float .f64 f, .int .i64 n, v])

set_option maxRecDepth 8000 in
set_option maxHeartbeats 16000000 in
theorem atof64_at {w : World} {s : ByteArray} (hT : Tabs w) (hs0 : 0 < s.size) (hs : s.size ≤ 1000) :
    Calls Tryz.prog 71 #[.string s] w (F3Out w) := by
  have hr := run_from89
  have hspe := Lib.hid (special_at (w := w) hs0 hs)
  have hrd := Lib.hid (read_any (w := w) hs0 hs)
  have hTH := Lib.hid hT
  have hopt := hT.opt
  have hbr := Lib.hid (Below.refl w.heap.size w)
  clear hT
  go_enter Tryz.func71, Tryz.ntmps71
  go_wp2_with fail
  refine hspe.out.mono ?_
  rintro e w' ⟨rfl, f, n, b, rfl⟩
  clear hspe
  cases b with
  | true =>
    go_wp2_with fail
    go_ret3
    exact ⟨hbr.out, _, _, _, Or.inl rfl, rfl⟩
  | false =>
  go_wp2_with fail
  refine hrd.out.mono ?_
  rintro e w' ⟨rfl, m, ex, neg, tr, hx, i, ok, rfl, hm, hm10, hok⟩
  clear hrd
  have hmH := Lib.hid hm
  have hm10H := Lib.hid hm10
  clear hm hm10
  cases ok with
  | false =>
    clear hok
    go_wp2_with fail
    go_ret3
    exact ⟨hbr.out, _, _, _, (by first | exact Or.inr (Or.inl rfl) | exact Or.inr (Or.inr rfl)), rfl⟩
  | true =>
  obtain ⟨hi1, hi2, hx1, hx2⟩ := hok rfl
  clear hok
  have hil : (i : Int) ≤ 1000 := by omega
  have hsx : (s.extract 0 i).size = i := by simp; omega
  cases hx with
  | true =>
    have hxc := Lib.hid (hex_at (w := w) (s := s.extract 0 i) (neg := neg) (tr := tr) hmH.out ⟨hx1, hx2⟩ hTH.out.flo.mant hTH.out.flo.exp hTH.out.flo.bias hTH.out.b5 hTH.out.b3)
    clear hsx
    go_wp2_with fail
    refine hxc.out.mono ?_
    rintro e w' ⟨⟨n1, rfl⟩, f1, v1, hv, rfl⟩
    clear hxc
    go_wp2_with fail
    go_ret3
    exact ⟨below_drewN hbr.out _, _, _, _, hv, rfl⟩
  | false =>
  go_wp2_with fail
  refine (bool2_u64 _ _).mono ?_
  rintro e w' ⟨rfl, rfl⟩
  generalize b2v neg = sg
  rcases Bool.eq_false_or_eq_true ((m : Int) == 0) with m0 | m0
  · go_wp2_with fail
    go_ret3
    exact ⟨hbr.out, _, _, _, Or.inl rfl, rfl⟩
  by_cases hbig : (310 : Int) < ex
  · go_wp2_with fail
    go_ret3
    exact ⟨hbr.out, _, _, _, (by first | exact Or.inr (Or.inl rfl) | exact Or.inr (Or.inr rfl)), rfl⟩
  by_cases hsmall : ex < (-345 : Int)
  · go_wp2_with fail
    go_ret3
    exact ⟨hbr.out, _, _, _, Or.inl rfl, rfl⟩
  have hexr := Lib.hid (show -345 ≤ ex ∧ ex ≤ 310 by omega)
  cases tr with
  | false =>
    go_wp2_with fail
    refine (exact_at hTH.out.ften hTH.out.flo.mant).mono ?_
    rintro e w2 ⟨⟨n2, rfl⟩, f2, b2, rfl⟩
    have hT2 := Lib.hid (hTH.out.bel (below_drewN hbr.out n2))
    cases b2 with
    | true =>
      go_wp2_with fail
      go_ret3
      exact ⟨below_drewN hbr.out _, _, _, _, Or.inl rfl, rfl⟩
    | false =>
      go_wp2_with fail
      refine (parse64_at hmH.out hT2.out.ten hexr.out).mono ?_
      rintro e w3 ⟨hb3, f3, v3, hv3, rfl⟩
      go_wp2_with fail
      go_ret3
      exact ⟨(below_drewN hbr.out n2).trans hb3, _, _, _, hv3, rfl⟩
  | true =>
    go_wp2_with fail
    refine (parse64_at hmH.out hTH.out.ten hexr.out).mono ?_
    rintro e w3 ⟨hb3, f3, v3, hv3, rfl⟩
    have hb3H := Lib.hid hb3
    have hv3H := Lib.hid hv3
    have hT3 := Lib.hid (hTH.out.bel hb3)
    have hs3 := hb3.size
    have hm1 : IntKind.u64.wrap ((m : Int) + 1) = ((m + 1 : Nat) : Int) := by
      have := hm10H.out (by first | rfl | trivial)
      rw [IntKind.wrap_u64]
      omega
    have hm2 : m + 1 < 18446744073709551616 := by have := hm10H.out (by first | rfl | trivial); omega
    have hm2H := Lib.hid hm2
    generalize m + 1 = m1 at *
    clear hb3 hv3 hm2
    go_wp2_with fail
    refine (parse64_at hm2H.out hT3.out.ten hexr.out).mono ?_
    rintro e w4 ⟨hb4, f4, v4, hv4, rfl⟩
    have hb4H := Lib.hid (hb3H.out.trans (hb4.mono hs3))
    have hs4 := hb4.size
    have hT4 := Lib.hid (hTH.out.bel hb4H.out)
    clear hb4 hv4
    go_wp2_with fail
    · go_ret3
      exact ⟨hb4H.out, _, _, _, hv3H.out, rfl⟩
    have hga : (w4.alloc (.cells Tryz.zeroCells130 130)).heap[w4.heap.size]? = some (.cells Tryz.zeroCells130 130 (0, 0)) := by
      show (w4.heap.push _)[w4.heap.size]? = some _
      exact Array.getElem?_push_size
    have hdm : DM (w4.alloc (.cells Tryz.zeroCells130 130)) w4.heap.size (List.replicate 800 0) 0 0 false false := ⟨hga.trans (congrArg (fun c => some (Obj.cells c 130 (0, 0))) zero_dec), by simp, by intro b hb; rw [List.eq_of_mem_replicate hb]; decide⟩
    have hba : Below w4.heap.size w4 (w4.alloc (.cells Tryz.zeroCells130 130)) := (Below.refl _ _).alloc (Nat.le_refl _) _
    refine (set_any (by omega) (by omega) hdm).mono ?_
    rintro e w5 ⟨⟨b5, rfl⟩, neg5, cur5, nd5, dp5, tr5, g1, g2, g3, g4, g5⟩
    have hb5 : Below w4.heap.size w4 w5 := hba.trans (g3.below (Nat.le_refl _) (by simp))
    have hb5H := Lib.hid hb5
    have hs5 := hb5.size
    clear hga hdm hba g3 hb5
    cases b5 with
    | false =>
      clear g1 g2 g4 g5
      go_wp2_with fail
      go_ret3
      exact ⟨hb4H.out.trans (hb5H.out.mono (by omega)), _, _, _, (by first | exact Or.inr (Or.inl rfl) | exact Or.inr (Or.inr rfl)), rfl⟩
    | true =>
    have hbit : Calls Tryz.prog 87 #[.pointer (some ⟨w4.heap.size, 0, none⟩), .pointer (some ⟨5, 0, none⟩)] w5 (Bitted w4.heap.size w5) := by
      rcases Nat.eq_zero_or_pos nd5 with rfl | hnd
      · exact floatBits_nought hT4.out.flo hb5H.out g1
      · have hgd := g2.good hnd
        obtain ⟨d, hd9, hd⟩ := hgd.dgs 0 (Nat.le_refl _) hgd.pos
        have hd0 : d ≠ 0 := by
          rintro rfl
          exact hgd.head hd
        exact floatBits_any hT4.out.flo hT4.out.cheat hb5H.out (Nat.le_refl _) ⟨cur5, nd5, tr5, g1, hgd, hd, by omega, hd9⟩ ⟨by omega, by omega⟩
    have hbitH := Lib.hid hbit
    clear hbit g1 g2 g4 g5
    go_wp2_with fail
    refine hbitH.out.mono ?_
    rintro e w6 ⟨⟨z6, b6, rfl⟩, ho6⟩
    have hb6 := Lib.hid (hb4H.out.trans ((hb5H.out.trans (ho6.below (Nat.le_refl _) hs5)).mono (by omega)))
    clear hbitH ho6
    cases b6 with
    | true =>
      go_wp2_with fail
      go_ret3
      exact ⟨hb6.out, _, _, _, (by first | exact Or.inr (Or.inl rfl) | exact Or.inr (Or.inr rfl)), rfl⟩
    | false =>
      go_wp2_with fail
      go_ret3
      exact ⟨hb6.out, _, _, _, Or.inl rfl, rfl⟩
end Go.Proofs.YthagnngckegekaaGreatDoor

namespace Go.Proofs.YthagnngckegekaaGreatDoor
open Go.ChangeShapes Go.WideShapes Go.ChangeAt Go.RowKit Go.Joins
set_option linter.unusedVariables false
set_option linter.unusedSimpArgs false

theorem prefix_at {w : World} {s : ByteArray} (hT : Tabs w) (hs0 : 0 < s.size) (hs : s.size ≤ 1000) :
    Calls Tryz.prog 52 #[.string s, .int .i64 64] w (F3Out w) := by
  have hc := Lib.hid (atof64_at hT hs0 hs)
  clear hT hs0 hs
  go_enter Tryz.func52, Tryz.ntmps52
  go_wp2_with fail
  refine hc.out.mono ?_
  rintro e w2 ⟨hb, f, n, v, hv, rfl⟩
  have hbH := Lib.hid hb
  have hvH := Lib.hid hv
  clear hb hv
  go_wp2_with fail
  go_ret3
  exact ⟨hbH.out, _, _, _, hvH.out, rfl⟩
def F2Out (W : World) (e : Ending) (w' : World) : Prop := Below W.heap.size W w' ∧ ∃ (f : Nat) (v : Value), ErrV v ∧ e = .returned (.tuple #[.float .f64 f, v])
theorem parse_in {w : World} {s : ByteArray} (hT : Tabs w) (hs0 : 0 < s.size) (hs : s.size ≤ 1000) :
    Calls Tryz.prog 42 #[.string s, .int .i64 64] w (F2Out w) := by
  have hc := Lib.hid (prefix_at hT hs0 hs)
  clear hT hs0 hs
  go_enter Tryz.func42, Tryz.ntmps42
  go_wp2_with fail
  refine hc.out.mono ?_
  rintro e w2 ⟨hb, f, n, v, hv, rfl⟩
  have hbH := Lib.hid hb
  have hvH := Lib.hid hv
  clear hb hv hc
  rcases Bool.eq_false_or_eq_true (n != (s.size : Int)) with h | h
  · go_wp2_with fail
    go_ret2
    exact ⟨hbH.out, _, _, Or.inr (Or.inr rfl), rfl⟩
  · go_wp2_with fail
    go_ret2
    exact ⟨hbH.out, _, _, hvH.out, rfl⟩

/-- The errors of strconv lie in memory. -/
def ErrsAt (w : World) : Prop := ErrAt w ∧ ∃ ev, w.cell? ⟨2, 0, none⟩ = some ev ∧ (ev = .nilIface ∨ ∃ te pe, ev = .iface te pe)
theorem ErrsAt.bel {w w1 : World} (h : ErrsAt w) (hb : Below w.heap.size w w1) : ErrsAt w1 := by
  obtain ⟨h1, ev, h2, h3⟩ := h
  exact ⟨h1.bel hb, ev, cell_later hb h2, h3⟩

/-- A float, and no error or an error. -/
def PFOut (W : World) (e : Ending) (w' : World) : Prop := Below W.heap.size W w' ∧ ∃ (f : Nat) (v : Value), (v = .nilIface ∨ ∃ N : Nat, v = .iface 78 (.pointer (some ⟨N, 0, none⟩))) ∧ e = .returned (.tuple #[.float .f64 f, v])
set_option maxRecDepth 4000 in
theorem parseFloat_at {w : World} {s : ByteArray} (hT : Tabs w) (hE : ErrsAt w) (hs0 : 0 < s.size) (hs : s.size ≤ 1000) :
    Calls Tryz.prog 29 #[.string s, .int .i64 64] w (PFOut w) := by
  have hc := Lib.hid (parse_in hT hs0 hs)
  have hEH := Lib.hid hE
  have hsl := Lib.hid (show s.size ≤ 281474976710656 by omega)
  clear hT hs0 hs hE
  go_enter Tryz.func29, Tryz.ntmps29
  go_wp2_with fail
  refine hc.out.mono ?_
  rintro e w2 ⟨hb, f, v, hv, rfl⟩
  have hbH := Lib.hid hb
  have hsz := hb.size
  have hE2 := Lib.hid (hEH.out.bel hb)
  clear hb hc hEH
  rcases hv with rfl | rfl | rfl
  · go_wp2_with fail
    go_ret2
    exact ⟨hbH.out, _, _, Or.inl rfl, rfl⟩
  · obtain ⟨ev, hv1, hv2⟩ := hE2.out.2
    have hto := Lib.hid (Tryz.strconv_toError_range ⟨#[80, 97, 114, 115, 101, 70, 108, 111, 97, 116]⟩ s 0 64 ev w2 hsl.out hv1 hv2)
    clear hE2 hv1 hv2
    go_wp2_with fail
    refine hto.out.mono ?_
    rintro e w3 ⟨N, rfl, hN, hNc, hb3⟩
    have hb3H := Lib.hid (hbH.out.trans (hb3.mono hsz))
    clear hb3 hNc hto
    go_wp2_with fail
    go_ret2
    exact ⟨hb3H.out, _, _, Or.inr ⟨N, rfl⟩, rfl⟩
  · obtain ⟨ev, hv1, hv2⟩ := hE2.out.1
    have hto := Lib.hid (Tryz.strconv_toError_syntax ⟨#[80, 97, 114, 115, 101, 70, 108, 111, 97, 116]⟩ s 0 64 ev w2 hsl.out hv1 hv2)
    clear hE2 hv1 hv2
    go_wp2_with fail
    refine hto.out.mono ?_
    rintro e w3 ⟨N, rfl, hN, hNc, hb3⟩
    have hb3H := Lib.hid (hbH.out.trans (hb3.mono hsz))
    clear hb3 hNc hto
    go_wp2_with fail
    go_ret2
    exact ⟨hb3H.out, _, _, Or.inr ⟨N, rfl⟩, rfl⟩
end Go.Proofs.YthagnngckegekaaGreatDoor
