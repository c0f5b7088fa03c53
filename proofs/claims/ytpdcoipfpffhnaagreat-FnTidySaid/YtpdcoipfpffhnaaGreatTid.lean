/-
  tidied at what is no object. Conditions: none.
-/
import Derived.Test.YtpdcoipfpffhnaaGreatVal4
namespace Go.Proofs.YtpdcoipfpffhnaaGreat
open Go.ChangeShapes Go.WideShapes Go.ChangeAt Go.RowKit
set_option linter.unusedVariables false
set_option linter.unusedSimpArgs false
attribute [local go_sem] store_float'

def TidAt (on oe : Bool) (v : V) : Prop := ∀ (ok : Nat → Prop) (A B : Option Addr) (ca cb : Nat) (w : World), Bds v ca cb → Strs ok w B v.keys → Vals ok w A v.l →
  Calls Tryz.prog 9 #[.agg #[.int .i64 v.kind, .int .i64 v.n, .float .f64 v.f, .string v.s, .slice A v.l.length ca, .slice B v.keys.length cb], .bool on, .bool oe] w (RetV (v.tidy on oe) (fun k => w.heap.size ≤ k) w)

theorem add_none (g i : Nat) : (⟨g, 0, none⟩ : Addr).add i = ⟨g, i, none⟩ := by unfold Addr.add; split <;> simp_all
/-- The row of what has been tidied. -/
def TdSt (n0 : Nat) (wS : World) (hd : V) (w : World) (l2 : List V) (ks : List ByteArray) (AL : Option Addr) (m cL : Nat) (AK : Option Addr) (mk cK : Nat) : Prop := ∃ ok, BSt n0 wS hd w (.slice AL m cL) (.slice AK mk cK) (.slice AL m cL) (.slice AK mk cK) l2 ks ok ∧ l2.length = m ∧ ks.length = mk

theorem TdSt.start (wS w : World) (hd : V) (n0 : Nat) (hz : Zero6 w n0) (hb : w.heap[n0 + 1]? = some (.cells #[.int .i64 hd.kind, .int .i64 hd.n, .float .f64 hd.f, .string hd.s, .slice none 0 0, .slice none 0 0] 26 (0, 0))) (hbel : Below n0 wS w) : TdSt n0 wS hd w [] [] none 0 0 none 0 0 :=
  ⟨fun _ => False, ⟨hb, hz, VOwn.nil _ _ _, World.ownsRow_nil _ _ _ _, fun k hk => hk.elim, fun g hg => by simp [Value.ownBlock] at hg, hbel⟩, rfl, rfl⟩

theorem td_start (W : World) (hd : V) : TdSt W.heap.size W hd ((W.alloc (.cells #[.int .i64 0, .int .i64 0, .float .f64 0, .string ⟨#[]⟩, .slice none 0 0, .slice none 0 0] 26)).alloc (.cells #[.int .i64 hd.kind, .int .i64 hd.n, .float .f64 hd.f, .string hd.s, .slice none 0 0, .slice none 0 0] 26)) [] [] none 0 0 none 0 0 := by
  have hz := (zero_new W 26).bel (below_alloc _ (.cells #[.int .i64 hd.kind, .int .i64 hd.n, .float .f64 hd.f, .string hd.s, .slice none 0 0, .slice none 0 0] 26)) (by rw [alloc_size]; exact Nat.lt_succ_self _)
  have hb := heap_alloc_new (W.alloc (.cells #[.int .i64 0, .int .i64 0, .float .f64 0, .string ⟨#[]⟩, .slice none 0 0, .slice none 0 0] 26)) (.cells #[.int .i64 hd.kind, .int .i64 hd.n, .float .f64 hd.f, .string hd.s, .slice none 0 0, .slice none 0 0] 26)
  rw [alloc_size] at hb
  exact TdSt.start _ _ hd _ hz hb (below_two _ _ _)
section
variable {n0 : Nat} {wS w w2 : World} {hd : V} {l2 : List V} {ks : List ByteArray} {AL AK : Option Addr} {m cL mk cK : Nat}
theorem TdSt.bel (h : TdSt n0 wS hd w l2 ks AL m cL AK mk cK) : Below n0 wS w := by
  obtain ⟨ok, h1, _⟩ := h
  exact h1.bel
theorem TdSt.below (h : TdSt n0 wS hd w l2 ks AL m cL AK mk cK) (hb : Below w.heap.size w w2) : TdSt n0 wS hd w2 l2 ks AL m cL AK mk cK := by
  obtain ⟨ok, h1, h2⟩ := h
  exact ⟨ok, h1.below hb, h2⟩
theorem TdSt.c4 (h : TdSt n0 wS hd w l2 ks AL m cL AK mk cK) : w.cell? ⟨n0 + 1, 4, none⟩ = some (.slice AL m cL) := by
  obtain ⟨ok, h1, _⟩ := h
  exact h1.c4.1
theorem TdSt.c5 (h : TdSt n0 wS hd w l2 ks AL m cL AK mk cK) : w.cell? ⟨n0 + 1, 5, none⟩ = some (.slice AK mk cK) := by
  obtain ⟨ok, h1, _⟩ := h
  exact h1.c5.1
theorem TdSt.addL (h : TdSt n0 wS hd w l2 ks AL m cL AK mk cK) (hb : Below w.heap.size w w2) {v2 : V} {A2 B2 : Option Addr} {c2 d2 : Nat} (hbd : Bds v2 c2 d2) (hB : Strs (fun k => w.heap.size ≤ k) w2 B2 v2.keys) (hA : Vals (fun k => w.heap.size ≤ k) w2 A2 v2.l) (hl : l2.length ≤ 1000000) (ty : TypeId) :
    ∃ A3 c3 w3, (Builtin.append_ #[23, 23] ty #[.slice AL m cL, .slice (some ⟨w2.heap.size, 0, none⟩) 1 1]).run Tryz.prog (w2.alloc (valObj v2 A2 c2 B2 d2)) = .ok (.slice A3 (m + 1) c3) w3 ∧ w3.cell? ⟨n0 + 1, 4, none⟩ = some (.slice AL m cL) ∧ w3.frozen? ⟨n0 + 1, 4, none⟩ = false ∧ TdSt n0 wS hd (w3.setCell ⟨n0 + 1, 4, none⟩ (.slice A3 (m + 1) c3)) (l2 ++ [v2]) ks A3 (m + 1) c3 AK mk cK := by
  obtain ⟨ok, h1, h2, h3⟩ := h
  obtain ⟨A3, c3, w3, hrun, ok', hst⟩ := h1.stepL hb hbd hB hA hl ty
  rw [h2] at hrun hst
  exact ⟨A3, c3, w3, hrun, hst.c4.1, hst.c4.2, ok', hst.set4 _, by simp [h2], h3⟩
theorem TdSt.addK (h : TdSt n0 wS hd w l2 ks AL m cL AK mk cK) (key : ByteArray) (hl : ks.length ≤ 1000000) (ty : TypeId) :
    ∃ A3 c3 w3, (Builtin.append_ #[24, 24] ty #[.slice AK mk cK, .slice (some ⟨w.heap.size, 0, none⟩) 1 1]).run Tryz.prog (w.alloc (.cells #[.string key] 9)) = .ok (.slice A3 (mk + 1) c3) w3 ∧ w3.cell? ⟨n0 + 1, 5, none⟩ = some (.slice AK mk cK) ∧ w3.frozen? ⟨n0 + 1, 5, none⟩ = false ∧ TdSt n0 wS hd (w3.setCell ⟨n0 + 1, 5, none⟩ (.slice A3 (mk + 1) c3)) l2 (ks ++ [key]) AL m cL A3 (mk + 1) c3 := by
  obtain ⟨ok, h1, h2, h3⟩ := h
  obtain ⟨A3, c3, w3, hrun, hst, _⟩ := h1.stepK key hl ty
  rw [h3] at hrun hst
  exact ⟨A3, c3, w3, hrun, hst.c5.1, hst.c5.2, ok, hst.set5 _, h2, by simp [h3]⟩
/-- The box read, when all has been laid. -/
theorem TdSt.read (h : TdSt n0 wS hd w l2 ks AL m cL AK mk cK) (hsm : ∀ s ∈ ks, s.size ≤ 140737488351232) : (∀ (j : Nat) u, (#[.int .i64 hd.kind, .int .i64 hd.n, .float .f64 hd.f, .string hd.s, .slice AL m cL, .slice AK mk cK] : Array Value)[j]? = some u → w.cell? ⟨n0 + 1, j, none⟩ = some u) ∧ Zero6 w n0 ∧ m = l2.length ∧ mk = ks.length ∧ (m ≤ cL ∧ cL ≤ 9223372036854775807) ∧ (mk ≤ cK ∧ cK ≤ 9223372036854775807) ∧ n0 + 2 ≤ w.heap.size ∧ Vals (fun k => n0 + 2 ≤ k) w AL l2 ∧ Strs (fun k => n0 + 2 ≤ k) w AK ks := by
  obtain ⟨ok, h1, h2, h3⟩ := h
  have hcL := run_len_ok (h1.vown.choose_spec.2.1)
  have hcK := run_len_ok h1.kown
  rw [h2] at hcL
  rw [h3] at hcK
  refine ⟨fun j u hu => by unfold World.cell?; dsimp only; rw [h1.blk]; exact hu, h1.zero, h2.symm, h3.symm, hcL, hcK, h1.lt, h1.vown.vals (fun k hk => (h1.okb k hk).1) (fun k hk => hk), fun hne => ?_⟩
  rcases row_form h1.kown with ⟨e, h0⟩ | ⟨g, c, cur, e, hB, hb, hxs⟩
  · exact absurd (List.eq_nil_of_length_eq_zero h0) hne
  · simp only [Value.slice.injEq] at e
    rw [Nat.mul_one] at hxs
    refine ⟨⟨g, 0, none⟩, e.1, hB, fun i s hi => ⟨?_, hsm s (get_mem hi)⟩⟩
    have hadd : (⟨g, 0, none⟩ : Addr).add i = ⟨g, i, none⟩ := add_none g i
    rw [hadd]
    exact row_at hb hxs (by show (ks.map Value.string)[i]? = _; rw [List.getElem?_map, hi]; rfl)
end

set_option maxRecDepth 100000 in
set_option maxHeartbeats 4000000 in
theorem tidied_arr (on oe : Bool) (v : V) (h8 : v.kind ≠ 8) (hlm : v.l.length ≤ 1000000) (ih : ∀ x ∈ v.l, TidAt on oe x) : TidAt on oe v := by
  intro ok A B ca cb w hbd hB hA
  have hk8 : (v.kind == 8) = false := beq_eq_false_iff_ne.2 h8
  have H : Hid (∀ x ∈ v.l, TidAt on oe x) := ih
  have hAH := Lib.hid hA
  have hbdH := Lib.hid hbd
  have h8H := Lib.hid h8
  clear hB hA ih hbd h8
  have hbox0 : Below (w.heap.size + 1) (w.alloc (valObj v A ca B cb)) (w.alloc (valObj v A ca B cb)) := Below.refl _ _
  obtain ⟨⟨b0, b1, b2, b3, b4, b5⟩, _⟩ := boxed hbox0
  obtain ⟨⟨b0', b1', b2', b3', b4', b5'⟩, _⟩ := boxed (hbox0.alloc (by rw [alloc_size]; omega) (.cells #[.int .i64 0, .int .i64 0, .float .f64 0, .string ⟨#[]⟩, .slice none 0 0, .slice none 0 0] 26))
  simp only [valObj] at b0' b1' b2' b3' b4' b5'
  go_enter Tryz.func9, Tryz.ntmps9
  go_wp2_with fail
  have hstart : Hid (TdSt (w.heap.size + 1) (w.alloc (valObj v A ca B cb)) v (((w.alloc (valObj v A ca B cb)).alloc (.cells #[.int .i64 0, .int .i64 0, .float .f64 0, .string ⟨#[]⟩, .slice none 0 0, .slice none 0 0] 26)).alloc (.cells #[.int .i64 v.kind, .int .i64 v.n, .float .f64 v.f, .string v.s, .slice none 0 0, .slice none 0 0] 26)) (V.tidyA on oe (v.l.take 0)) [] none 0 0 none 0 0) := by
    have h := td_start (w.alloc (valObj v A ca B cb)) v
    rw [alloc_size] at h
    exact h
  clear b0 b1 b2 b3 b4 b5 b0' b1' b2' b3' b4' b5' hbox0
  go_loopw [8] (fun i wr => ∃ (j m : Nat) (AL : Option Addr) (cL : Nat), j ≤ v.l.length ∧ i = .int .i64 j ∧ Hid (TdSt (w.heap.size + 1) (w.alloc (valObj v A ca B cb)) v wr (V.tidyA on oe (v.l.take j)) [] AL m cL none 0 0)) (fun i _ => v.l.length - (intOf i).toNat)
  case atStart => exact ⟨0, 0, none, 0, by omega, rfl, hstart⟩
  case round =>
    clear hstart
    obtain ⟨j, m, AL, cL, hj, rfl, hst⟩ := hrel
    have hbel := hst.out.bel
    obtain ⟨⟨b0, b1, b2, b3, b4, b5⟩, hbw⟩ := boxed hbel
    have hsz : w.heap.size + 1 ≤ wr.heap.size := below_boxed_size hbel
    by_cases hlt : j < v.l.length
    · obtain ⟨x, hx⟩ := get_lt hlt
      obtain ⟨ad, Ai, ci, Bi, di, hAe, _, ⟨e0, e1, e2, e3, e4, e5⟩, hbx, hBx, hAx⟩ := (hAH.out.bel hbw).at_ hx
      subst hAe
      have hca := Lib.hid (H.out x (get_mem hx) ok Ai Bi ci di wr hbx hBx hAx)
      have hxH := Lib.hid hx
      have j0 : (0 : Int) ≤ (j : Int) := by omega
      have j1 : (j : Int) < (v.l.length : Int) := by omega
      clear hx hBx hAx hbx
      go_wp2_with fail
      refine hca.out.mono ?_
      rintro e w2 ⟨A2, c2, B2, d2, rfl, hbd2, hB2, hA2, hb2⟩
      obtain ⟨y, hy⟩ : ∃ y, y = x.tidy on oe := ⟨_, rfl⟩
      rw [← hy] at hbd2 hB2 hA2
      have hyH := Lib.hid hy
      rw [← hy]
      have hb3 : Below wr.heap.size wr (w2.alloc (valObj y A2 c2 B2 d2)) := hb2.trans ((below_alloc w2 _).mono hb2.size)
      have hbox2 : Below (w.heap.size + 1) (w.alloc (valObj v (some ad) ca B cb)) (w2.alloc (valObj y A2 c2 B2 d2)) := hbel.trans (hb3.mono hsz)
      obtain ⟨⟨g0, g1, g2, g3, g4, g5⟩, _⟩ := boxed hbox2
      have q4 := (hst.out.below hb3).c4
      have hlenA : (V.tidyA on oe (v.l.take j)).length ≤ 1000000 := by rw [tidyA_len, List.length_take]; omega
      obtain ⟨A3, c3, w3, hrun0, k4, f4, hnew⟩ := hst.out.addL hb3 hbd2 (hB2.bel (below_alloc w2 _)) (hA2.bel (below_alloc w2 _)) hlenA 23
      have hnew' : Hid (TdSt (w.heap.size + 1) (w.alloc (valObj v (some ad) ca B cb)) v (w3.setCell ⟨w.heap.size + 1 + 1, 4, none⟩ (.slice A3 (m + 1) c3)) (V.tidyA on oe (v.l.take (j + 1))) [] A3 (m + 1) c3 none 0 0) := by
        rw [take_get hxH.out, tidyA_map, List.map_append, List.map_cons, List.map_nil, ← tidyA_map, ← hyH.out]
        exact hnew
      have hrun := Lib.hid hrun0
      obtain ⟨⟨n0, n1, n2, n3, n4, n5⟩, _⟩ := boxed (hnew'.out.bel)
      simp only [valObj] at g0 g1 g2 g3 g4 g5 q4
      clear hca hb2 hb3 hbox2 hst hbel hnew hrun0 hy hbd2 hB2 hA2
      go_wp2_with (at_builtin; refine wpList_append_is rfl (.tmp 53) (.tmp 55) 23 rfl (.slice AL m cL) (.slice (some ⟨w2.heap.size + 1, 0, none⟩) 1 1) rfl rfl (.slice A3 (m + 1) c3) w3 (by have h := hrun.out; rw [alloc_size] at h; exact h) ?_)
      go_wp2_with fail
      go_roundw
      case rel => exact ⟨j + 1, m + 1, A3, c3, by omega, by go_num, hnew'⟩
      case measure => simp [intOf]; omega
    · obtain rfl : j = v.l.length := by omega
      have hst2 := hst.out
      rw [List.take_length] at hst2
      obtain ⟨hc, hz, hmm, hm0, hcL, hcK, hsz2, hvals, hstr⟩ := hst2.read (by simp)
      subst hmm
      clear hm0 hcK hstr
      obtain ⟨z0, z1, z2, z3, z4, z5, f0, f1, f2, f3, f4, f5⟩ := hz
      have d0 := hc 0 _ rfl
      have d1 := hc 1 _ rfl
      have d2 := hc 2 _ rfl
      have d3 := hc 3 _ rfl
      have d4 := hc 4 _ rfl
      have d5 := hc 5 _ rfl
      have hvH := Lib.hid hvals
      have hbwH := Lib.hid hbw
      have hll : Hid ((v.tidy on oe).l = V.tidyA on oe v.l) := by rw [tidy_eq]; show (if v.kind = 8 then _ else _) = _; rw [if_neg h8H.out]
      have hkk : Hid ((v.tidy on oe).keys = []) := by rw [tidy_eq]; show (if v.kind = 8 then _ else _) = _; rw [if_neg h8H.out]
      obtain ⟨q, hq⟩ : ∃ q, q = (V.tidyA on oe v.l).length := ⟨_, rfl⟩
      rw [← hq] at d4 hcL
      have hcLH := Lib.hid hcL
      clear hcL
      have hqH := Lib.hid hq
      have hlmH := Lib.hid hlm
      clear hst hst2 hc hvals hq hbel
      go_wp2_with fail
      have hfar : ∀ k, w.heap.size + 1 + 2 ≤ k → ((((((wr.setCell ⟨w.heap.size + 1, 0, none⟩ (.int .i64 v.kind)).setCell ⟨w.heap.size + 1, 1, none⟩ (.int .i64 v.n)).setCell ⟨w.heap.size + 1, 2, none⟩ (.float .f64 v.f)).setCell ⟨w.heap.size + 1, 3, none⟩ (.string v.s)).setCell ⟨w.heap.size + 1, 4, none⟩ (.slice AL q cL)).setCell ⟨w.heap.size + 1, 5, none⟩ (.slice none 0 0)).heap[k]? = wr.heap[k]? := fun k hk => by
        have hk' : k ≠ w.heap.size + 1 := by omega
        rw [set_far _ _ _ hk', set_far _ _ _ hk', set_far _ _ _ hk', set_far _ _ _ hk', set_far _ _ _ hk', set_far _ _ _ hk']
      have hbf := ((((((hbwH.out.setCell (p := ⟨w.heap.size + 1, 0, none⟩) (by simp) (.int .i64 v.kind)).setCell (p := ⟨w.heap.size + 1, 1, none⟩) (by simp) (.int .i64 v.n)).setCell (p := ⟨w.heap.size + 1, 2, none⟩) (by simp) (.float .f64 v.f)).setCell (p := ⟨w.heap.size + 1, 3, none⟩) (by simp) (.string v.s)).setCell (p := ⟨w.heap.size + 1, 4, none⟩) (by simp) (.slice AL q cL)).setCell (p := ⟨w.heap.size + 1, 5, none⟩) (by simp) (.slice none 0 0))
      have hll2 := hll.out
      have hkk2 := hkk.out
      have htl : (v.tidy on oe).l.length = q := by rw [hll2, hqH.out]
      have hql : q ≤ 1000000 := by rw [hqH.out, tidyA_len]; exact hlmH.out
      refine bodyPost_ret (v := .agg #[.int .i64 v.kind, .int .i64 v.n, .float .f64 v.f, .string v.s, .slice AL q cL, .slice none 0 0]) (by simp [results, Tryz.results9, go_sem, z0, z1, z2, z3, z4, z5]) rfl
        ⟨AL, cL, none, 0, ?_, ⟨?_, ?_, ?_, ?_, ?_, hcLH.out.2, ?_, ?_, ?_, ?_⟩, ?_, ?_, hbf⟩
      · rw [htl, hkk2, tidy_eq]; rfl
      · rw [tidy_eq]; exact hbdH.out.k
      · rw [tidy_eq]; exact hbdH.out.n
      · rw [tidy_eq]; exact hbdH.out.f
      · rw [tidy_eq]; exact hbdH.out.s
      · rw [htl]; exact hcLH.out.1
      · rw [hkk2]; exact Nat.le_refl _
      · omega
      · rw [htl]; omega
      · rw [hkk2]; simp
      · rw [hkk2]; exact fun h => absurd rfl h
      · rw [hll2]; exact (hvH.out.move hfar).mono (fun k hk => by omega)
end Go.Proofs.YtpdcoipfpffhnaaGreat
