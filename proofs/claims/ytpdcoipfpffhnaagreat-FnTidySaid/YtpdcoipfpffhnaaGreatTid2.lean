/-
  tidied at objects, and whole. Conditions: none.
-/
import Derived.Test.YtpdcoipfpffhnaaGreatTid
namespace Go.Proofs.YtpdcoipfpffhnaaGreat
open Go.ChangeShapes Go.WideShapes Go.ChangeAt Go.RowKit
set_option linter.unusedVariables false
set_option linter.unusedSimpArgs false
attribute [local go_sem] store_float'

theorem TdSt.drew {n0 : Nat} {wS w : World} {hd : V} {l2 : List V} {ks : List ByteArray} {AL AK : Option Addr} {m cL mk cK : Nat} (h : TdSt n0 wS hd w l2 ks AL m cL AK mk cK) : TdSt n0 wS hd w.drew l2 ks AL m cL AK mk cK := by
  obtain ⟨ok, h1, h2⟩ := h
  exact ⟨ok, h1.drew, h2⟩
/-- The state at the head of a round. -/
def TdAt (on oe : Bool) (v : V) (w0 w1 w : World) (AL : Option Addr) (m cL : Nat) (AK : Option Addr) (mk cK j : Nat) : Prop := TdSt (w0.heap.size + 1) w1 v w (V.tidyL on oe (v.keys.take j) (v.l.take j)) (V.tidyK on oe (v.keys.take j) (v.l.take j)) AL m cL AK mk cK
theorem keyLen (on oe : Bool) (v : V) (j : Nat) : (V.tidyL on oe (v.keys.take j) (v.l.take j)).length ≤ v.keys.length ∧ (V.tidyK on oe (v.keys.take j) (v.l.take j)).length ≤ v.keys.length := by
  have h1 := (tidy_sub on oe (v.keys.take j) (v.l.take j)).length_le
  rw [List.length_take] at h1
  rw [← tidyK_len]
  constructor <;> omega
theorem TdAt.drop {on oe : Bool} {v : V} {w0 w1 w w2 : World} {AL AK : Option Addr} {m cL mk cK j : Nat} {x : V} (h : TdAt on oe v w0 w1 w AL m cL AK mk cK j) (hln : v.keys.length = v.l.length) (hx : v.l[j]? = some x) (hd : (x.tidy on oe).drop on oe = true) (hb : Below w.heap.size w w2) : TdAt on oe v w0 w1 w2 AL m cL AK mk cK (j + 1) := by
  obtain ⟨k, hk⟩ : ∃ k, v.keys[j]? = some k := get_lt (by rw [hln]; exact (List.getElem?_eq_some_iff.1 hx).1)
  unfold TdAt
  rw [take_get hx, take_get hk, tidyL_append on oe _ _ _ _ (by simp [hln]), tidyK_append on oe _ _ _ _ (by simp [hln]), hd]
  simp only [if_true, List.append_nil]
  exact h.below hb
theorem TdSt.kept {on oe : Bool} {v : V} {w0 w1 w : World} {AL AK : Option Addr} {m cL mk cK j : Nat} {x : V} {k : ByteArray} (hln : v.keys.length = v.l.length) (hx : v.l[j]? = some x) (hk : v.keys[j]? = some k) (hd : (x.tidy on oe).drop on oe = false) (h : TdSt (w0.heap.size + 1) w1 v w (V.tidyL on oe (v.keys.take j) (v.l.take j) ++ [x.tidy on oe]) (V.tidyK on oe (v.keys.take j) (v.l.take j) ++ [k]) AL m cL AK mk cK) : TdAt on oe v w0 w1 w AL m cL AK mk cK (j + 1) := by
  unfold TdAt
  rw [take_get hx, take_get hk, tidyL_append on oe _ _ _ _ (by simp [hln]), tidyK_append on oe _ _ _ _ (by simp [hln]), hd]
  exact h

set_option maxRecDepth 100000 in
set_option maxHeartbeats 8000000 in
theorem tidied_obj (on oe : Bool) (v : V) (h8 : v.kind = 8) (hvo : v.Ok) (hln : v.keys.length = v.l.length) (hkm : v.keys.length ≤ 1000000) (hsm : ∀ s ∈ v.keys, s.size ≤ 140737488351232) (ih : ∀ x ∈ v.l, TidAt on oe x) : TidAt on oe v := by
  intro ok A B ca cb w hbd hB hA
  have hk8 : (v.kind == 8) = true := beq_iff_eq.2 h8
  have H : Hid (∀ x ∈ v.l, TidAt on oe x) := ih
  have hAH := Lib.hid hA
  have hBH := Lib.hid hB
  have hbdH := Lib.hid hbd
  have h8H := Lib.hid h8
  have hlnH := Lib.hid hln
  have hsmH := Lib.hid hsm
  have hvoH := Lib.hid hvo
  clear hB hA ih hbd h8 hln hsm hvo
  have hbox0 : Below (w.heap.size + 1) (w.alloc (valObj v A ca B cb)) (w.alloc (valObj v A ca B cb)) := Below.refl _ _
  obtain ⟨⟨b0, b1, b2, b3, b4, b5⟩, _⟩ := boxed hbox0
  obtain ⟨⟨b0', b1', b2', b3', b4', b5'⟩, _⟩ := boxed (hbox0.alloc (by rw [alloc_size]; omega) (.cells #[.int .i64 0, .int .i64 0, .float .f64 0, .string ⟨#[]⟩, .slice none 0 0, .slice none 0 0] 26))
  simp only [valObj] at b0' b1' b2' b3' b4' b5'
  go_enter Tryz.func9, Tryz.ntmps9
  go_wp2_with fail
  have hstart : Hid (TdAt on oe v w (w.alloc (valObj v A ca B cb)) (((w.alloc (valObj v A ca B cb)).alloc (.cells #[.int .i64 0, .int .i64 0, .float .f64 0, .string ⟨#[]⟩, .slice none 0 0, .slice none 0 0] 26)).alloc (.cells #[.int .i64 v.kind, .int .i64 v.n, .float .f64 v.f, .string v.s, .slice none 0 0, .slice none 0 0] 26)) none 0 0 none 0 0 0) := by
    have h := td_start (w.alloc (valObj v A ca B cb)) v
    rw [alloc_size] at h
    unfold TdAt
    simp only [List.take_zero, V.tidyL, V.tidyK]
    exact h
  clear b0 b1 b2 b3 b4 b5 b0' b1' b2' b3' b4' b5' hbox0
  go_loopw [8] (fun i wr => ∃ (j m : Nat) (AL : Option Addr) (cL mk : Nat) (AK : Option Addr) (cK : Nat), j ≤ v.l.length ∧ i = .int .i64 j ∧ Hid (TdAt on oe v w (w.alloc (valObj v A ca B cb)) wr AL m cL AK mk cK j)) (fun i _ => v.l.length - (intOf i).toNat)
  case atStart => exact ⟨0, 0, none, 0, 0, none, 0, by omega, rfl, hstart⟩
  case round =>
    clear hstart
    obtain ⟨j, m, AL, cL, mk, AK, cK, hj, rfl, hst⟩ := hrel
    have hbel : Below (w.heap.size + 1) (w.alloc (valObj v A ca B cb)) wr := TdSt.bel hst.out
    obtain ⟨⟨b0, b1, b2, b3, b4, b5⟩, hbw⟩ := boxed hbel
    have hsz : w.heap.size + 1 ≤ wr.heap.size := below_boxed_size hbel
    by_cases hlt : j < v.l.length
    · obtain ⟨x, hx⟩ := get_lt hlt
      obtain ⟨key, hkey⟩ : ∃ k, v.keys[j]? = some k := get_lt (by rw [hlnH.out]; exact hlt)
      obtain ⟨ad, Ai, ci, Bi, di, hAe, _, ⟨e0, e1, e2, e3, e4, e5⟩, hbx, hBx, hAx⟩ := (hAH.out.bel hbw).at_ hx
      obtain ⟨adk, hBe, _, hck, _⟩ := (hBH.out.lt.bel hbw).at_ hkey
      have hkb : adk.block < w.heap.size := by
        obtain ⟨adk2, e, hlt2, _⟩ := hBH.out.lt.at_ hkey
        rw [hBe] at e
        obtain rfl := Option.some.inj e
        exact hlt2.2
      subst hAe hBe
      have hca := Lib.hid (H.out x (get_mem hx) ok Ai Bi ci di wr hbx hBx hAx)
      have hxH := Lib.hid hx
      have hkeyH := Lib.hid hkey
      have j0 : (0 : Int) ≤ (j : Int) := by omega
      have j1 : (j : Int) < (v.l.length : Int) := by omega
      have j2 : (j : Int) < (v.keys.length : Int) := by rw [hlnH.out]; omega
      have hckH := Lib.hid hck
      clear hx hBx hAx hbx hkey hck
      go_wp2_with fail
      refine hca.out.mono ?_
      rintro e w2 ⟨A2, c2, B2, d2, rfl, hbd2, hB2, hA2, hb2⟩
      obtain ⟨y, hy⟩ : ∃ y, y = x.tidy on oe := ⟨_, rfl⟩
      have hyk : y.kind = 1 ∨ y.kind = 2 ∨ y.kind = 3 ∨ y.kind = 4 ∨ y.kind = 5 ∨ y.kind = 7 ∨ y.kind = 8 := by
        rw [hy]
        have := V.Ok.tidy (on := on) (oe := oe) x (hvoH.out.kids x (get_mem hxH.out))
        cases this <;> omega
      rw [← hy] at hbd2 hB2 hA2
      have hyH := Lib.hid hy
      rw [← hy]
      have hykH := Lib.hid hyk
      have hdr : y.drop on oe = ((on && decide (y.kind = 1)) || (oe && y.bare)) := rfl
      have hdrH := Lib.hid hdr
      have hb3 : Below wr.heap.size wr (w2.alloc (valObj y A2 c2 B2 d2)) := hb2.trans ((below_alloc w2 _).mono hb2.size)
      have hxb := cells_new w2 #[.int .i64 y.kind, .int .i64 y.n, .float .f64 y.f, .string y.s, .slice A2 y.l.length c2, .slice B2 y.keys.length d2] 26
      have hbox2 : Below (w.heap.size + 1) (w.alloc (valObj v (some ad) ca (some adk) cb)) (w2.alloc (valObj y A2 c2 B2 d2)) := hbel.trans (hb3.mono hsz)
      have hsz2 : w.heap.size + 1 ≤ w2.heap.size := Nat.le_trans hsz hb2.size
      have hlenA := keyLen on oe v j
      have hB2' := Lib.hid hB2
      have hA2' := Lib.hid hA2
      have hb2H := Lib.hid hb2
      have hb3H := Lib.hid hb3
      have hbox2H := Lib.hid hbox2
      have hlenH := Lib.hid hlenA
      have hxbH := Lib.hid hxb
      -- kept, at a world behind
      have hkeep : Hid (∀ wD, Below (w2.heap.size + 1) (w2.alloc (valObj y A2 c2 B2 d2)) wD → y.drop on oe = false → ∃ A3 c3 w3, (Builtin.append_ #[23, 23] 23 #[.slice AL m cL, .slice (some ⟨wD.heap.size, 0, none⟩) 1 1]).run Tryz.prog (wD.alloc (valObj y A2 c2 B2 d2)) = .ok (.slice A3 (m + 1) c3) w3 ∧ w3.cell? ⟨w.heap.size + 1 + 1, 4, none⟩ = some (.slice AL m cL) ∧ w3.frozen? ⟨w.heap.size + 1 + 1, 4, none⟩ = false ∧
          ∃ A4 c4 w4, (Builtin.append_ #[24, 24] 24 #[.slice AK mk cK, .slice (some ⟨(w3.setCell ⟨w.heap.size + 1 + 1, 4, none⟩ (.slice A3 (m + 1) c3)).heap.size, 0, none⟩) 1 1]).run Tryz.prog ((w3.setCell ⟨w.heap.size + 1 + 1, 4, none⟩ (.slice A3 (m + 1) c3)).drew.alloc (.cells #[.string key] 9)) = .ok (.slice A4 (mk + 1) c4) w4 ∧ w4.cell? ⟨w.heap.size + 1 + 1, 5, none⟩ = some (.slice AK mk cK) ∧ w4.frozen? ⟨w.heap.size + 1 + 1, 5, none⟩ = false ∧ Hid (TdAt on oe v w (w.alloc (valObj v (some ad) ca (some adk) cb)) (w4.setCell ⟨w.heap.size + 1 + 1, 5, none⟩ (.slice A4 (mk + 1) c4)) A3 (m + 1) c3 A4 (mk + 1) c4 (j + 1)) ∧
          (∀ W, (W = w3.setCell ⟨w.heap.size + 1 + 1, 4, none⟩ (.slice A3 (m + 1) c3) ∨ W = (w3.setCell ⟨w.heap.size + 1 + 1, 4, none⟩ (.slice A3 (m + 1) c3)).alloc (.cells #[.string key] 9)) → W.cell? ⟨w.heap.size + 1 + 1, 5, none⟩ = some (.slice AK mk cK) ∧ W.cell? ⟨w.heap.size, 0, none⟩ = some (.int .i64 v.kind) ∧ W.cell? ⟨w.heap.size, 5, none⟩ = some (.slice (some adk) v.keys.length cb) ∧ W.cell? (adk.add j) = some (.string key))) := by
        intro wD hwD hd
        have hbD : Below wr.heap.size wr wD := hb3.trans (hwD.mono (by have := hb2.size; omega))
        have hbAl : Below w2.heap.size w2 wD := (below_alloc w2 (valObj y A2 c2 B2 d2)).trans (hwD.mono (by omega))
        obtain ⟨A3, c3, w3, hrun, k4, f4, hnew⟩ := TdSt.addL hst.out hbD hbd2 (hB2.bel hbAl) (hA2.bel hbAl) (by have := hlenH.out.1; omega) 23
        obtain ⟨A4, c4, w4, hrunK, k5, f5, hnewK⟩ := hnew.drew.addK key (by have := hlenH.out.2; omega) 24
        refine ⟨A3, c3, w3, hrun, k4, f4, A4, c4, w4, hrunK, k5, f5, ?_, fun W hW => ?_⟩
        · rw [hy] at hnewK hd
          exact TdSt.kept hlnH.out hxH.out hkeyH.out hd hnewK
        · have hbW : Below (w.heap.size + 1) (w.alloc (valObj v (some ad) ca (some adk) cb)) W := by
            rcases hW with rfl | rfl
            · exact hnew.bel
            · exact (hnew.below (below_alloc _ _)).bel
          have hc5 : W.cell? ⟨w.heap.size + 1 + 1, 5, none⟩ = some (.slice AK mk cK) := by
            rcases hW with rfl | rfl
            · exact hnew.c5
            · exact (hnew.below (below_alloc _ _)).c5
          obtain ⟨⟨p0, p1, p2, p3, p4, p5⟩, hpw⟩ := boxed hbW
          refine ⟨hc5, p0, p5, ?_⟩
          have h1 : W.cell? (adk.add j) = w.cell? (adk.add j) := hpw.cell (by rw [add_block]; exact hkb)
          have h2 : wr.cell? (adk.add j) = w.cell? (adk.add j) := hbw.cell (by rw [add_block]; exact hkb)
          exact h1.trans (h2.symm.trans hckH.out)
      clear hca hb2 hb3 hbox2 hxb hy hbd2 hB2 hA2 hyk hdr hlenA hbel
      have hstd := hst
      obtain ⟨⟨g0, g1, g2, g3, g4, g5⟩, _⟩ := boxed hbox2H.out
      have x0 : (w2.alloc (valObj y A2 c2 B2 d2)).cell? ⟨w2.heap.size, 0, none⟩ = some (.int .i64 y.kind) := hxbH.out 0
      have x1 : (w2.alloc (valObj y A2 c2 B2 d2)).cell? ⟨w2.heap.size, 1, none⟩ = some (.int .i64 y.n) := hxbH.out 1
      have x2 : (w2.alloc (valObj y A2 c2 B2 d2)).cell? ⟨w2.heap.size, 2, none⟩ = some (.float .f64 y.f) := hxbH.out 2
      have x3 : (w2.alloc (valObj y A2 c2 B2 d2)).cell? ⟨w2.heap.size, 3, none⟩ = some (.string y.s) := hxbH.out 3
      have x4 : (w2.alloc (valObj y A2 c2 B2 d2)).cell? ⟨w2.heap.size, 4, none⟩ = some (.slice A2 y.l.length c2) := hxbH.out 4
      have x5 : (w2.alloc (valObj y A2 c2 B2 d2)).cell? ⟨w2.heap.size, 5, none⟩ = some (.slice B2 y.keys.length d2) := hxbH.out 5
      have q4 : (w2.alloc (valObj y A2 c2 B2 d2)).cell? ⟨w.heap.size + 1 + 1, 4, none⟩ = some (.slice AL m cL) := (TdSt.below hst.out hb3H.out).c4
      have hW3 : Below (w2.heap.size + 1) (w2.alloc (valObj y A2 c2 B2 d2)) (w2.alloc (valObj y A2 c2 B2 d2)) := Below.refl _ _
      have X0 := Lib.hid x0
      have X1 := Lib.hid x1
      have X2 := Lib.hid x2
      have X3 := Lib.hid x3
      have X4 := Lib.hid x4
      have X5 := Lib.hid x5
      simp only [valObj] at g0 g1 g2 g3 g4 g5 x0 x1 x2 x3 x4 x5 q4
      by_cases hon : on = true ∧ y.kind = 1
      · obtain ⟨rfl, hk1⟩ := hon
        have t1 : (y.kind == 1) = true := beq_iff_eq.2 hk1
        have hdn : Hid (TdAt true oe v w (w.alloc (valObj v (some ad) ca (some adk) cb)) (w2.alloc (valObj y A2 c2 B2 d2)) AL m cL AK mk cK (j + 1)) := TdAt.drop hst.out hlnH.out hxH.out (by rw [← hyH.out, hdrH.out, hk1]; rfl) hb3H.out
        simp only [valObj] at hdn
        clear hkeep hst hstd hk1
        go_wp2_with fail
        go_roundw
        case rel => exact ⟨j + 1, m, AL, cL, mk, AK, cK, by omega, by go_num, hdn⟩
        case measure => simp [intOf]; omega
      · have hD : Hid (y.drop on oe = (oe && y.bare)) := by
          show y.drop on oe = _
          rw [hdrH.out]
          cases on with
          | false => rfl
          | true =>
            have : ¬ y.kind = 1 := fun h => hon ⟨rfl, h⟩
            simp [this]
        have t1 : on = true → (y.kind == 1) = false := fun h => beq_eq_false_iff_ne.2 (fun h2 => hon ⟨h, h2⟩)
        have T1 := Lib.hid t1
        clear hon t1
        cases oe with
        | false =>
          cases on with
          | false =>
            obtain ⟨A3, c3, w3, hrun0, k4, f4, A4, c4, w5, hrunK0, k5, f5, hnew, hcells⟩ := hkeep.out (w2.alloc (valObj y A2 c2 B2 d2)) hW3 (by rw [hD.out]; rfl)
            have hrun := Lib.hid hrun0
            have hrunK := Lib.hid hrunK0
            obtain ⟨u5, u0, ub, uk⟩ := hcells _ (Or.inl rfl)
            obtain ⟨v5, v0, vb, vk⟩ := hcells _ (Or.inr rfl)
            clear hrun0 hrunK0 hcells hkeep hst hstd
            go_wp2_with (at_builtin; refine wpList_append_is rfl (.tmp 53) (.tmp 55) 23 rfl (.slice AL m cL) (.slice (some ⟨w2.heap.size + 1, 0, none⟩) 1 1) rfl rfl (.slice A3 (m + 1) c3) w3 (by have h := hrun.out; rw [alloc_size] at h; exact h) ?_)
            go_region_law ((refine step_append_is rfl (.tmp 62) (.tmp 68) 24 rfl (.slice AK mk cK) (.slice (some ⟨(w3.setCell ⟨w.heap.size + 1 + 1, 4, none⟩ (.slice A3 (m + 1) c3)).heap.size, 0, none⟩) 1 1) (by simp [Act.eval, Act.put]) (by simp [Act.eval, Act.put]) (.slice A4 (mk + 1) c4) w5 hrunK.out ?_))
            all_goals
              go_wp2_with fail
              go_roundw
              case rel => exact ⟨j + 1, m + 1, A3, c3, mk + 1, A4, c4, by omega, by go_num, hnew⟩
              case measure => simp [intOf]; omega
          | true =>
            have t1 := T1.out rfl
            obtain ⟨A3, c3, w3, hrun0, k4, f4, A4, c4, w5, hrunK0, k5, f5, hnew, hcells⟩ := hkeep.out (w2.alloc (valObj y A2 c2 B2 d2)) hW3 (by rw [hD.out]; rfl)
            have hrun := Lib.hid hrun0
            have hrunK := Lib.hid hrunK0
            obtain ⟨u5, u0, ub, uk⟩ := hcells _ (Or.inl rfl)
            obtain ⟨v5, v0, vb, vk⟩ := hcells _ (Or.inr rfl)
            clear hrun0 hrunK0 hcells hkeep hst hstd
            go_wp2_with (at_builtin; refine wpList_append_is rfl (.tmp 53) (.tmp 55) 23 rfl (.slice AL m cL) (.slice (some ⟨w2.heap.size + 1, 0, none⟩) 1 1) rfl rfl (.slice A3 (m + 1) c3) w3 (by have h := hrun.out; rw [alloc_size] at h; exact h) ?_)
            go_region_law ((refine step_append_is rfl (.tmp 62) (.tmp 68) 24 rfl (.slice AK mk cK) (.slice (some ⟨(w3.setCell ⟨w.heap.size + 1 + 1, 4, none⟩ (.slice A3 (m + 1) c3)).heap.size, 0, none⟩) 1 1) (by simp [Act.eval, Act.put]) (by simp [Act.eval, Act.put]) (.slice A4 (mk + 1) c4) w5 hrunK.out ?_))
            all_goals
              go_wp2_with fail
              go_roundw
              case rel => exact ⟨j + 1, m + 1, A3, c3, mk + 1, A4, c4, by omega, by go_num, hnew⟩
              case measure => simp [intOf]; omega
        | true =>
          have hbare := Lib.hid (bare_raw y.kind y.n y.f y.s y.l y.keys A2 B2 c2 d2 (w2.alloc (valObj y A2 c2 B2 d2)) hykH.out)
          have hbare' : Hid (V.bare ⟨y.kind, y.n, y.f, y.s, y.l, y.keys⟩ = y.bare) := rfl
          have hbb : Hid (∀ w4, Below (w2.alloc (valObj y A2 c2 B2 d2)).heap.size (w2.alloc (valObj y A2 c2 B2 d2)) w4 → Box w4 w.heap.size v (some ad) ca (some adk) cb ∧ w4.cell? ⟨w.heap.size + 1 + 1, 4, none⟩ = some (.slice AL m cL) ∧ w4.cell? ⟨w2.heap.size, 0, none⟩ = some (.int .i64 y.kind) ∧ w4.cell? ⟨w2.heap.size, 1, none⟩ = some (.int .i64 y.n) ∧ w4.cell? ⟨w2.heap.size, 2, none⟩ = some (.float .f64 y.f) ∧ w4.cell? ⟨w2.heap.size, 3, none⟩ = some (.string y.s) ∧ w4.cell? ⟨w2.heap.size, 4, none⟩ = some (.slice A2 y.l.length c2) ∧ w4.cell? ⟨w2.heap.size, 5, none⟩ = some (.slice B2 y.keys.length d2) ∧ Below wr.heap.size wr w4 ∧ Below (w2.heap.size + 1) (w2.alloc (valObj y A2 c2 B2 d2)) w4) := fun w4 hb4 => by
            have hsz4 : w2.heap.size < (w2.alloc (valObj y A2 c2 B2 d2)).heap.size := by rw [alloc_size]; exact Nat.lt_succ_self _
            have hb34 : Below wr.heap.size wr w4 := hb3H.out.trans (hb4.mono hb3H.out.size)
            exact ⟨(boxed (hbox2H.out.trans (hb4.mono hbox2H.out.size |>.mono (by rw [alloc_size]; exact Nat.le_refl _)))).1, (TdSt.below hst.out hb34).c4, (hb4.cell (p := ⟨w2.heap.size, 0, none⟩) hsz4).trans X0.out, (hb4.cell (p := ⟨w2.heap.size, 1, none⟩) hsz4).trans X1.out, (hb4.cell (p := ⟨w2.heap.size, 2, none⟩) hsz4).trans X2.out, (hb4.cell (p := ⟨w2.heap.size, 3, none⟩) hsz4).trans X3.out, (hb4.cell (p := ⟨w2.heap.size, 4, none⟩) hsz4).trans X4.out, (hb4.cell (p := ⟨w2.heap.size, 5, none⟩) hsz4).trans X5.out, hb34, hb4.mono (by rw [alloc_size]; exact Nat.le_refl _)⟩
          cases on with
          | false =>
            go_wp2_with fail
            refine hbare.out.mono ?_
            rintro e w4 ⟨rfl, hb4⟩
            obtain ⟨⟨h0, h1, h2, h3, h4, h5⟩, q4', y0, y1, y2, y3, y4, y5, hb34, hb24⟩ := hbb.out w4 hb4
            cases hbv : V.bare ⟨y.kind, y.n, y.f, y.s, y.l, y.keys⟩ with
            | true =>
              have hdn : Hid (TdAt false true v w (w.alloc (valObj v (some ad) ca (some adk) cb)) w4 AL m cL AK mk cK (j + 1)) := TdAt.drop hst.out hlnH.out hxH.out (by rw [← hyH.out, hD.out, ← hbare'.out, hbv]; rfl) hb34
              clear hkeep hst hstd hbare hbb hbv hb4
              go_wp2_with fail
              go_roundw
              case rel => exact ⟨j + 1, m, AL, cL, mk, AK, cK, by omega, by go_num, hdn⟩
              case measure => simp [intOf]; omega
            | false =>
              obtain ⟨A3, c3, w3, hrun0, k4, f4, A4, c4, w5, hrunK0, k5, f5, hnew, hcells⟩ := hkeep.out w4 hb24 (by rw [hD.out, ← hbare'.out, hbv]; rfl)
              have hrun := Lib.hid hrun0
              have hrunK := Lib.hid hrunK0
              obtain ⟨u5, u0, ub, uk⟩ := hcells _ (Or.inl rfl)
              obtain ⟨v5, v0, vb, vk⟩ := hcells _ (Or.inr rfl)
              clear hbare hbb hbv hb4
              clear hrun0 hrunK0 hcells hkeep hst hstd
              go_wp2_with (at_builtin; refine wpList_append_is rfl (.tmp 53) (.tmp 55) 23 rfl (.slice AL m cL) (.slice (some ⟨w4.heap.size, 0, none⟩) 1 1) rfl rfl (.slice A3 (m + 1) c3) w3 hrun.out ?_)
              go_region_law ((refine step_append_is rfl (.tmp 62) (.tmp 68) 24 rfl (.slice AK mk cK) (.slice (some ⟨(w3.setCell ⟨w.heap.size + 1 + 1, 4, none⟩ (.slice A3 (m + 1) c3)).heap.size, 0, none⟩) 1 1) (by simp [Act.eval, Act.put]) (by simp [Act.eval, Act.put]) (.slice A4 (mk + 1) c4) w5 hrunK.out ?_))
              all_goals
                go_wp2_with fail
                go_roundw
                case rel => exact ⟨j + 1, m + 1, A3, c3, mk + 1, A4, c4, by omega, by go_num, hnew⟩
                case measure => simp [intOf]; omega
          | true =>
            have t1 := T1.out rfl
            go_wp2_with fail
            refine hbare.out.mono ?_
            rintro e w4 ⟨rfl, hb4⟩
            obtain ⟨⟨h0, h1, h2, h3, h4, h5⟩, q4', y0, y1, y2, y3, y4, y5, hb34, hb24⟩ := hbb.out w4 hb4
            cases hbv : V.bare ⟨y.kind, y.n, y.f, y.s, y.l, y.keys⟩ with
            | true =>
              have hdn : Hid (TdAt true true v w (w.alloc (valObj v (some ad) ca (some adk) cb)) w4 AL m cL AK mk cK (j + 1)) := TdAt.drop hst.out hlnH.out hxH.out (by rw [← hyH.out, hD.out, ← hbare'.out, hbv]; rfl) hb34
              clear hkeep hst hstd hbare hbb hbv hb4
              go_wp2_with fail
              go_roundw
              case rel => exact ⟨j + 1, m, AL, cL, mk, AK, cK, by omega, by go_num, hdn⟩
              case measure => simp [intOf]; omega
            | false =>
              obtain ⟨A3, c3, w3, hrun0, k4, f4, A4, c4, w5, hrunK0, k5, f5, hnew, hcells⟩ := hkeep.out w4 hb24 (by rw [hD.out, ← hbare'.out, hbv]; rfl)
              have hrun := Lib.hid hrun0
              have hrunK := Lib.hid hrunK0
              obtain ⟨u5, u0, ub, uk⟩ := hcells _ (Or.inl rfl)
              obtain ⟨v5, v0, vb, vk⟩ := hcells _ (Or.inr rfl)
              clear hbare hbb hbv hb4
              clear hrun0 hrunK0 hcells hkeep hst hstd
              go_wp2_with (at_builtin; refine wpList_append_is rfl (.tmp 53) (.tmp 55) 23 rfl (.slice AL m cL) (.slice (some ⟨w4.heap.size, 0, none⟩) 1 1) rfl rfl (.slice A3 (m + 1) c3) w3 hrun.out ?_)
              go_region_law ((refine step_append_is rfl (.tmp 62) (.tmp 68) 24 rfl (.slice AK mk cK) (.slice (some ⟨(w3.setCell ⟨w.heap.size + 1 + 1, 4, none⟩ (.slice A3 (m + 1) c3)).heap.size, 0, none⟩) 1 1) (by simp [Act.eval, Act.put]) (by simp [Act.eval, Act.put]) (.slice A4 (mk + 1) c4) w5 hrunK.out ?_))
              all_goals
                go_wp2_with fail
                go_roundw
                case rel => exact ⟨j + 1, m + 1, A3, c3, mk + 1, A4, c4, by omega, by go_num, hnew⟩
                case measure => simp [intOf]; omega
    · obtain rfl : j = v.l.length := by omega
      have hst2 : TdSt (w.heap.size + 1) (w.alloc (valObj v A ca B cb)) v wr (V.tidyL on oe (v.keys.take v.l.length) (v.l.take v.l.length)) (V.tidyK on oe (v.keys.take v.l.length) (v.l.take v.l.length)) AL m cL AK mk cK := hst.out
      rw [List.take_length, ← hlnH.out, List.take_length] at hst2
      obtain ⟨hc, hz, hmm, hmk, hcL, hcK, hsz2, hvals, hstr⟩ := hst2.read (fun s hs => hsmH.out s ((tidy_sub on oe v.keys v.l).subset hs))
      obtain ⟨z0, z1, z2, z3, z4, z5, f0, f1, f2, f3, f4, f5⟩ := hz
      have d0 := hc 0 _ rfl
      have d1 := hc 1 _ rfl
      have d2 := hc 2 _ rfl
      have d3 := hc 3 _ rfl
      have d4 := hc 4 _ rfl
      have d5 := hc 5 _ rfl
      have hvH := Lib.hid hvals
      have hsH := Lib.hid hstr
      have hbwH := Lib.hid hbw
      have hll : Hid ((v.tidy on oe).l = V.tidyL on oe v.keys v.l) := by rw [tidy_eq]; show (if v.kind = 8 then _ else _) = _; rw [if_pos h8H.out]
      have hkk : Hid ((v.tidy on oe).keys = V.tidyK on oe v.keys v.l) := by rw [tidy_eq]; show (if v.kind = 8 then _ else _) = _; rw [if_pos h8H.out]
      have hmmH := Lib.hid hmm
      have hmkH := Lib.hid hmk
      have hcLH := Lib.hid hcL
      have hcKH := Lib.hid hcK
      have hle := Lib.hid (keyLen on oe v v.l.length)
      have hkmH := Lib.hid hkm
      clear hst hst2 hc hvals hstr hbel hmm hmk hcL hcK hkm
      go_wp2_with fail
      have hfar : ∀ k, w.heap.size + 1 + 2 ≤ k → ((((((wr.setCell ⟨w.heap.size + 1, 0, none⟩ (.int .i64 v.kind)).setCell ⟨w.heap.size + 1, 1, none⟩ (.int .i64 v.n)).setCell ⟨w.heap.size + 1, 2, none⟩ (.float .f64 v.f)).setCell ⟨w.heap.size + 1, 3, none⟩ (.string v.s)).setCell ⟨w.heap.size + 1, 4, none⟩ (.slice AL m cL)).setCell ⟨w.heap.size + 1, 5, none⟩ (.slice AK mk cK)).heap[k]? = wr.heap[k]? := fun k hk => by
        have hk' : k ≠ w.heap.size + 1 := by omega
        rw [set_far _ _ _ hk', set_far _ _ _ hk', set_far _ _ _ hk', set_far _ _ _ hk', set_far _ _ _ hk', set_far _ _ _ hk']
      have hbf := ((((((hbwH.out.setCell (p := ⟨w.heap.size + 1, 0, none⟩) (by simp) (.int .i64 v.kind)).setCell (p := ⟨w.heap.size + 1, 1, none⟩) (by simp) (.int .i64 v.n)).setCell (p := ⟨w.heap.size + 1, 2, none⟩) (by simp) (.float .f64 v.f)).setCell (p := ⟨w.heap.size + 1, 3, none⟩) (by simp) (.string v.s)).setCell (p := ⟨w.heap.size + 1, 4, none⟩) (by simp) (.slice AL m cL)).setCell (p := ⟨w.heap.size + 1, 5, none⟩) (by simp) (.slice AK mk cK))
      have hll2 := hll.out
      have hkk2 := hkk.out
      have htl : (v.tidy on oe).l.length = m := by rw [hll2, hmmH.out]
      have htk : (v.tidy on oe).keys.length = mk := by rw [hkk2, hmkH.out]
      have hb3 := hle.out
      rw [List.take_length, ← hlnH.out, List.take_length] at hb3
      have hkm2 := hkmH.out
      have hm1 : m ≤ 1000000 := by rw [hmmH.out]; omega
      have hm2 : mk ≤ 1000000 := by rw [hmkH.out]; omega
      refine bodyPost_ret (v := .agg #[.int .i64 v.kind, .int .i64 v.n, .float .f64 v.f, .string v.s, .slice AL m cL, .slice AK mk cK]) (by simp [results, Tryz.results9, go_sem, z0, z1, z2, z3, z4, z5]) rfl
        ⟨AL, cL, AK, cK, ?_, ⟨?_, ?_, ?_, ?_, ?_, hcLH.out.2, ?_, hcKH.out.2, ?_, ?_⟩, ?_, ?_, hbf⟩
      · rw [htl, htk, tidy_eq]
      · rw [tidy_eq]; exact hbdH.out.k
      · rw [tidy_eq]; exact hbdH.out.n
      · rw [tidy_eq]; exact hbdH.out.f
      · rw [tidy_eq]; exact hbdH.out.s
      · rw [htl]; exact hcLH.out.1
      · rw [htk]; exact hcKH.out.1
      · rw [htl]; omega
      · rw [htk]; omega
      · rw [hkk2]; exact (hsH.out.move hfar).mono (fun k hk => by omega)
      · rw [hll2]; exact (hvH.out.move hfar).mono (fun k hk => by omega)

theorem tidied_any (on oe : Bool) (v : V) : v.Ok → v.wt ≤ 1000000 → TidAt on oe v := by
  induction v using V.ind with
  | h v ih =>
  intro hok hwt
  have ih' : ∀ x ∈ v.l, TidAt on oe x := fun x hx => ih x hx (hok.kids x hx) (by have := wt_kid hx; omega)
  by_cases h8 : v.kind = 8
  · have hln : v.keys.length = v.l.length := by cases hok <;> first | omega | assumption
    exact tidied_obj on oe v h8 hok hln (by have := wt_klen v; omega) (fun s hs => by have := sumS_mem hs; have := V.wt_eq v; omega) ih'
  · exact tidied_arr on oe v h8 (by have := wt_len v; omega) ih'
end Go.Proofs.YtpdcoipfpffhnaaGreat
