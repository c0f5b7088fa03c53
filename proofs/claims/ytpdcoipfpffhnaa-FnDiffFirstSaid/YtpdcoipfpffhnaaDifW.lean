/-
  differing: the walks. Conditions: none.
-/
import Derived.Test.YtpdcoipfpffhnaaDifS
namespace Go.Proofs.Ytpdcoipfpffhnaa
open Go.ChangeShapes Go.WideShapes Go.ChangeAt Go.RowKit
set_option linter.unusedVariables false
set_option linter.unusedSimpArgs false

theorem want_none {a b : V} {p : List Step} (w : World) (h7 : ¬ (a.kind = 7 ∧ b.kind = 7)) (h8 : ¬ (a.kind = 8 ∧ b.kind = 8)) (h : LAlike a b) {w' : World} (hb : Below w.heap.size w w') : WantPost a b p w (.returned (.slice none 0 0)) w' := by
  have h1 := wt_pos a
  have h2 := wt_pos b
  refine ⟨none, 0, 0, [], rfl, rfl, WantOwn.nil _ _, fun r => ⟨fun h => by simp at h, ?_⟩, by omega, hb⟩
  rintro ⟨q, _, hq⟩
  exact absurd h ((dif_leaf h7 h8).1 hq).2
theorem want_one {a b : V} {p : List Step} {w w2 : World} {A : Option Addr} {c : Nat} {x : Value} (h7 : ¬ (a.kind = 7 ∧ b.kind = 7)) (h8 : ¬ (a.kind = 8 ∧ b.kind = 8)) (h : ¬ LAlike a b) (hx : FrOwn w2 0 x (p.map some)) (ho : w2.ownsRow w.heap.size 41 1 (.slice A 1 c) 1 [x]) (hb : Below w.heap.size w w2) : WantPost a b p w (.returned (.slice A 1 c)) w2 := by
  have h1 := wt_pos a
  have h2 := wt_pos b
  refine ⟨A, c, 1, [p], rfl, rfl, ⟨[x], rfl, World.ownsRow_le' ho (Nat.zero_le _), fun i y q e1 e2 => ?_⟩, fun r => ?_, by omega, hb⟩
  · have h0 : i = 0 := by have := (List.getElem?_eq_some_iff.1 e2).1; simp at this; omega
    subst h0
    obtain rfl : x = y := by simpa using e1
    obtain rfl : p = q := by simpa using e2
    exact hx
  · rw [List.mem_singleton]
    constructor
    · rintro rfl; exact ⟨[], by simp, (dif_leaf h7 h8).2 ⟨rfl, h⟩⟩
    · rintro ⟨q, rfl, hq⟩
      rw [((dif_leaf h7 h8).1 hq).1]; simp

set_option maxHeartbeats 4000000 in
set_option maxRecDepth 100000 in
theorem differing_leaf (a b : V) (p : List Step) (ha : a.Ok) (h7 : ¬ (a.kind = 7 ∧ b.kind = 7)) (h8 : ¬ (a.kind = 8 ∧ b.kind = 8)) : Call3 a b p := by
  intro ok A B A' B' ca cb ca' cb' v w hb hB hA hb' hB' hA' hp
  obtain ⟨i0, hi, hz0, hz1, hz2⟩ := info_parts info_row
  obtain ⟨Ap, cp, rfl, _⟩ := hp.view
  have hp' := Lib.hid hp
  have h7' := Lib.hid h7
  have h8' := Lib.hid h8
  have hcall := Lib.hid (alike_leaf a b A B A' B' ca cb ca' cb' ((w.alloc (valObj a A ca B cb)).alloc (valObj b A' ca' B' cb')) ha (fun e => ⟨fun h => h7 ⟨h, e ▸ h⟩, fun h => h8 ⟨h, e ▸ h⟩⟩))
  have hways : (a.kind ≠ 7 ∧ a.kind ≠ 8) ∨ (a.kind = 7 ∧ b.kind ≠ 7) ∨ (a.kind = 8 ∧ b.kind ≠ 8) := by
    by_cases k7 : a.kind = 7
    · exact Or.inr (Or.inl ⟨k7, fun h => h7 ⟨k7, h⟩⟩)
    by_cases k8 : a.kind = 8
    · exact Or.inr (Or.inr ⟨k8, fun h => h8 ⟨k8, h⟩⟩)
    · exact Or.inl ⟨k7, k8⟩
  clear hp h7 h8 ha hb hB hA hb' hB' hA'
  rcases hways with ⟨k7, k8⟩ | ⟨k7, k8⟩ | ⟨k7, k8⟩
  · have e1 : (a.kind == 7) = false := beq_eq_false_iff_ne.2 k7
    have e2 : (a.kind == 8) = false := beq_eq_false_iff_ne.2 k8
    clear k7 k8
    go_enter Try.func17, Try.ntmps17
    go_wp2_with fail
    refine hcall.out.mono ?_
    rintro e w2 ⟨r, rfl, hr, hb2⟩
    have hbw := (below2 w (valObj a A ca B cb) (valObj b A' ca' B' cb')).trans (hb2.mono (by rw [alloc_size, alloc_size]; omega))
    have hr' := Lib.hid hr
    have hsz := hbw.size
    clear hr hb2 hcall
    cases r with
    | true =>
      go_wp2_with fail
      go_ret
      exact want_none w h7'.out h8'.out (hr'.out.1 (by simp)) hbw
    | false =>
      go_wp2_with (at_builtin; refine wpList_append_own_at _ rfl _ _ 36 rfl w.heap.size 41 i0 (.slice none 0 0) 1 24 Try.underlying36 hi hz0 hz1 hz2 rfl (by decide) (.slice none 0 0) 0 [] rfl (World.ownsRow_nil _ _ _ _) ⟨w2.heap.size, 0, none⟩ 1 1 [.slice Ap p.length cp] rfl rfl ?c1 ?c2 ?c3 ?c4 ?c5 ?_)
      case c1 => exact cell_one_new _ _ _
      case c2 => intro u hu; rw [List.mem_singleton.1 hu]; rfl
      case c3 => unfold maxLen; omega
      case c4 => omega
      case c5 => simp; omega
      intro v' w' hown hgr hne hat
      obtain ⟨gx, cx, hvx, -⟩ := hown.form (by omega)
      subst hvx
      have hb3 : Below w2.heap.size w2 w' := (below_alloc w2 _).grown hgr (by simp) (fun k hk => by cases hk)
      have hfin : Hid (FrOwn w' 0 (.slice Ap p.length cp) (p.map some)) := (hp'.out.keep (Keeps.of_below (hbw.mono (Nat.le_refl _)))).keep (Keeps.of_below hb3)
      have hbw3 := hbw.trans (hb3.mono hsz)
      have hown' := Lib.hid hown
      clear hown hgr hne hat
      go_wp2_with fail
      go_ret
      exact want_one h7'.out h8'.out (fun h => by have := hr'.out.2 h; cases this) hfin.out hown'.out hbw3
  · have e1 : (a.kind == 7) = true := beq_iff_eq.2 k7
    have e2 : (b.kind == 7) = false := beq_eq_false_iff_ne.2 k8
    have e3 : (a.kind == 8) = false := beq_eq_false_iff_ne.2 (by omega)
    clear k7 k8
    go_enter Try.func17, Try.ntmps17
    go_wp2_with fail
    refine hcall.out.mono ?_
    rintro e w2 ⟨r, rfl, hr, hb2⟩
    have hbw := (below2 w (valObj a A ca B cb) (valObj b A' ca' B' cb')).trans (hb2.mono (by rw [alloc_size, alloc_size]; omega))
    have hr' := Lib.hid hr
    have hsz := hbw.size
    clear hr hb2 hcall
    cases r with
    | true =>
      go_wp2_with fail
      go_ret
      exact want_none w h7'.out h8'.out (hr'.out.1 (by simp)) hbw
    | false =>
      go_wp2_with (at_builtin; refine wpList_append_own_at _ rfl _ _ 36 rfl w.heap.size 41 i0 (.slice none 0 0) 1 24 Try.underlying36 hi hz0 hz1 hz2 rfl (by decide) (.slice none 0 0) 0 [] rfl (World.ownsRow_nil _ _ _ _) ⟨w2.heap.size, 0, none⟩ 1 1 [.slice Ap p.length cp] rfl rfl ?c1 ?c2 ?c3 ?c4 ?c5 ?_)
      case c1 => exact cell_one_new _ _ _
      case c2 => intro u hu; rw [List.mem_singleton.1 hu]; rfl
      case c3 => unfold maxLen; omega
      case c4 => omega
      case c5 => simp; omega
      intro v' w' hown hgr hne hat
      obtain ⟨gx, cx, hvx, -⟩ := hown.form (by omega)
      subst hvx
      have hb3 : Below w2.heap.size w2 w' := (below_alloc w2 _).grown hgr (by simp) (fun k hk => by cases hk)
      have hfin : Hid (FrOwn w' 0 (.slice Ap p.length cp) (p.map some)) := (hp'.out.keep (Keeps.of_below (hbw.mono (Nat.le_refl _)))).keep (Keeps.of_below hb3)
      have hbw3 := hbw.trans (hb3.mono hsz)
      have hown' := Lib.hid hown
      clear hown hgr hne hat
      go_wp2_with fail
      go_ret
      exact want_one h7'.out h8'.out (fun h => by have := hr'.out.2 h; cases this) hfin.out hown'.out hbw3
  · have e1 : (a.kind == 7) = false := beq_eq_false_iff_ne.2 (by omega)
    have e2 : (a.kind == 8) = true := beq_iff_eq.2 k7
    have e3 : (b.kind == 8) = false := beq_eq_false_iff_ne.2 k8
    clear k7 k8
    go_enter Try.func17, Try.ntmps17
    go_wp2_with fail
    refine hcall.out.mono ?_
    rintro e w2 ⟨r, rfl, hr, hb2⟩
    have hbw := (below2 w (valObj a A ca B cb) (valObj b A' ca' B' cb')).trans (hb2.mono (by rw [alloc_size, alloc_size]; omega))
    have hr' := Lib.hid hr
    have hsz := hbw.size
    clear hr hb2 hcall
    cases r with
    | true =>
      go_wp2_with fail
      go_ret
      exact want_none w h7'.out h8'.out (hr'.out.1 (by simp)) hbw
    | false =>
      go_wp2_with (at_builtin; refine wpList_append_own_at _ rfl _ _ 36 rfl w.heap.size 41 i0 (.slice none 0 0) 1 24 Try.underlying36 hi hz0 hz1 hz2 rfl (by decide) (.slice none 0 0) 0 [] rfl (World.ownsRow_nil _ _ _ _) ⟨w2.heap.size, 0, none⟩ 1 1 [.slice Ap p.length cp] rfl rfl ?c1 ?c2 ?c3 ?c4 ?c5 ?_)
      case c1 => exact cell_one_new _ _ _
      case c2 => intro u hu; rw [List.mem_singleton.1 hu]; rfl
      case c3 => unfold maxLen; omega
      case c4 => omega
      case c5 => simp; omega
      intro v' w' hown hgr hne hat
      obtain ⟨gx, cx, hvx, -⟩ := hown.form (by omega)
      subst hvx
      have hb3 : Below w2.heap.size w2 w' := (below_alloc w2 _).grown hgr (by simp) (fun k hk => by cases hk)
      have hfin : Hid (FrOwn w' 0 (.slice Ap p.length cp) (p.map some)) := (hp'.out.keep (Keeps.of_below (hbw.mono (Nat.le_refl _)))).keep (Keeps.of_below hb3)
      have hbw3 := hbw.trans (hb3.mono hsz)
      have hown' := Lib.hid hown
      clear hown hgr hne hat
      go_wp2_with fail
      go_ret
      exact want_one h7'.out h8'.out (fun h => by have := hr'.out.2 h; cases this) hfin.out hown'.out hbw3

end Go.Proofs.Ytpdcoipfpffhnaa
