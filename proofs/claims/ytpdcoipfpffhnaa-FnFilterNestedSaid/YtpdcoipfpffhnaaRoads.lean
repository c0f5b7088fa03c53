/-
  roads and clashes at specs of one leaf. Conditions: none.
-/
import Derived.Test.YtpdcoipfpffhnaaNew
import Derived.Outline
namespace Go.Proofs.Ytpdcoipfpffhnaa
open Go.ChangeShapes Go.WideShapes Go.ChangeAt Go.RowKit
set_option linter.unusedVariables false

def RoadsAt (v : V) : Prop := ∀ {ok : Nat → Prop} (A B : Option Addr) (ca cb : Nat) (ahead : ByteArray) (w : World) (hb : Bds v ca cb) (hB : Strs ok w B v.keys) (hA : Vals ok w A v.l) (ha : ahead.size ≤ 1000000),
  Calls Try.prog 36 #[.agg #[.int .i64 v.kind, .int .i64 v.n, .float .f64 v.f, .string v.s, .slice A v.l.length ca, .slice B v.keys.length cb], .string ahead] w (SomeOwn (fun ys => ys.length = 1) w)

set_option maxRecDepth 100000 in
set_option maxHeartbeats 2000000 in
theorem roads_leaf (k : ByteArray) (x : V) (hk : k.size ≤ 10000) (hx : x.kind ≠ 8) : RoadsAt (V.obj1 k x) := by
  intro ok A B ca cb ahead w hb hB hA ha
  obtain ⟨i0, hi, hz0, hz1, hz2⟩ := info_parts info_str
  have hx8 : (x.kind == 8) = false := beq_eq_false_iff_ne.2 hx
  clear hx hb
  show Calls Try.prog 36 #[.agg #[.int .i64 8, .int .i64 0, .float .f64 0, .string ⟨#[]⟩, .slice A 1 ca, .slice B 1 cb], .string ahead] w _
  have hbel : Below (w.heap.size + 1) (w.alloc (valObj (V.obj1 k x) A ca B cb)) (w.alloc (valObj (V.obj1 k x) A ca B cb)) := Below.refl _ _
  obtain ⟨⟨b0, b1, b2, b3, b4, b5⟩, hbw⟩ := boxed hbel
  obtain ⟨adk, hBe, hkb, hck, hsz⟩ := (hB.bel hbw).at_ (i := 0) (s := k) rfl
  obtain ⟨ad, Ai, ci, Bi, di, hAe, _, ⟨e0, e1, e2, e3, e4, e5⟩, hbx, hBx, hAx⟩ := (hA.bel hbw).at_ (i := 0) (v := x) rfl
  have e0' : (w.alloc (valObj (V.obj1 k x) A ca B cb)).cell? ad = some (.int .i64 x.kind) := e0
  have hck' : (w.alloc (valObj (V.obj1 k x) A ca B cb)).cell? adk = some (.string k) := hck
  subst hAe hBe
  clear hA hB hBx hAx hbx e1 e2 e3 e4 e5 hck e0
  go_enter Try.func36, Try.ntmps36
  have hW : ∃ W, W = w.alloc (valObj (V.obj1 k x) (some ad) ca (some adk) cb) := ⟨_, rfl⟩
  obtain ⟨W, hW⟩ := hW
  rw [← hW] at b0 b1 b2 b3 b4 b5 hbw e0' hck' hbel
  have hsW : w.heap.size + 1 = W.heap.size := by rw [hW, alloc_size]
  replace b0 : W.cell? ⟨w.heap.size, 0, none⟩ = some (.int .i64 8) := b0
  replace b4 : W.cell? ⟨w.heap.size, 4, none⟩ = some (.slice (some ad) 1 ca) := b4
  replace b5 : W.cell? ⟨w.heap.size, 5, none⟩ = some (.slice (some adk) 1 cb) := b5
  clear b1 b2 b3 hbel
  go_wp2_with fail
  rw [show w.alloc (.cells #[.int .i64 8, .int .i64 0, .float .f64 0, .string ⟨#[]⟩, .slice (some ad) 1 ca, .slice (some adk) 1 cb] 26) = W from hW.symm]
  have hsW' := Lib.hid hsW
  clear hW hsW
  refine wp_loop_rounds 2 ?_
  rw [rounds_succ]
  go_wp2_with (at_builtin; refine wpList_append_own_at _ rfl _ _ 24 rfl w.heap.size 9 i0 (.string ⟨#[]⟩) 1 16 Try.underlying24 hi hz0 hz1 hz2 rfl (by decide) (.slice none 0 0) 0 [] rfl (World.ownsRow_nil _ _ _ _) ⟨W.heap.size, 0, none⟩ 1 1 [.string (ahead ++ k ++ ⟨#[46]⟩)] rfl rfl ?c1 ?c2 ?c3 ?c4 ?c5 ?_)
  case c1 => exact cell_one_new _ _ _
  case c2 => intro u hu; rw [List.mem_singleton.1 hu]; rfl
  case c3 => unfold maxLen; omega
  case c4 => omega
  case c5 => simp; have := hsW'.out; omega
  intro v' w' hown' hgr hne hat
  obtain ⟨gx, cx, hvx, -⟩ := hown'.form (by omega)
  subst hvx
  have hbel : Below w.heap.size w w' := (hbw.trans ((below_alloc W _).mono hbw.size)).grown hgr (by simp; have := hsW'.out; omega) (fun k hk => by simp [Value.ownBlock] at hk)
  have hown2 : Hid (Own w' w.heap.size (.slice (some ⟨gx, 0, none⟩) 1 cx) [ahead ++ k ++ ⟨#[46]⟩]) := hown'
  clear hown' hgr hne hat
  go_wp2_with fail
  rw [rounds_succ]
  go_wp2_with fail
  go_ret
  exact ⟨_, _, rfl, rfl, hown2.out, hbel⟩

theorem size_app (a b : ByteArray) : (a ++ b).size = a.size + b.size := ByteArray.size_append

set_option maxRecDepth 100000 in
set_option maxHeartbeats 2000000 in
theorem roads_nest (k : ByteArray) (x : V) (hk : k.size ≤ 10000) (hx : x.kind = 8) (hl : x.l.length = 1) (hr : RoadsAt x) {ok : Nat → Prop} (A B : Option Addr) (ca cb : Nat) (ahead : ByteArray) (w : World) (hB : Strs ok w B [k]) (hA : Vals ok w A [x]) (ha : ahead.size ≤ 10000) :
    Calls Try.prog 36 #[.agg #[.int .i64 8, .int .i64 0, .float .f64 0, .string ⟨#[]⟩, .slice A 1 ca, .slice B 1 cb], .string ahead] w (SomeOwn (fun ys => ys.length = 1) w) := by
  obtain ⟨i0, hi, hz0, hz1, hz2⟩ := info_parts info_str
  have hr' : Hid (RoadsAt x) := hr
  have hx' := Lib.hid hx
  have hl' := Lib.hid hl
  clear hr
  have hbel : Below (w.heap.size + 1) (w.alloc (valObj (V.obj1 k x) A ca B cb)) (w.alloc (valObj (V.obj1 k x) A ca B cb)) := Below.refl _ _
  obtain ⟨⟨b0, b1, b2, b3, b4, b5⟩, hbw⟩ := boxed hbel
  obtain ⟨adk, hBe, hkb, hck, hsz⟩ := (hB.bel hbw).at_ (i := 0) (s := k) rfl
  obtain ⟨ad, Ai, ci, Bi, di, hAe, _, ⟨e0, e1, e2, e3, e4, e5⟩, hbx, hBx, hAx⟩ := (hA.bel hbw).at_ (i := 0) (v := x) rfl
  have e0' : (w.alloc (valObj (V.obj1 k x) A ca B cb)).cell? ad = some (.int .i64 x.kind) := e0
  have e1' : (w.alloc (valObj (V.obj1 k x) A ca B cb)).cell? ⟨ad.block, ad.off + 1, none⟩ = some (.int .i64 x.n) := e1
  have e2' : (w.alloc (valObj (V.obj1 k x) A ca B cb)).cell? ⟨ad.block, ad.off + 2, none⟩ = some (.float .f64 x.f) := e2
  have e3' : (w.alloc (valObj (V.obj1 k x) A ca B cb)).cell? ⟨ad.block, ad.off + 3, none⟩ = some (.string x.s) := e3
  have e4' : (w.alloc (valObj (V.obj1 k x) A ca B cb)).cell? ⟨ad.block, ad.off + 4, none⟩ = some (.slice Ai x.l.length ci) := e4
  have e5' : (w.alloc (valObj (V.obj1 k x) A ca B cb)).cell? ⟨ad.block, ad.off + 5, none⟩ = some (.slice Bi x.keys.length di) := e5
  rw [hx] at e0'
  rw [hl] at e4'
  have hck' : (w.alloc (valObj (V.obj1 k x) A ca B cb)).cell? adk = some (.string k) := hck
  subst hAe hBe
  clear hA hB e1 e2 e3 e4 e5 hck e0 hx hl
  go_enter Try.func36, Try.ntmps36
  have hW : ∃ W, W = w.alloc (valObj (V.obj1 k x) (some ad) ca (some adk) cb) := ⟨_, rfl⟩
  obtain ⟨W, hW⟩ := hW
  rw [← hW] at b0 b1 b2 b3 b4 b5 hbw e0' e1' e2' e3' e4' e5' hck' hbel hBx hAx
  have hsW : w.heap.size + 1 = W.heap.size := by rw [hW, alloc_size]
  replace b0 : W.cell? ⟨w.heap.size, 0, none⟩ = some (.int .i64 8) := b0
  replace b4 : W.cell? ⟨w.heap.size, 4, none⟩ = some (.slice (some ad) 1 ca) := b4
  replace b5 : W.cell? ⟨w.heap.size, 5, none⟩ = some (.slice (some adk) 1 cb) := b5
  clear b1 b2 b3 hbel
  go_wp2_with fail
  rw [show w.alloc (.cells #[.int .i64 8, .int .i64 0, .float .f64 0, .string ⟨#[]⟩, .slice (some ad) 1 ca, .slice (some adk) 1 cb] 26) = W from hW.symm]
  have hsW' := Lib.hid hsW
  clear hW hsW
  refine wp_loop_rounds 2 ?_
  rw [rounds_succ]
  go_wp2_with fail
  have hcall := hr'.out Ai Bi ci di (ahead ++ k ++ ⟨#[46]⟩) W hbx hBx hAx (by rw [size_app, size_app]; (show ahead.size + k.size + 1 ≤ _); omega)
  rw [hx'.out, hl'.out] at hcall
  refine hcall.mono ?_
  rintro e w2 ⟨rv, ys, rfl, hy1, hown, hb2⟩
  have hown0 := hown
  obtain ⟨A2, c2, rfl, hc1, hc2⟩ := own_slice hown
  obtain ⟨y, rfl⟩ := List.length_eq_one_iff.1 hy1
  obtain ⟨g, rfl, hcell⟩ := own_cell hown (j := 0) (s := y) rfl
  have hbw2 := hbw.trans (hb2.mono hbw.size)
  have hnews : Hid (∀ j u, ([.string y] : List Value)[j]? = some u → w2.cell? ((⟨g, 0, none⟩ : Addr).add j) = some u) := fun j u hu => by
    have hj : j = 0 := by have := (List.getElem?_eq_some_iff.1 hu).1; simp at this; omega
    subst hj
    have h2 : Value.string y = u := by simpa using hu
    rw [← h2]
    exact hcell
  clear hown hown0 hc1 hc2 b0 b4 b5 e0' e1' e2' e3' e4' e5' hck' hcall
  go_wp2_with (at_builtin; refine wpList_append_own_at _ rfl _ _ 24 rfl w.heap.size 9 i0 (.string ⟨#[]⟩) 1 16 Try.underlying24 hi hz0 hz1 hz2 rfl (by decide) (.slice none 0 0) 0 [] rfl (World.ownsRow_nil _ _ _ _) ⟨g, 0, none⟩ 1 c2 [.string y] rfl rfl hnews.out ?c2 ?c3 ?c4 ?c5 ?_)
  case c2 => intro u hu; rw [List.mem_singleton.1 hu]; rfl
  case c3 => unfold maxLen; omega
  case c4 => omega
  case c5 => have := hbw2.size; omega
  intro v' w' hown' hgr hne hat
  obtain ⟨gx, cx, hvx, -⟩ := hown'.form (by omega)
  subst hvx
  have hbel : Below w.heap.size w w' := hbw2.grown hgr hbw2.size (fun k hk => by simp [Value.ownBlock] at hk)
  have hown2 : Hid (Own w' w.heap.size (.slice (some ⟨gx, 0, none⟩) 1 cx) [y]) := hown'
  clear hown' hgr hne hat hcell
  go_wp2_with fail
  rw [rounds_succ]
  go_wp2_with fail
  go_ret
  exact ⟨_, _, rfl, rfl, hown2.out, hbel⟩

set_option maxHeartbeats 1000000 in
theorem clash_any (v : Value) (B : Nat) (ys : List ByteArray) (w : World) (ho : Own w B v ys) (hy : ys.length = 1) :
    Calls Try.prog 35 #[v] w fun e w' => e = .returned (.bool false) ∧ w.grownBy w' v.ownBlock := by
  have ho' := Lib.hid ho
  have hy' := Lib.hid hy
  obtain ⟨A, c, rfl, _, _⟩ := own_slice ho
  rw [hy]
  clear ho
  have hs := sort_any (.slice A ys.length c) B ys w ho'.out (by rw [hy]; omega)
  rw [hy] at hs
  have hs' := Lib.hid hs
  clear hs hy
  go_enter Try.func35, Try.ntmps35
  go_wp2_with fail
  refine hs'.out.mono ?_
  rintro e w2 ⟨zs, rfl, _, _, _, hg⟩
  have hg' := Lib.hid hg
  clear hg
  go_wp2_with fail
  refine wp_loop_rounds 1 ?_
  rw [rounds_succ]
  go_wp2_with fail
  go_ret
  exact ⟨rfl, hg'.out⟩
end Go.Proofs.Ytpdcoipfpffhnaa
