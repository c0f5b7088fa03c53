/-
  alt.NewFilter of the three specs; Filter.Match; simple. Conditions: none.
-/
import Derived.Test.YtpdcoipfpffhnaaAdd3
import Derived.Test.YtpdcoipfpffhnaaRight
import Derived.Test.YtpdcoipfpffhnaaObj
namespace Go.Proofs.Ytpdcoipfpffhnaa
open Go.ChangeShapes Go.WideShapes Go.ChangeAt Go.RowKit
open Go.ChangeMaps (setBlock)
set_option linter.unusedVariables false

set_option maxHeartbeats 1000000 in
theorem newFilter_of (sb : Nat) (w : World) (P : World → List (ByteArray × Value) → Prop) (hadd : Calls Try.prog 67 #[.map (some w.heap.size), .map (some sb)] (w.alloc (.map #[] 0)) (Added w.heap.size P (w.alloc (.map #[] 0)))) :
    Calls Try.prog 37 #[.map (some sb)] w fun e w' => ∃ qs, e = .returned (.map (some w.heap.size)) ∧ P w' qs ∧ HasMap w' w.heap.size qs ∧ Below w.heap.size w w' := by
  have hmm := @run_makeMap Try.prog
  have hadd' := Lib.hid hadd
  clear hadd
  go_enter Try.func37, Try.ntmps37
  go_wp2_with fail
  refine hadd'.out.mono ?_
  rintro e w2 ⟨qs, rfl, hp, hm, hg⟩
  have hbw : Below w.heap.size w w2 := (below_alloc w (.map #[] 0)).grown hg (by simp) (fun k hk => by simp only [Option.some.injEq] at hk; omega)
  have hp' := Lib.hid hp
  have hm' := Lib.hid hm
  clear hp hm hg hadd'
  go_wp2_with fail
  go_ret
  exact ⟨qs, rfl, hp'.out, hm'.out, hbw⟩

/-- What NewFilter makes of a spec. -/
def Makes (s F : V) : Prop := ∀ (w : World) (sb lo hi : Nat), PT w lo hi s (.iface 54 (.map (some sb))) → hi ≤ w.heap.size →
  Calls Try.prog 37 #[.map (some sb)] w fun e w' => ∃ g, e = .returned (.map (some g)) ∧ FR w' w'.heap.size F (.iface 56 (.map (some g))) ∧ Below w.heap.size w w'

theorem fr_obj1 {w : World} {hi g : Nat} {k : ByteArray} {x : V} {y : Value} (hm : HasMap w g [(k, y)]) (hg : g < hi) (hx : FR w hi x y) : FR w hi (V.obj1 k x) (.iface 56 (.map (some g))) :=
  .node _ rfl g [(k, y)] hg hm rfl rfl (fun i a p ha hp => by
    have h0 : i = 0 := by have := (List.getElem?_eq_some_iff.1 hp).1; simp at this; omega
    subst h0
    have e1 : x = a := by simpa [V.obj1] using ha
    have e2 : (k, y) = p := by simpa using hp
    rw [← e1, ← e2]; exact hx)

/-- A leaf that a filter takes. -/
def LeafV (x : V) : Prop := x.kind ≠ 4 ∧ x.kind ≠ 7 ∧ x.kind ≠ 8

theorem pt_obj1 {w : World} {lo hi sb : Nat} {k : ByteArray} {x : V} (h : PT w lo hi (V.obj1 k x) (.iface 54 (.map (some sb)))) : ∃ y lo' hi', HasMap w sb [(k, y)] ∧ PT w lo' hi' x y ∧ sb < lo' ∧ hi' ≤ hi := by
  cases h with
  | obj _ _ _ h _ ps cut hlo hg hhi hb hkeys hn hm hk =>
    have hl : ps.length = 1 := by rw [hn]; rfl
    obtain ⟨p, rfl⟩ := List.length_eq_one_iff.1 hl
    have hp1 : p.1 = k := by
      have : [p.1] = [k] := hkeys
      simpa using this
    refine ⟨p.2, cut 0, cut 1, ?_, hk 0 x p rfl rfl, hg, hhi⟩
    have : p = (k, p.2) := by rw [← hp1]
    rw [← this]; exact hb

theorem makes_one (k : ByteArray) (x : V) (hk : NoDot k) (hks : k.size ≤ 1000) (hx : LeafV x) : Makes (V.obj1 k x) (V.obj1 k x) := by
  intro w sb lo hi hp hh
  obtain ⟨y, lo', hi', hm, hy, hs, hh'⟩ := pt_obj1 hp
  refine (newFilter_of sb w _ (add_one w.heap.size sb k y _ (HasMap.made w) (hm.same (Below.heap_alloc _ _ _ hm.lt)) (by have := hm.lt; omega) hk hks (hy.leafX hx.1 hx.2.1 hx.2.2))).mono ?_
  rintro e w' ⟨qs, rfl, rfl, hq, hb⟩
  exact ⟨_, rfl, fr_obj1 hq hq.lt (.leaf x y _ _ (hy.leaf_move hx.2.1 hx.2.2) hx.2.1 hx.2.2), hb⟩

theorem makes_two (a b : ByteArray) (x : V) (hka : NoDot a) (hkb : NoDot b) (hsa : a.size ≤ 1000) (hsb : b.size ≤ 1000) (hx : LeafV x) : Makes (V.obj1 (dotted a b) x) (V.obj1 a (V.obj1 b x)) := by
  intro w sb lo hi hp hh
  obtain ⟨y, lo', hi', hm, hy, hs, hh'⟩ := pt_obj1 hp
  refine (newFilter_of sb w _ (add_two w.heap.size sb a b (dotted a b) y _ rfl (HasMap.made w) (hm.same (Below.heap_alloc _ _ _ hm.lt)) (by have := hm.lt; omega) hka hkb hsa hsb (hy.leafX hx.1 hx.2.1 hx.2.2))).mono ?_
  rintro e w' ⟨qs, rfl, ⟨g, rfl, _, hg⟩, hq, hb⟩
  exact ⟨_, rfl, fr_obj1 hq hq.lt (fr_obj1 hg hg.lt (.leaf x y _ _ (hy.leaf_move hx.2.1 hx.2.2) hx.2.1 hx.2.2)), hb⟩

theorem makes_nest (a b : ByteArray) (x : V) (hka : NoDot a) (hkb : NoDot b) (hsa : a.size ≤ 1000) (hsb : b.size ≤ 1000) (hx : LeafV x) : Makes (V.obj1 a (V.obj1 b x)) (V.obj1 a (V.obj1 b x)) := by
  intro w sb lo hi hp hh
  obtain ⟨y, lo', hi', hm, hy, hs, hh'⟩ := pt_obj1 hp
  have hy0 := hy
  cases hy with
  | obj _ _ _ _ m2 ps =>
    obtain ⟨z, lo2, hi2, hm2, hz, hs2, hh2⟩ := pt_obj1 hy0
    refine (newFilter_of sb w _ (add_nest w.heap.size sb m2 a b z _ _ rfl (hm2.same (Below.heap_alloc _ _ _ hm2.lt)) (by have := hm2.lt; omega) (HasMap.made w) (hm.same (Below.heap_alloc _ _ _ hm.lt)) (by have := hm.lt; omega) hka hkb hsa hsb (hz.leafX hx.1 hx.2.1 hx.2.2))).mono ?_
    rintro e w' ⟨qs, rfl, ⟨g, rfl, _, hg⟩, hq, hb⟩
    exact ⟨_, rfl, fr_obj1 hq hq.lt (fr_obj1 hg hg.lt (.leaf x z _ _ (hz.leaf_move hx.2.1 hx.2.2) hx.2.1 hx.2.2)), hb⟩
  | null _ _ _ h => cases h
  | bool _ _ _ h => cases h
  | int _ _ _ h => cases h
  | float _ _ _ h => cases h
  | str _ _ _ h => cases h
  | arr _ _ _ h => cases h

set_option maxHeartbeats 1000000 in
theorem filterMatch_any (f v : V) (g : Nat) (y : Value) (w : World) {hi lo' hi' : Nat} (hx : FR w hi f (.iface 56 (.map (some g)))) (hy : PT w lo' hi' v y) (h1 : hi ≤ w.heap.size) (h2 : hi' ≤ w.heap.size) (hfo : f.Ok) (hvo : v.Ok) (f4 : f.No 4) (v4 : v.No 4) (hvw : v.wt ≤ 1000000) :
    Calls Try.prog 38 #[.map (some g), y] w (IffB (M f v) w) := by
  have H := Lib.hid (matchF_any f v _ y w hx hy h1 h2 hfo hvo f4 v4 hvw)
  clear hx hy
  go_enter Try.func38, Try.ntmps38
  go_wp2_with fail
  refine H.out.mono ?_
  rintro e w2 ⟨r, rfl, hr, hb2⟩
  have hr' := Lib.hid hr
  clear hr
  go_wp2_with fail
  go_ret
  exact ⟨r, rfl, hr'.out, hb2⟩

set_option maxHeartbeats 1000000 in
theorem simple_any (v : V) (n : Int) {ok : Nat → Prop} (A B : Option Addr) (ca cb : Nat) (w : World) (hb : Bds v ca cb) (hB : Strs ok w B v.keys) (hA : Vals ok w A v.l) (hok : v.Ok) (hwt : v.wt ≤ 1000000) (hn : n ≤ 2) :
    Calls Try.prog 34 #[.agg #[.int .i64 v.kind, .int .i64 v.n, .float .f64 v.f, .string v.s, .slice A v.l.length ca, .slice B v.keys.length cb], .int .i64 n] w (SomeBool (fun r => r = true) w) := by
  have R : Hid (RightAt v) := right_any v hok hwt
  go_enter Try.func34, Try.ntmps34
  go_wp2_with fail
  have hbel : Below (w.heap.size + 1) (w.alloc (valObj v A ca B cb)) (w.alloc (valObj v A ca B cb)) := Below.refl _ _
  have hA0 := hA.bel (boxed hbel).2
  have hB0 := hB.bel (boxed hbel).2
  refine (R.out A B ca cb _ hb hB0 hA0).mono ?_
  rintro e w2 ⟨r, rfl, rfl, hb2⟩
  replace hbel : Below (w.heap.size + 1) (w.alloc (valObj v A ca B cb)) w2 := hbel.trans (hb2.mono (by simp))
  obtain ⟨⟨b0, b1, b2, b3, b4, b5⟩, hbw⟩ := boxed hbel
  clear hb2 hA0 hB0
  go_wp2_with fail
  have hle := below_boxed_size hbel
  refine (big_any v A B ca cb w2 hb (hB.bel hbw) (hA.bel hbw) hok).mono ?_
  rintro e w3 ⟨r, rfl, rfl, hb3⟩
  have hbw3 : Below w.heap.size w w3 := below_call hbw (by omega) hb3
  clear b0 b1 b2 b3 b4 b5
  go_wp2_with fail
  go_ret
  exact ⟨true, rfl, rfl, hbw3⟩
end Go.Proofs.Ytpdcoipfpffhnaa
