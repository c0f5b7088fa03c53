/-
  fitting, whole. Conditions: none.
-/
import Derived.Test.YtpdcoipfpffhnaaFitting
namespace Go.Proofs.Ytpdcoipfpffhnaa
open Go.ChangeShapes Go.WideShapes Go.ChangeAt Go.RowKit
set_option linter.unusedVariables false

theorem eg_fitting : ∀ args w, (callFunc 10 args).run Try.prog w = .ok (.enter 10 args) w := fun _ _ => by kernel_rfl

set_option maxHeartbeats 2000000 in
theorem fitting_arr (n n' : Int) (f f' : Nat) (s s' : ByteArray) (l l' : List V) (ks ks' : List ByteArray) (hlm : l.length ≤ 1000000) (hlm' : l'.length ≤ 1000000) (P : Nat → Prop)
    (H0 : ∀ (i : Nat) x y, l[i]? = some x → l'[i]? = some y → Call2 10 x y (P i))
    {ok : Nat → Prop} (A B A' B' : Option Addr) (ca cb ca' cb' : Nat) (w : World) (hA : Vals ok w A l) (hA' : Vals ok w A' l') :
    Calls Try.prog 10 #[.agg #[.int .i64 7, .int .i64 n, .float .f64 f, .string s, .slice A l.length ca, .slice B ks.length cb], .agg #[.int .i64 7, .int .i64 n', .float .f64 f', .string s', .slice A' l'.length ca', .slice B' ks'.length cb']] w
      (IffB (l.length = l'.length ∧ ∀ i, i < l.length → P i) w) := by
  have H := Lib.hid H0
  clear H0
  go_enter Try.func10, Try.ntmps10
  go_wp2_with fail
  have hbel : Below w.heap.size w ((w.alloc (valObj ⟨7, n, f, s, l, ks⟩ A ca B cb)).alloc (valObj ⟨7, n', f', s', l', ks'⟩ A' ca' B' cb')) := below2 _ _ _
  refine (equalFunc_any _ eg_fitting l l' P H.out A A' ca ca' _ (hA.bel hbel) (hA'.bel hbel) hlm hlm').mono ?_
  rintro e w2 ⟨r, rfl, hr, hb2⟩
  have hbw := hbel.trans (hb2.mono (by rw [alloc_size, alloc_size]; omega))
  have hr' := Lib.hid hr
  clear hr hb2 hbel
  go_wp2_with fail
  go_ret
  exact ⟨r, rfl, hr'.out, hbw⟩

set_option maxHeartbeats 2000000 in
theorem fitting_no (k k' n n' : Int) (f f' : Nat) (s s' : ByteArray) (n1 n2 n3 n4 : Nat) (A B A' B' : Option Addr) (ca cb ca' cb' : Nat) (w : World) (P : Prop) (hP : ¬ P) (h : (k = 7 ∧ k' ≠ 7) ∨ (k = 8 ∧ k' ≠ 8)) :
    Calls Try.prog 10 #[.agg #[.int .i64 k, .int .i64 n, .float .f64 f, .string s, .slice A n1 ca, .slice B n2 cb], .agg #[.int .i64 k', .int .i64 n', .float .f64 f', .string s', .slice A' n3 ca', .slice B' n4 cb']] w (IffB P w) := by
  have hp' := Lib.hid (not_iff P hP)
  clear hP
  rcases h with ⟨rfl, h⟩ | ⟨rfl, h⟩
  · have k7 : (k' == 7) = false := beq_eq_false_iff_ne.2 h
    clear h
    go_enter Try.func10, Try.ntmps10
    go_wp2_with fail
    go_ret
    exact ⟨false, rfl, hp'.out, below2 _ _ _⟩
  · have k8 : (k' == 8) = false := beq_eq_false_iff_ne.2 h
    clear h
    go_enter Try.func10, Try.ntmps10
    go_wp2_with fail
    go_ret
    exact ⟨false, rfl, hp'.out, below2 _ _ _⟩

set_option maxHeartbeats 2000000 in
theorem fitting_leaf (f t : V) (A B A' B' : Option Addr) (ca cb ca' cb' : Nat) (w : World) (hf : f.Ok) (h7 : f.kind ≠ 7) (h8 : f.kind ≠ 8) :
    Calls Try.prog 10 #[.agg #[.int .i64 f.kind, .int .i64 f.n, .float .f64 f.f, .string f.s, .slice A f.l.length ca, .slice B f.keys.length cb], .agg #[.int .i64 t.kind, .int .i64 t.n, .float .f64 t.f, .string t.s, .slice A' t.l.length ca', .slice B' t.keys.length cb']] w (IffB (LAlike f t) w) := by
  have hk7 : (f.kind == 7) = false := beq_eq_false_iff_ne.2 h7
  have hk8 : (f.kind == 8) = false := beq_eq_false_iff_ne.2 h8
  have hn7 : (f.kind != 7) = true := bne_iff_ne.2 h7
  have hn8 : (f.kind != 8) = true := bne_iff_ne.2 h8
  have hcall := Lib.hid (alike_leaf f t A B A' B' ca cb ca' cb' ((w.alloc (valObj f A ca B cb)).alloc (valObj t A' ca' B' cb')) hf (fun _ => ⟨h7, h8⟩))
  clear h7 h8 hf
  go_enter Try.func10, Try.ntmps10
  go_wp2_with fail
  refine hcall.out.mono ?_
  rintro e w2 ⟨r, rfl, hr, hb2⟩
  have hbw := (below2 w (valObj f A ca B cb) (valObj t A' ca' B' cb')).trans (hb2.mono (by rw [alloc_size, alloc_size]; omega))
  have hr' := Lib.hid hr
  clear hr hb2
  go_wp2_with fail
  go_ret
  exact ⟨r, rfl, hr'.out, hbw⟩

theorem fitting_any (f : V) : f.wt ≤ 1000000 → f.Ok → ∀ t : V, t.wt ≤ 1000000 → t.Ok → Call2 10 f t (Fit f t) := by
  induction f using V.ind with
  | h f ih =>
  intro hwt hok t htw hto ok A B A' B' ca cb ca' cb' w hb hB hA hb' hB' hA'
  have ih' : ∀ x ∈ f.l, ∀ t : V, t.wt ≤ 1000000 → t.Ok → Call2 10 x t (Fit x t) := fun x hx => ih x hx (by have := wt_kid hx; omega) (hok.kids x hx)
  have hlm : f.l.length ≤ 1000000 := by have := wt_len f; omega
  have hkm : f.keys.length ≤ 1000000 := by have := wt_klen f; omega
  have hlm' : t.l.length ≤ 1000000 := by have := wt_len t; omega
  have hkm' : t.keys.length ≤ 1000000 := by have := wt_klen t; omega
  clear ih
  by_cases h7 : f.kind = 7
  · by_cases ht7 : t.kind = 7
    · have hc := fitting_arr f.n t.n f.f t.f f.s t.s f.l t.l f.keys t.keys hlm hlm' (fun i => ∀ x y, f.l[i]? = some x → t.l[i]? = some y → Fit x y) (fun i x y hx hy => by
        intro ok A B A' B' ca cb ca' cb' w hb hB hA hb' hB' hA'
        refine (ih' x (get_mem hx) y (by have := wt_kid (get_mem hy); omega) (hto.kids y (get_mem hy)) A B A' B' ca cb ca' cb' w hb hB hA hb' hB' hA').mono ?_
        rintro e w' ⟨r, rfl, hr, hb5⟩
        refine ⟨r, rfl, hr.trans ⟨fun h x' y' hx' hy' => ?_, fun h => h x y hx hy⟩, hb5⟩
        obtain rfl := Option.some.inj (hx.symm.trans hx')
        obtain rfl := Option.some.inj (hy.symm.trans hy')
        exact h) A B A' B' ca cb ca' cb' w hA hA'
      rw [h7, ht7]
      refine hc.mono ?_
      rintro e w' ⟨r, rfl, hr, hb5⟩
      refine ⟨r, rfl, hr.trans ?_, hb5⟩
      rw [fit_arr h7]
      exact ⟨fun h => ⟨ht7, h.1, fun i x y hx hy => h.2 i (List.getElem?_eq_some_iff.1 hx).1 x y hx hy⟩, fun h => ⟨h.2.1, fun i hi x y hx hy => h.2.2 i x y hx hy⟩⟩
    · exact fitting_no _ _ _ _ _ _ _ _ _ _ _ _ A B A' B' ca cb ca' cb' w _ (fun hf => ht7 ((fit_arr h7).1 hf).1) (Or.inl ⟨h7, ht7⟩)
  by_cases h8 : f.kind = 8
  · by_cases ht8 : t.kind = 8
    · have e1 : f.keys.length = f.l.length := by cases hok <;> first | assumption | omega
      have e2 : t.keys.length = t.l.length := by cases hto <;> first | assumption | omega
      obtain ⟨k, n, ff, s, l, ks⟩ := f
      obtain ⟨k', n', ff', s', l', ks'⟩ := t
      obtain rfl : k = 8 := h8
      obtain rfl : k' = 8 := ht8
      refine (fitting_obj n n' ff ff' s s' l l' ks ks' e1 (by exact Nat.le_of_eq e2) hkm hkm' (fun i key x hk hx => ih' x (get_mem hx) _ ?_ (hto.member key)) A B A' B' ca cb ca' cb' w hb hB hA hb' hB' hA').mono ?_
      · rcases V.member_cases ⟨8, n', ff', s', l', ks'⟩ key with e | e
        · rw [e]; simp [V.null, V.wt, V.wts, sumS]; (show 1 + 0 ≤ 1000000); omega
        · have := wt_kid e; omega
      · rintro e w' ⟨r, rfl, hr, hb5⟩
        refine ⟨r, rfl, hr.trans ?_, hb5⟩
        rw [fit_obj (f := ⟨8, n, ff, s, l, ks⟩) rfl]
        exact ⟨fun h => ⟨rfl, h⟩, fun h => h.2⟩
    · exact fitting_no _ _ _ _ _ _ _ _ _ _ _ _ A B A' B' ca cb ca' cb' w _ (fun hf => ht8 ((fit_obj h8).1 hf).1) (Or.inr ⟨h8, ht8⟩)
  · refine (fitting_leaf f t A B A' B' ca cb ca' cb' w hok h7 h8).mono ?_
    rintro e w' ⟨r, rfl, hr, hb5⟩
    exact ⟨r, rfl, hr.trans (fit_leaf h7 h8).symm, hb5⟩
end Go.Proofs.Ytpdcoipfpffhnaa
