/-
  What FnDiffFirst answers. Conditions: none.
-/
import Derived.Test.YtpdcoipfpffhnaaDifY
import Derived.Test.YtpdcoipfpffhnaaPData
namespace Go.Proofs.Ytpdcoipfpffhnaa
open Go.ChangeShapes Go.WideShapes Go.ChangeAt Go.RowKit
set_option linter.unusedVariables false
set_option linter.unusedSimpArgs false

theorem differing_any (a : V) : a.Ok → ∀ (b : V) (p : List Step), b.Ok → p.length + a.wt + b.wt ≤ 1000000 → Call3 a b p := by
  induction a using V.ind with
  | h a ih =>
  intro hao b p hbo hw
  have hlm := wts_len a.l
  have hwa := V.wt_eq a
  have hwb := V.wt_eq b
  rcases Classical.em (a.kind = 7 ∧ b.kind = 7) with h7 | h7
  · have ih' : ∀ x ∈ a.l, ∀ (b : V) (p : List Step), b.Ok → p.length + x.wt + b.wt ≤ 1000000 → Call3 x b p := fun x hx => ih x hx (hao.kids x hx)
    clear ih
    obtain ⟨k, n, ff, s, l, ks⟩ := a
    obtain ⟨k', n', ff', s', l', ks'⟩ := b
    obtain ⟨h1, h2⟩ := h7
    dsimp only at h1 h2 hlm hwa hwb ih'
    subst h1 h2
    exact differing_arr n n' ff ff' s s' l l' ks ks' p (by omega) (by omega) (fun i x y hx hy => ih' x (get_mem hx) y _ (hbo.kids y (get_mem hy)) (by
      have h1 : x.wt < _ := wt_kid (v := ⟨7, n, ff, s, l, ks⟩) (get_mem hx)
      have h2 : y.wt < _ := wt_kid (v := ⟨7, n', ff', s', l', ks'⟩) (get_mem hy)
      simp only [List.length_append, List.length_cons, List.length_nil]
      omega))
  rcases Classical.em (a.kind = 8 ∧ b.kind = 8) with h8 | h8
  · have ih' : ∀ x ∈ a.l, ∀ (b : V) (p : List Step), b.Ok → p.length + x.wt + b.wt ≤ 1000000 → Call3 x b p := fun x hx => ih x hx (hao.kids x hx)
    clear ih
    have e1 : a.keys.length = a.l.length ∧ a.keys.Nodup := by cases hao <;> first | exact ⟨by assumption, by assumption⟩ | omega
    have e2 : b.keys.length = b.l.length ∧ b.keys.Nodup := by cases hbo <;> first | exact ⟨by assumption, by assumption⟩ | omega
    have hmem : ∀ k, Call3 (a.member k) (b.member k) (p ++ [Step.key k]) := fun k => by
      have h1 := wt_member b k b.wt (Nat.le_refl _)
      have ho := hbo.member k
      rcases a.member_cases k with e | e
      · rw [e]
        exact differing_leaf V.null (b.member k) _ V.Ok.of_null (fun h => absurd h.1 (by decide)) (fun h => absurd h.1 (by decide))
      · exact ih' _ e (b.member k) _ ho (by
          have h2 := wt_kid e
          simp only [List.length_append, List.length_cons, List.length_nil]
          omega)
    obtain ⟨k, n, ff, s, l, ks⟩ := a
    obtain ⟨k', n', ff', s', l', ks'⟩ := b
    obtain ⟨h1, h2⟩ := h8
    dsimp only at h1 h2 hlm hwa hwb ih' e1 e2
    subst h1 h2
    exact differing_obj n n' ff ff' s s' l l' ks ks' p (by omega) (by omega) (by omega) e1.2 e1.1 e2.2 e2.1 (fun k _ => hmem k)
  · exact differing_leaf a b p hao h7 h8

theorem differs_true (w : World) : Calls Try.prog 15 #[] w (SomeBool (fun r => r = true) w) := differs_any w

set_option maxHeartbeats 2000000 in
theorem fnDiff_any (f t : V) {ok : Nat → Prop} (A B A' B' : Option Addr) (ca cb ca' cb' : Nat) (w : World) (hb : Bds f ca cb) (hB : Strs ok w B f.keys) (hA : Vals ok w A f.l) (hb' : Bds t ca' cb') (hB' : Strs ok w B' t.keys) (hA' : Vals ok w A' t.l) :
    Calls Try.prog 5 #[.agg #[.int .i64 f.kind, .int .i64 f.n, .float .f64 f.f, .string f.s, .slice A f.l.length ca, .slice B f.keys.length cb], .agg #[.int .i64 t.kind, .int .i64 t.n, .float .f64 t.f, .string t.s, .slice A' t.l.length ca', .slice B' t.keys.length cb']] w (SomeBool (fun r => r = true) w) := by
  go_enter Try.func5, Try.ntmps5
  go_wp2_with fail
  have hbel0 : Below (w.heap.size + 2) ((w.alloc (valObj f A ca B cb)).alloc (valObj t A' ca' B' cb')) ((w.alloc (valObj f A ca B cb)).alloc (valObj t A' ca' B' cb')) := Below.refl _ _
  have hbw0 := below2 w (valObj f A ca B cb) (valObj t A' ca' B' cb')
  refine (zzFits1_any f A B ca cb _ hb (hB.bel hbw0)).mono ?_
  rintro e w1 ⟨r, rfl, _, hb1⟩
  have hbel1 := hbel0.trans (hb1.mono (by rw [alloc_size, alloc_size]; omega))
  obtain ⟨⟨b0, b1, b2, b3, b4, b5⟩, ⟨d0, d1, d2, d3, d4, d5⟩, hbw1⟩ := boxed2 hbel1
  clear hbel0 hbw0 hb1
  cases r with
  | false =>
    go_wp2_with fail
    go_ret
    exact ⟨true, rfl, rfl, hbw1⟩
  | true =>
  go_wp2_with fail
  refine (zzFits1_any t A' B' ca' cb' _ hb' (hB'.bel hbw1)).mono ?_
  rintro e w2 ⟨r, rfl, _, hb2⟩
  have hs1 : w.heap.size + 2 ≤ w1.heap.size := by have := hbel1.size; rw [alloc_size, alloc_size] at this; exact this
  have hbel2 := hbel1.trans (hb2.mono hs1)
  clear b0 b1 b2 b3 b4 b5 d0 d1 d2 d3 d4 d5 hb2 hbel1 hbw1
  obtain ⟨⟨b0, b1, b2, b3, b4, b5⟩, ⟨d0, d1, d2, d3, d4, d5⟩, hbw2⟩ := boxed2 hbel2
  cases r with
  | false =>
    go_wp2_with fail
    go_ret
    exact ⟨true, rfl, rfl, hbw2⟩
  | true =>
  go_wp2_with fail
  refine (plainData_any f A B ca cb _ hb (hB.bel hbw2) (hA.bel hbw2)).mono ?_
  rintro e w3 ⟨r, rfl, hpf, hb3⟩
  have hs2 : w.heap.size + 2 ≤ w2.heap.size := by have := hbel2.size; rw [alloc_size, alloc_size] at this; exact this
  have hbel3 := hbel2.trans (hb3.mono hs2)
  clear b0 b1 b2 b3 b4 b5 d0 d1 d2 d3 d4 d5 hb3 hbel2 hbw2
  obtain ⟨⟨b0, b1, b2, b3, b4, b5⟩, ⟨d0, d1, d2, d3, d4, d5⟩, hbw3⟩ := boxed2 hbel3
  cases r with
  | false =>
    clear hpf
    go_wp2_with fail
    refine (differs_any w3).mono ?_
    rintro e w4 ⟨r, rfl, rfl, hb4⟩
    have hbw4 := hbw3.trans (hb4.mono hbw3.size)
    clear b0 b1 b2 b3 b4 b5 d0 d1 d2 d3 d4 d5
    go_wp2_with fail
    go_ret
    exact ⟨true, rfl, rfl, hbw4⟩
  | true =>
  have hpf' := Lib.hid (hpf rfl)
  clear hpf
  go_wp2_with fail
  refine (plainData_any t A' B' ca' cb' _ hb' (hB'.bel hbw3) (hA'.bel hbw3)).mono ?_
  rintro e w4 ⟨r, rfl, hpt, hb4⟩
  have hs3 : w.heap.size + 2 ≤ w3.heap.size := by have := hbel3.size; rw [alloc_size, alloc_size] at this; exact this
  have hbel4 := hbel3.trans (hb4.mono hs3)
  clear b0 b1 b2 b3 b4 b5 d0 d1 d2 d3 d4 d5 hb4 hbel3 hbw3
  obtain ⟨⟨b0, b1, b2, b3, b4, b5⟩, ⟨d0, d1, d2, d3, d4, d5⟩, hbw4⟩ := boxed2 hbel4
  cases r with
  | false =>
    clear hpt
    go_wp2_with fail
    refine (differs_any w4).mono ?_
    rintro e w5 ⟨r, rfl, rfl, hb5⟩
    have hbw5 := hbw4.trans (hb5.mono hbw4.size)
    clear b0 b1 b2 b3 b4 b5 d0 d1 d2 d3 d4 d5
    go_wp2_with fail
    go_ret
    exact ⟨true, rfl, rfl, hbw5⟩
  | true =>
  have hpt' := Lib.hid (hpt rfl)
  clear hpt
  have hs4 : w.heap.size + 2 ≤ w4.heap.size := by have := hbel4.size; rw [alloc_size, alloc_size] at this; exact this
  have fw : Hid (f.wt ≤ 1000000) := by have := hpf'.out.1; show f.wt ≤ _; omega
  have tw : Hid (t.wt ≤ 1000000) := by have := hpt'.out.1; show t.wt ≤ _; omega
  go_wp2_with fail
  refine (diffFirst_any f t A B A' B' ca cb ca' cb' w4 hb (hB.bel hbw4) (hA.bel hbw4) hb' (hB'.bel hbw4) (hA'.bel hbw4) hpf'.out.2.1 hpt'.out.2.1 hpf'.out.2.2 hpt'.out.2.2 fw.out tw.out).mono ?_
  rintro e w5 ⟨v5, rfl, hb5, hans⟩
  have hbel5 := hbel4.trans (hb5.mono hs4)
  clear b0 b1 b2 b3 b4 b5 d0 d1 d2 d3 d4 d5 hb5 hbel4 hbw4
  obtain ⟨⟨b0, b1, b2, b3, b4, b5⟩, ⟨d0, d1, d2, d3, d4, d5⟩, hbw5⟩ := boxed2 hbel5
  have hs5 : w.heap.size + 2 ≤ w5.heap.size := by have := hbel5.size; rw [alloc_size, alloc_size] at this; exact this
  have hwant : ∀ W, Below w5.heap.size w5 W → Calls Try.prog 17 #[.agg #[.int .i64 f.kind, .int .i64 f.n, .float .f64 f.f, .string f.s, .slice A f.l.length ca, .slice B f.keys.length cb], .agg #[.int .i64 t.kind, .int .i64 t.n, .float .f64 t.f, .string t.s, .slice A' t.l.length ca', .slice B' t.keys.length cb'], .slice none 0 0] W (WantPost f t [] W) := fun W hbW => differing_any f hpf'.out.2.1 t [] hpt'.out.2.1 (by have h1 := hpf'.out.1; have h2 := hpt'.out.1; simp only [List.length_nil]; omega) ok A B A' B' ca cb ca' cb' (.slice none 0 0) W hb (hB.bel (hbw5.trans (hbW.mono hbw5.size))) (hA.bel (hbw5.trans (hbW.mono hbw5.size))) hb' (hB'.bel (hbw5.trans (hbW.mono hbw5.size))) (hA'.bel (hbw5.trans (hbW.mono hbw5.size))) (FrOwn.nil _ _)
  have hwantH := Lib.hid hwant
  clear hwant
  clear b0 b1 b2 b3 b4 b5 d0 d1 d2 d3 d4 d5
  rcases hans with ⟨rfl, hno⟩ | ⟨g, c, q, v0, rfl, hq, hc0, hfr⟩
  · have hnoH := Lib.hid hno
    have hbelA := hbel5.trans ((below_alloc w5 (.cells #[.slice none 0 0] 36)).mono hs5)
    obtain ⟨⟨b0, b1, b2, b3, b4, b5⟩, ⟨d0, d1, d2, d3, d4, d5⟩, hbwA⟩ := boxed2 hbelA
    clear hno
    go_wp2_with fail
    refine (hwantH.out _ (below_alloc _ _)).mono ?_
    rintro e w6 ⟨Aw, cw, m, ws, rfl, hm, ho, hqs, hle, hb6⟩
    have hws : ws = [] := by
      cases ws with
      | nil => rfl
      | cons r z =>
        obtain ⟨q, _, hd⟩ := (hqs r).1 (List.mem_cons_self ..)
        exact absurd hd (hnoH.out q)
    subst hws
    obtain rfl : m = 0 := hm.symm
    have g0 : w6.cell? ⟨w5.heap.size, 0, none⟩ = some (.slice none 0 0) := (hb6.cell (p := ⟨w5.heap.size, 0, none⟩) (by rw [alloc_size]; exact Nat.lt_succ_self _)).trans (cells_new w5 _ _ 0)
    have hbw6 := hbwA.trans (hb6.mono hbwA.size)
    have g0lt : w5.heap.size < w6.heap.size := cell_lt g0
    clear hm ho hqs hle hb6 b0 b1 b2 b3 b4 b5 d0 d1 d2 d3 d4 d5 hwantH
    go_wp2_with fail
    refine (differs_any w6).mono ?_
    rintro e w7 ⟨r, rfl, rfl, hb7⟩
    have g7 : w7.cell? ⟨w5.heap.size, 0, none⟩ = some (.slice none 0 0) := (hb7.cell (p := ⟨w5.heap.size, 0, none⟩) g0lt).trans g0
    have hbw7 := hbw6.trans (hb7.mono hbw6.size)
    clear hb7 g0
    go_wp2_with fail
    go_ret
    exact ⟨true, rfl, rfl, hbw7⟩
  · have hqH := Lib.hid hq
    have hbelA := hbel5.trans ((below_alloc w5 (.cells #[.slice (some ⟨g, 0, none⟩) 1 c] 36)).mono hs5)
    obtain ⟨⟨b0, b1, b2, b3, b4, b5⟩, ⟨d0, d1, d2, d3, d4, d5⟩, hbwA⟩ := boxed2 hbelA
    have hgot : Hid (GotAt (w5.alloc (.cells #[.slice (some ⟨g, 0, none⟩) 1 c] 36)) w5.heap.size q) := ⟨g, c, v0, cells_new w5 _ _ 0, ((below_alloc w5 _).cell (p := ⟨g, 0, none⟩) (cell_lt hc0)).trans hc0, hfr.keep (Keeps.of_below (below_alloc w5 _))⟩
    clear hq hc0 hfr
    go_wp2_with fail
    refine (hwantH.out _ (below_alloc _ _)).mono ?_
    rintro e w6 ⟨Aw, cw, m, ws, rfl, hm, ho, hqs, hle, hb6⟩
    have hin : q ∈ ws := (hqs q).2 ⟨q, rfl, hqH.out⟩
    have hm0 : 0 < m := by rw [← hm]; exact List.length_pos_of_mem hin
    have hml : ws.length ≤ 1000000 := by have h1 := hpf'.out.1; have h2 := hpt'.out.1; omega
    have hpl : ∀ p ∈ ws, p.length ≤ 1000000 := fun p hp => by
      obtain ⟨r, rfl, hd⟩ := (hqs p).1 hp
      have h1 := dif_len hd
      have h2 := hpf'.out.1
      omega
    have hmB : ((m : Int) == 0) = false := beq_eq_false_iff_ne.2 (by omega)
    have hgot6 : Hid (GotAt w6 w5.heap.size q) := hgot.out.bel hb6
    have g0 : w6.cell? ⟨w5.heap.size, 0, none⟩ = some (.slice (some ⟨g, 0, none⟩) 1 c) := (hb6.cell (p := ⟨w5.heap.size, 0, none⟩) (by rw [alloc_size]; exact Nat.lt_succ_self _)).trans (cells_new w5 _ _ 0)
    have hbw6 := hbwA.trans (hb6.mono hbwA.size)
    have g0lt : w5.heap.size < w6.heap.size := cell_lt g0
    have hcon : Hid (∀ W, Below w6.heap.size w6 W → Calls Try.prog 18 #[.slice Aw m cw, .func (.func 19) #[] #[.pointer (some ⟨w5.heap.size, 0, none⟩)]] W (SomeBool (fun r => r = true) W)) := fun W hbW => containsPlace_any (.slice Aw m cw) ws q w5.heap.size W (ho.bel hbW) (hgot6.out.bel hbW) hml hpl hin
    clear hm ho hqs hle hb6 b0 b1 b2 b3 b4 b5 d0 d1 d2 d3 d4 d5 hwantH hgot hin hml hpl hgot6
    go_wp2_with fail
    refine (differs_any w6).mono ?_
    rintro e w7 ⟨r, rfl, rfl, hb7⟩
    have g7 : w7.cell? ⟨w5.heap.size, 0, none⟩ = some (.slice (some ⟨g, 0, none⟩) 1 c) := (hb7.cell (p := ⟨w5.heap.size, 0, none⟩) g0lt).trans g0
    have hbw7 := hbw6.trans (hb7.mono hbw6.size)
    have hcon7 := Lib.hid (hcon.out w7 hb7)
    clear hb7 g0 hcon
    go_wp2_with fail
    refine hcon7.out.mono ?_
    rintro e w8 ⟨r, rfl, rfl, hb8⟩
    have hbw8 := hbw7.trans (hb8.mono hbw7.size)
    clear hb8 g7 hcon7
    go_wp2_with fail
    go_ret
    exact ⟨true, rfl, rfl, hbw8⟩
end Go.Proofs.Ytpdcoipfpffhnaa
