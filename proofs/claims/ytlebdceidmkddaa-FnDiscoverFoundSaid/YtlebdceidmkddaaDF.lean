/-
  FnDiscoverFound answers true: the walk. Conditions: none.
-/
import Derived.Test.YtlebdceidmkddaaDisc
import Derived.Test.YtlebdceidmkddaaFits
import Derived.Test.YtlebdceidmkddaaOpen
namespace Go.Proofs.Ytlebdceidmkddaa
open Go.ChangeShapes Go.WideShapes Go.ChangeAt Go.RowKit
set_option linter.unusedVariables false
set_option linter.unusedSimpArgs false

theorem below_cell {w w' : World} {a : Addr} {v : Value} (h : Below w.heap.size w w') (hc : w.cell? a = some v) : w'.cell? a = some v := (cell_same a (h.block _ (World.block_lt_of_cell? w a hc))).trans hc
/-- The state of the law's loop. -/
structure LS (W1 : World) (g : Nat) (C : Option Addr) (n c : Nat) (wr : World) (x : ByteArray) (wv : Value) (j : Nat) (prs : List (List UInt8 × List UInt8)) (q : Int) : Prop where
  hx : L x = txt prs
  fine : ∀ p ∈ prs, Fine p
  len : prs.length = j
  row : wr.ownsRow (g + 1) 9 1 wv j (strVals (prs.map fun p => ofL p.2))
  blk : wr.heap[g]? = some (.cells #[.slice C n c, .int .i64 q] 32 (0, 0))
  q0 : 0 ≤ q
  q1 : q ≤ 10000 * j
  step : Step g W1 wr
  size : x.size ≤ 50000 * j
theorem ofL_L (s : ByteArray) : ofL (L s) = s := by simp [L, ofL]
theorem LS.next {W1 wr w2 w5 : World} {g : Nat} {C : Option Addr} {n c j : Nat} {x x' t : ByteArray} {wv v' : Value} {prs : List (List UInt8 × List UInt8)} {q q' : Int} {pre : List UInt8} {o : Obj}
    (h : LS W1 g C n c wr x wv j prs q) (hg : W1.heap.size = g + 1) (hst : Step g wr w2) (hw : w2.heap[g]? = some (.cells #[.slice C n c, .int .i64 q'] 32 (0, 0))) (hgr : (w2.alloc o).grownBy w5 wv.ownBlock)
    (hown : w5.ownsRow (g + 1) 9 1 v' (j + 1) (strVals (prs.map fun p => ofL p.2) ++ [.string t])) (hx' : L x' = L x ++ (pre ++ 32 :: L t)) (hf : Fine (pre, L t)) (hsz : x'.size ≤ x.size + 50000) (hq : q' ≤ q + 10000) (hq0 : 0 ≤ q') :
    LS W1 g C n c w5 x' v' (j + 1) (prs ++ [(pre, L t)]) q' := by
  have hs1 := h.step.size
  have hs2 := hst.size
  have hs3 := hgr.size
  rw [alloc_size] at hs3
  have hne : ∀ k, k ≤ g → some k ≠ wv.ownBlock := fun k hk e => by have := (h.row.lt k e.symm).1; omega
  have hk : ∀ k, k ≤ g → w5.heap[k]? = w2.heap[k]? := fun k hk => (hgr.block k (by simp; omega) (hne k hk)).trans (Below.heap_alloc _ _ _ (by omega))
  refine ⟨by rw [txt_snoc, hx', h.hx], ?_, by simp [h.len], ?_, (hk g (by omega)).trans hw, hq0, by have := h.q1; push_cast; omega, ?_, by have := h.size; omega⟩
  · intro p hp
    rcases List.mem_append.1 hp with hp | hp
    · exact h.fine p hp
    · rw [List.mem_singleton.1 hp]; exact hf
  · have e : strVals ((prs ++ [(pre, L t)]).map fun p => ofL p.2) = strVals (prs.map fun p => ofL p.2) ++ [.string t] := by simp [strVals, ofL_L]
    rw [e]; exact hown
  · exact ⟨hgr.os.trans (hst.os.trans h.step.os), hgr.tape.trans (hst.tape.trans h.step.tape), hgr.output.trans (hst.output.trans h.step.output), by omega, fun k hk1 hk2 => (hk k (by omega)).trans ((hst.block k (by omega) hk2).trans (h.step.block k hk1 hk2))⟩
theorem row_step {wr w6 : World} {g base j : Nat} {v : Value} {ys : List Value} (h : wr.ownsRow base 9 1 v j ys) (hg : g < base) (hs : Step g wr w6) : w6.ownsRow base 9 1 v j ys := by
  have hgr : wr.grownBy w6 (some g) := ⟨hs.os, hs.tape, hs.output, hs.size, fun k hk hne => hs.block k hk (fun e => hne (by rw [e]))⟩
  refine h.kept hgr ?_
  cases hv : v.ownBlock with
  | none => exact Or.inl rfl
  | some k => exact Or.inr (fun e => by have := (h.lt k hv).1; cases e; omega)

set_option maxRecDepth 100000 in
set_option maxHeartbeats 40000000 in
theorem found_any (w : World) (xs : List V) (A : Option Addr) (ca : Nat) (bs : List ByteArray) (B : Option Addr) (cb : Nat) (C : Option Addr) (n c : Nat)
    (hA : Vals any w A xs) (hB : Strs any w B bs) (hC : 0 < n → ∃ ad, C = some ad ∧ ∀ i, i < n → ∃ x : Int, w.cell? (ad.add i) = some (.int .u8 x) ∧ 0 ≤ x ∧ x ≤ 255)
    (hxl : xs.length ≤ ca) (hca : ca ≤ 9223372036854775807) (hxl' : xs.length ≤ 140737488351232) (hbl : bs.length ≤ cb) (hcb : cb ≤ 9223372036854775807) (hbl' : bs.length ≤ 140737488351232) (hnc : n ≤ c) (hcc : c ≤ 9223372036854775807) (hn' : n ≤ 140737488351232) :
    Calls Try.prog 3 #[.slice A xs.length ca, .slice B bs.length cb, .slice C n c] w (SomeBool (fun r => r = true) w) := by
  have yes : ∀ w' : World, Below w.heap.size w w' → SomeBool (fun r => r = true) w (.returned (.bool true)) w' := fun w' h => ⟨true, rfl, rfl, h⟩
  have hyes := Lib.hid yes
  clear yes
  go_enter Try.func3, Try.ntmps3
  by_cases h0 : 2147483647 < xs.length
  · go_wp2_with fail
    go_ret
    exact hyes.out _ (Below.refl _ _)
  go_wp2_with fail
  refine (zzFits2_any B bs cb w hB hbl').mono ?_
  rintro e w0 ⟨rfl, hw0⟩
  subst w0
  by_cases hf : fits2 bs = true
  rotate_left
  · have hf' : fits2 bs = false := by simpa using hf
    rw [hf']
    go_wp2_with fail
    go_ret
    exact hyes.out _ (Below.refl _ _)
  rw [hf]
  by_cases h1 : 2147483647 < n
  · go_wp2_with fail
    go_ret
    exact hyes.out _ (Below.refl _ _)
  by_cases h2 : 8 < xs.length
  · go_wp2_with fail
    go_ret
    exact hyes.out _ (Below.refl _ _)
  by_cases h3 : 300 < n
  · go_wp2_with fail
    go_ret
    exact hyes.out _ (Below.refl _ _)
  go_wp2_with fail
  refine (small_any (V.mk 7 0 0 ⟨#[]⟩ xs []) A none ca 0 600 w ⟨by unfold I64; simp, by unfold I64; simp, by simp, (by decide : (⟨#[]⟩ : ByteArray).size ≤ 140737488351232), hxl, hca, by simp, by simp, hxl', by simp⟩ (fun h => absurd rfl h) hA (by omega) (by omega)).mono ?_
  rintro e w1 ⟨r, rfl, hr, hb1⟩
  cases r
  · go_wp2_with fail
    go_ret
    exact hyes.out _ hb1
  obtain ⟨hheft, hgood⟩ := hr rfl
  clear hr
  have hhe := V.heft_eq (V.mk 7 0 0 ⟨#[]⟩ xs [])
  rw [V.good_eq] at hgood
  have hgood2 := Lib.hid (goods_mem hgood.2)
  dsimp only at hhe
  have hheft2 := Lib.hid (show V.hefts xs ≤ 600 by omega)
  clear hgood hheft hhe
  have hgw : (w1.alloc (.cells #[.slice C n c, .int .i64 0] 32)).heap.size = w1.heap.size + 1 := alloc_size _ _
  have hA1 := (hA.lt.move (fun k hk => hb1.block k hk.2)).mono (ok' := fun k => k < w.heap.size) (fun _ hk => hk.2)
  have hB1 := (hB.lt.move (fun k hk => hb1.block k hk.2)).mono (ok' := fun k => k < w.heap.size) (fun _ hk => hk.2)
  have hsz1 := hb1.size
  have hways : Ways (w1.alloc (.cells #[.slice C n c, .int .i64 0] 32)) w1.heap.size C n c 0 := by
    refine ⟨new_blk _ _, fun h => ?_, hnc, hn', by omega⟩
    obtain ⟨ad, e, hc⟩ := hC h
    obtain ⟨x0, hx0, _⟩ := hc 0 h
    have hlt := World.block_lt_of_cell? w _ hx0
    rw [add_block] at hlt
    refine ⟨ad, e, by omega, fun i hi => ?_⟩
    obtain ⟨x, hx, h0, h1⟩ := hc i hi
    exact ⟨x, ((cell_same _ (by rw [add_block]; exact (Below.heap_alloc _ _ _ (by omega)).trans (hb1.block _ hlt))).trans hx), h0, h1⟩
  have hways' := Lib.hid hways
  clear hC hways
  go_wp2_with fail
  go_loopw [7, 9, 10, 11] (fun sv wv kv tv wr => ∃ (x : ByteArray) (u : Value) (j : Nat) (prs : List (List UInt8 × List UInt8)) (q : Int), sv = .string x ∧ wv = u ∧ kv = .int .i64 j ∧ j ≤ xs.length ∧ Hid (LS (w1.alloc (.cells #[.slice C n c, .int .i64 0] 32)) w1.heap.size C n c wr x u j prs q)) (fun _ _ kv _ _ => xs.length - (intOf kv).toNat)
  case atStart =>
    exact ⟨_, _, 0, [], 0, rfl, rfl, rfl, by omega, (by rfl), by simp, rfl, ⟨rfl, Or.inl ⟨rfl, rfl⟩⟩, new_blk _ _, by omega, by omega, Step.refl _ _, by show (0 : Nat) ≤ _; omega⟩
  case round =>
    obtain ⟨x, wv, j, prs, q, rfl, hwv0, rfl, hj, hLS⟩ := hrel
    by_cases hlt : j < xs.length
    · obtain ⟨y, hy⟩ := get_lt hlt
      have hym := get_mem hy
      have hss := heft_le_hefts hy
      have hh6 := hheft2.out
      have hbs8 := hLS.out.step.size
      have hx8 := hLS.out.size
      have hS := hLS.out.step
      have hq0 := hLS.out.q0
      have hq1 := hLS.out.q1
      obtain ⟨wA, wc, hwv⟩ : ∃ A c, wv = .slice A j c := own_slice hLS.out.row
      subst hwv
      subst hwv0
      have hcapw := row_cap hLS.out.row
      have hbw : Below w.heap.size w (w1.alloc (.cells #[.slice C n c, .int .i64 0] 32)) := hb1.alloc (by omega) _
      have hbw2 := step_below hbw (by omega) (g := w1.heap.size) (by omega) hS
      rw [hgw] at hbs8
      have hw3 := hways'.out.step hS hLS.out.blk hq0
      have hA3 := (hA1.move (w1 := wr) (fun k hk => (hS.block k (by rw [hgw]; have : k < w.heap.size := hk; omega) (by have : k < w.heap.size := hk; omega)).trans (Below.heap_alloc _ _ _ (by have : k < w.heap.size := hk; omega))))
      have hB3 := (hB1.move (w1 := wr) (fun k hk => (hS.block k (by rw [hgw]; have : k < w.heap.size := hk; omega) (by have : k < w.heap.size := hk; omega)).trans (Below.heap_alloc _ _ _ (by have : k < w.heap.size := hk; omega))))
      obtain ⟨ad, Ai, ci, Bi, di, hAe, hadb, ⟨e0, e1, e2, e3, e4, e5⟩, hbx, hBx, hAx⟩ := hA3.at_ hy
      subst hAe
      obtain ⟨i0, hi0, hz0, hz1, hz2⟩ := info_parts info_str
      have hy' := Lib.hid hy
      clear hA hA1 hy
      by_cases hk7 : y.kind = 7
      · have hkind : Hid (y.kind = 7 ∨ y.kind = 8) := Or.inl hk7
        have hkb : (y.kind != 7) = false := by rw [hk7]; rfl
        clear hk7
        by_cases hjb : j < bs.length
        rotate_left
        · as_aux_lemma =>
          have hst3 : Step w1.heap.size wr wr := Step.refl _ _
          clear hB3 hB1 hB
          go_wp2_with fail
          refine (say_any y Ai Bi ci di wr w1.heap.size C n c q hbx hBx hAx (fun k hk => by have : k < w.heap.size := hk; omega) hw3 (by omega) (by omega) (hgood2.out y hym)).mono ?_
          rintro e w4 ⟨v, q4, rfl, ⟨t0, rfl, ht0⟩, hq4, hq5, hw4, hst4⟩
          have ht0s := spoken_size ht0
          have ht0' := Lib.hid ht0
          have hst4' := hst3.trans hst4
          clear ht0 hst4 e0 e1 e2 e3 e4 e5
          go_wp2_with fail
          refine (trimmed_any t0 w4 (by omega)).mono ?_
          rintro e w5 ⟨t, rfl, htr, hb5⟩
          have hdoc : Hid (Doc (L t) ∧ t.size ≤ t0.size) := by
            obtain ⟨a, v, b, e1, ha, hv, hb', hd, _⟩ := ht0'.out
            have hdv := val_doc hv (hd hkind.out)
            have e2 := trimmed_doc htr e1 ha hb' hdv
            refine ⟨by rw [e2]; exact hdv, ?_⟩
            rw [← L_len, ← L_len, e2, e1]; simp; omega
          have hts := hdoc.out.2
          have hst5 := hst4'.trans (Step.of hb5)
          have hw5 := hw4.bel hb5
          clear htr hst4' hb5 hst3
          go_wp2_with fail
          refine (hasByte_any t 39 w5 (by omega)).mono ?_
          rintro e w6 ⟨r, rfl, hr1, hb6⟩
          have hst6 := hst5.trans (Step.of hb6)
          cases r
          rotate_left
          · go_wp2_with fail
            go_ret
            exact hyes.out _ (step_below hbw (by omega) (by omega) (hS.trans hst6))
          have hw6 := hw5.bel hb6
          clear hr1 hst5 hb6 hw5
          go_wp2_with fail
          refine (hasByte_any t 92 w6 (by omega)).mono ?_
          rintro e w7 ⟨r, rfl, hr2, hb7⟩
          have hst7 := hst6.trans (Step.of hb7)
          cases r
          rotate_left
          · go_wp2_with fail
            go_ret
            exact hyes.out _ (step_below hbw (by omega) (by omega) (hS.trans hst7))
          have hw7 := hw6.bel hb7
          have hr2' := Lib.hid (hr2 rfl)
          clear hr2 hst6 hb7 hw6
          go_wp2_with fail
          refine (hasByte_any t 127 w7 (by omega)).mono ?_
          rintro e w8 ⟨r, rfl, hr3, hb8⟩
          have hst8 := hst7.trans (Step.of hb8)
          cases r
          rotate_left
          · go_wp2_with fail
            go_ret
            exact hyes.out _ (step_below hbw (by omega) (by omega) (hS.trans hst8))
          have hw8 := (hw7.bel hb8).blk
          have hq80 := (hw7.bel hb8).pos
          have hfine : Fine ([], L t) := ⟨fun b hb => by simp at hb, hdoc.out.1, fun b hb => ⟨by have := hr2'.out b hb; omega, by have := hr3 rfl b hb; omega⟩⟩
          have hfine' := Lib.hid hfine
          have hrow := Lib.hid (row_step hLS.out.row (by omega) hst8)
          clear hr3 hst7 hb8 hw7 hr2' hfine
          have hw8' := Lib.hid hw8
          have hst8' := Lib.hid hst8
          have hsz8 := hst8.size
          clear hw8 hst8
          go_wp2_with (at_builtin; refine wpList_append_own_at _ rfl _ _ 23 rfl (w1.heap.size + 1) 9 i0 (.string ⟨#[]⟩) 1 16 Try.underlying23 hi0 hz0 hz1 hz2 rfl (by decide) _ _ _ rfl (hrow.out.alloc _) ⟨w8.heap.size, 0, none⟩ 1 1 _ rfl (by rfl) (news_one (by simp)) one_cell (by unfold maxLen; omega) (by omega) (by simp only [alloc_size]; omega) ?_)
          intro v' w9 hown' hgr hne hat
          obtain ⟨gx, cx, hvx, -⟩ := hown'.form (by omega)
          subst hvx
          have hN := Lib.hid (hLS.out.next hgw hst8'.out hw8'.out hgr hown' (x' := ((x ++ ⟨#[32]⟩) ++ t)) (by simp only [L_cat]; simp [L]) hfine'.out (by rw [cat_size, cat2]; omega) (by omega) hq80)
          clear hown' hgr hne hat
          go_wp2_with fail
          go_roundw
          case rel => exact ⟨_, _, j + 1, _, q4, rfl, rfl, by go_num, by omega, hN⟩
          case measure => simp [intOf]; omega
        obtain ⟨b, hbj⟩ := get_lt hjb
        obtain ⟨bd, hBe, hbd, f0, hbs⟩ := hB3.at_ hbj
        subst hBe
        clear hbj
        by_cases h100 : 100 < b.size
        · go_wp2_with fail
          go_ret
          exact hyes.out _ hbw2
        go_wp2_with fail
        refine (noneIn_any b wr (by omega)).mono ?_
        rintro e w2 ⟨r, rfl, hr, hb2⟩
        have hst3 := Step.of (g := w1.heap.size) hb2
        cases r
        · go_wp2_with fail
          go_ret
          exact hyes.out _ (step_below hbw (by omega) (by omega) (hS.trans hst3))
        have hpl := Lib.hid (hr rfl)
        as_aux_lemma =>
          replace f0 := hst3.cell f0 (by rw [add_block]; have : bd.block < w.heap.size := hbd; omega)
          replace hw3 := hw3.bel hb2
          clear e0 e1 e2 e3 e4 e5 hbx hBx hAx hr hB3 hB1 hB
          obtain ⟨ad', Ai, ci, Bi, di, hAe, hadb, ⟨e0, e1, e2, e3, e4, e5⟩, hbx, hBx, hAx⟩ := (hA3.bel hb2).at_ hy'.out
          cases hAe
          clear hb2
          go_wp2_with fail
          refine (say_any y Ai Bi ci di w2 w1.heap.size C n c q hbx hBx hAx (fun k hk => by have : k < w.heap.size := hk; omega) hw3 (by omega) (by omega) (hgood2.out y hym)).mono ?_
          rintro e w4 ⟨v, q4, rfl, ⟨t0, rfl, ht0⟩, hq4, hq5, hw4, hst4⟩
          have ht0s := spoken_size ht0
          have ht0' := Lib.hid ht0
          have hst4' := hst3.trans hst4
          clear ht0 hst4 e0 e1 e2 e3 e4 e5
          go_wp2_with fail
          refine (trimmed_any t0 w4 (by omega)).mono ?_
          rintro e w5 ⟨t, rfl, htr, hb5⟩
          have hdoc : Hid (Doc (L t) ∧ t.size ≤ t0.size) := by
            obtain ⟨a, v, b, e1, ha, hv, hb', hd, _⟩ := ht0'.out
            have hdv := val_doc hv (hd hkind.out)
            have e2 := trimmed_doc htr e1 ha hb' hdv
            refine ⟨by rw [e2]; exact hdv, ?_⟩
            rw [← L_len, ← L_len, e2, e1]; simp; omega
          have hts := hdoc.out.2
          have hst5 := hst4'.trans (Step.of hb5)
          have hw5 := hw4.bel hb5
          clear htr hst4' hb5 hst3
          go_wp2_with fail
          refine (hasByte_any t 39 w5 (by omega)).mono ?_
          rintro e w6 ⟨r, rfl, hr1, hb6⟩
          have hst6 := hst5.trans (Step.of hb6)
          cases r
          rotate_left
          · go_wp2_with fail
            go_ret
            exact hyes.out _ (step_below hbw (by omega) (by omega) (hS.trans hst6))
          have hw6 := hw5.bel hb6
          clear hr1 hst5 hb6 hw5
          go_wp2_with fail
          refine (hasByte_any t 92 w6 (by omega)).mono ?_
          rintro e w7 ⟨r, rfl, hr2, hb7⟩
          have hst7 := hst6.trans (Step.of hb7)
          cases r
          rotate_left
          · go_wp2_with fail
            go_ret
            exact hyes.out _ (step_below hbw (by omega) (by omega) (hS.trans hst7))
          have hw7 := hw6.bel hb7
          have hr2' := Lib.hid (hr2 rfl)
          clear hr2 hst6 hb7 hw6
          go_wp2_with fail
          refine (hasByte_any t 127 w7 (by omega)).mono ?_
          rintro e w8 ⟨r, rfl, hr3, hb8⟩
          have hst8 := hst7.trans (Step.of hb8)
          cases r
          rotate_left
          · go_wp2_with fail
            go_ret
            exact hyes.out _ (step_below hbw (by omega) (by omega) (hS.trans hst8))
          have hw8 := (hw7.bel hb8).blk
          have hq80 := (hw7.bel hb8).pos
          have hfine : Fine (L b, L t) := ⟨fun z hz => by have := hpl.out z hz; exact ⟨this.1, this.2.2.1⟩, hdoc.out.1, fun b hb => ⟨by have := hr2'.out b hb; omega, by have := hr3 rfl b hb; omega⟩⟩
          have hfine' := Lib.hid hfine
          have hrow := Lib.hid (row_step hLS.out.row (by omega) hst8)
          clear hr3 hst7 hb8 hw7 hr2' hfine
          have hw8' := Lib.hid hw8
          have hst8' := Lib.hid hst8
          have hsz8 := hst8.size
          clear hw8 hst8
          go_wp2_with (at_builtin; refine wpList_append_own_at _ rfl _ _ 23 rfl (w1.heap.size + 1) 9 i0 (.string ⟨#[]⟩) 1 16 Try.underlying23 hi0 hz0 hz1 hz2 rfl (by decide) _ _ _ rfl (hrow.out.alloc _) ⟨w8.heap.size, 0, none⟩ 1 1 _ rfl (by rfl) (news_one (by simp)) one_cell (by unfold maxLen; omega) (by omega) (by simp only [alloc_size]; omega) ?_)
          intro v' w9 hown' hgr hne hat
          obtain ⟨gx, cx, hvx, -⟩ := hown'.form (by omega)
          subst hvx
          have hN := Lib.hid (hLS.out.next hgw hst8'.out hw8'.out hgr hown' (x' := (((x ++ b) ++ ⟨#[32]⟩) ++ t)) (by simp only [L_cat]; simp [L]) hfine'.out (by rw [cat_size, cat2, cat_size]; omega) (by omega) hq80)
          clear hown' hgr hne hat
          go_wp2_with fail
          go_roundw
          case rel => exact ⟨_, _, j + 1, _, q4, rfl, rfl, by go_num, by omega, hN⟩
          case measure => simp [intOf]; omega
      by_cases hk8 : y.kind = 8
      · have hkind : Hid (y.kind = 7 ∨ y.kind = 8) := Or.inr hk8
        have hkb : (y.kind != 7) = true := by rw [hk8]; rfl
        have hkc : (y.kind != 8) = false := by rw [hk8]; rfl
        clear hk7 hk8
        by_cases hjb : j < bs.length
        rotate_left
        · as_aux_lemma =>
          have hst3 : Step w1.heap.size wr wr := Step.refl _ _
          clear hB3 hB1 hB
          go_wp2_with fail
          refine (say_any y Ai Bi ci di wr w1.heap.size C n c q hbx hBx hAx (fun k hk => by have : k < w.heap.size := hk; omega) hw3 (by omega) (by omega) (hgood2.out y hym)).mono ?_
          rintro e w4 ⟨v, q4, rfl, ⟨t0, rfl, ht0⟩, hq4, hq5, hw4, hst4⟩
          have ht0s := spoken_size ht0
          have ht0' := Lib.hid ht0
          have hst4' := hst3.trans hst4
          clear ht0 hst4 e0 e1 e2 e3 e4 e5
          go_wp2_with fail
          refine (trimmed_any t0 w4 (by omega)).mono ?_
          rintro e w5 ⟨t, rfl, htr, hb5⟩
          have hdoc : Hid (Doc (L t) ∧ t.size ≤ t0.size) := by
            obtain ⟨a, v, b, e1, ha, hv, hb', hd, _⟩ := ht0'.out
            have hdv := val_doc hv (hd hkind.out)
            have e2 := trimmed_doc htr e1 ha hb' hdv
            refine ⟨by rw [e2]; exact hdv, ?_⟩
            rw [← L_len, ← L_len, e2, e1]; simp; omega
          have hts := hdoc.out.2
          have hst5 := hst4'.trans (Step.of hb5)
          have hw5 := hw4.bel hb5
          clear htr hst4' hb5 hst3
          go_wp2_with fail
          refine (hasByte_any t 39 w5 (by omega)).mono ?_
          rintro e w6 ⟨r, rfl, hr1, hb6⟩
          have hst6 := hst5.trans (Step.of hb6)
          cases r
          rotate_left
          · go_wp2_with fail
            go_ret
            exact hyes.out _ (step_below hbw (by omega) (by omega) (hS.trans hst6))
          have hw6 := hw5.bel hb6
          clear hr1 hst5 hb6 hw5
          go_wp2_with fail
          refine (hasByte_any t 92 w6 (by omega)).mono ?_
          rintro e w7 ⟨r, rfl, hr2, hb7⟩
          have hst7 := hst6.trans (Step.of hb7)
          cases r
          rotate_left
          · go_wp2_with fail
            go_ret
            exact hyes.out _ (step_below hbw (by omega) (by omega) (hS.trans hst7))
          have hw7 := hw6.bel hb7
          have hr2' := Lib.hid (hr2 rfl)
          clear hr2 hst6 hb7 hw6
          go_wp2_with fail
          refine (hasByte_any t 127 w7 (by omega)).mono ?_
          rintro e w8 ⟨r, rfl, hr3, hb8⟩
          have hst8 := hst7.trans (Step.of hb8)
          cases r
          rotate_left
          · go_wp2_with fail
            go_ret
            exact hyes.out _ (step_below hbw (by omega) (by omega) (hS.trans hst8))
          have hw8 := (hw7.bel hb8).blk
          have hq80 := (hw7.bel hb8).pos
          have hfine : Fine ([], L t) := ⟨fun b hb => by simp at hb, hdoc.out.1, fun b hb => ⟨by have := hr2'.out b hb; omega, by have := hr3 rfl b hb; omega⟩⟩
          have hfine' := Lib.hid hfine
          have hrow := Lib.hid (row_step hLS.out.row (by omega) hst8)
          clear hr3 hst7 hb8 hw7 hr2' hfine
          have hw8' := Lib.hid hw8
          have hst8' := Lib.hid hst8
          have hsz8 := hst8.size
          clear hw8 hst8
          go_wp2_with (at_builtin; refine wpList_append_own_at _ rfl _ _ 23 rfl (w1.heap.size + 1) 9 i0 (.string ⟨#[]⟩) 1 16 Try.underlying23 hi0 hz0 hz1 hz2 rfl (by decide) _ _ _ rfl (hrow.out.alloc _) ⟨w8.heap.size, 0, none⟩ 1 1 _ rfl (by rfl) (news_one (by simp)) one_cell (by unfold maxLen; omega) (by omega) (by simp only [alloc_size]; omega) ?_)
          intro v' w9 hown' hgr hne hat
          obtain ⟨gx, cx, hvx, -⟩ := hown'.form (by omega)
          subst hvx
          have hN := Lib.hid (hLS.out.next hgw hst8'.out hw8'.out hgr hown' (x' := ((x ++ ⟨#[32]⟩) ++ t)) (by simp only [L_cat]; simp [L]) hfine'.out (by rw [cat_size, cat2]; omega) (by omega) hq80)
          clear hown' hgr hne hat
          go_wp2_with fail
          go_roundw
          case rel => exact ⟨_, _, j + 1, _, q4, rfl, rfl, by go_num, by omega, hN⟩
          case measure => simp [intOf]; omega
        obtain ⟨b, hbj⟩ := get_lt hjb
        obtain ⟨bd, hBe, hbd, f0, hbs⟩ := hB3.at_ hbj
        subst hBe
        clear hbj
        by_cases h100 : 100 < b.size
        · go_wp2_with fail
          go_ret
          exact hyes.out _ hbw2
        go_wp2_with fail
        refine (noneIn_any b wr (by omega)).mono ?_
        rintro e w2 ⟨r, rfl, hr, hb2⟩
        have hst3 := Step.of (g := w1.heap.size) hb2
        cases r
        · go_wp2_with fail
          go_ret
          exact hyes.out _ (step_below hbw (by omega) (by omega) (hS.trans hst3))
        have hpl := Lib.hid (hr rfl)
        as_aux_lemma =>
          replace f0 := hst3.cell f0 (by rw [add_block]; have : bd.block < w.heap.size := hbd; omega)
          replace hw3 := hw3.bel hb2
          clear e0 e1 e2 e3 e4 e5 hbx hBx hAx hr hB3 hB1 hB
          obtain ⟨ad', Ai, ci, Bi, di, hAe, hadb, ⟨e0, e1, e2, e3, e4, e5⟩, hbx, hBx, hAx⟩ := (hA3.bel hb2).at_ hy'.out
          cases hAe
          clear hb2
          go_wp2_with fail
          refine (say_any y Ai Bi ci di w2 w1.heap.size C n c q hbx hBx hAx (fun k hk => by have : k < w.heap.size := hk; omega) hw3 (by omega) (by omega) (hgood2.out y hym)).mono ?_
          rintro e w4 ⟨v, q4, rfl, ⟨t0, rfl, ht0⟩, hq4, hq5, hw4, hst4⟩
          have ht0s := spoken_size ht0
          have ht0' := Lib.hid ht0
          have hst4' := hst3.trans hst4
          clear ht0 hst4 e0 e1 e2 e3 e4 e5
          go_wp2_with fail
          refine (trimmed_any t0 w4 (by omega)).mono ?_
          rintro e w5 ⟨t, rfl, htr, hb5⟩
          have hdoc : Hid (Doc (L t) ∧ t.size ≤ t0.size) := by
            obtain ⟨a, v, b, e1, ha, hv, hb', hd, _⟩ := ht0'.out
            have hdv := val_doc hv (hd hkind.out)
            have e2 := trimmed_doc htr e1 ha hb' hdv
            refine ⟨by rw [e2]; exact hdv, ?_⟩
            rw [← L_len, ← L_len, e2, e1]; simp; omega
          have hts := hdoc.out.2
          have hst5 := hst4'.trans (Step.of hb5)
          have hw5 := hw4.bel hb5
          clear htr hst4' hb5 hst3
          go_wp2_with fail
          refine (hasByte_any t 39 w5 (by omega)).mono ?_
          rintro e w6 ⟨r, rfl, hr1, hb6⟩
          have hst6 := hst5.trans (Step.of hb6)
          cases r
          rotate_left
          · go_wp2_with fail
            go_ret
            exact hyes.out _ (step_below hbw (by omega) (by omega) (hS.trans hst6))
          have hw6 := hw5.bel hb6
          clear hr1 hst5 hb6 hw5
          go_wp2_with fail
          refine (hasByte_any t 92 w6 (by omega)).mono ?_
          rintro e w7 ⟨r, rfl, hr2, hb7⟩
          have hst7 := hst6.trans (Step.of hb7)
          cases r
          rotate_left
          · go_wp2_with fail
            go_ret
            exact hyes.out _ (step_below hbw (by omega) (by omega) (hS.trans hst7))
          have hw7 := hw6.bel hb7
          have hr2' := Lib.hid (hr2 rfl)
          clear hr2 hst6 hb7 hw6
          go_wp2_with fail
          refine (hasByte_any t 127 w7 (by omega)).mono ?_
          rintro e w8 ⟨r, rfl, hr3, hb8⟩
          have hst8 := hst7.trans (Step.of hb8)
          cases r
          rotate_left
          · go_wp2_with fail
            go_ret
            exact hyes.out _ (step_below hbw (by omega) (by omega) (hS.trans hst8))
          have hw8 := (hw7.bel hb8).blk
          have hq80 := (hw7.bel hb8).pos
          have hfine : Fine (L b, L t) := ⟨fun z hz => by have := hpl.out z hz; exact ⟨this.1, this.2.2.1⟩, hdoc.out.1, fun b hb => ⟨by have := hr2'.out b hb; omega, by have := hr3 rfl b hb; omega⟩⟩
          have hfine' := Lib.hid hfine
          have hrow := Lib.hid (row_step hLS.out.row (by omega) hst8)
          clear hr3 hst7 hb8 hw7 hr2' hfine
          have hw8' := Lib.hid hw8
          have hst8' := Lib.hid hst8
          have hsz8 := hst8.size
          clear hw8 hst8
          go_wp2_with (at_builtin; refine wpList_append_own_at _ rfl _ _ 23 rfl (w1.heap.size + 1) 9 i0 (.string ⟨#[]⟩) 1 16 Try.underlying23 hi0 hz0 hz1 hz2 rfl (by decide) _ _ _ rfl (hrow.out.alloc _) ⟨w8.heap.size, 0, none⟩ 1 1 _ rfl (by rfl) (news_one (by simp)) one_cell (by unfold maxLen; omega) (by omega) (by simp only [alloc_size]; omega) ?_)
          intro v' w9 hown' hgr hne hat
          obtain ⟨gx, cx, hvx, -⟩ := hown'.form (by omega)
          subst hvx
          have hN := Lib.hid (hLS.out.next hgw hst8'.out hw8'.out hgr hown' (x' := (((x ++ b) ++ ⟨#[32]⟩) ++ t)) (by simp only [L_cat]; simp [L]) hfine'.out (by rw [cat_size, cat2, cat_size]; omega) (by omega) hq80)
          clear hown' hgr hne hat
          go_wp2_with fail
          go_roundw
          case rel => exact ⟨_, _, j + 1, _, q4, rfl, rfl, by go_num, by omega, hN⟩
          case measure => simp [intOf]; omega
      have hkb : (y.kind != 7) = true := bne_iff_ne.2 hk7
      have hkc : (y.kind != 8) = true := bne_iff_ne.2 hk8
      clear hk7 hk8
      go_wp2_with fail
      go_ret
      exact hyes.out _ hbw2
    · as_aux_lemma =>
      have hj2 : j = xs.length := by omega
      have hfine := Lib.hid hLS.out.fine
      have hlen := Lib.hid hLS.out.len
      have hj2' := Lib.hid hj2
      clear hj2
      have hrun : run 0 .scan [] [] (L (x ++ ⟨#[32]⟩)) = some (prs.map (·.2)) := by rw [L_cat, hLS.out.hx]; exact run_txt hfine.out 0
      have hrun' := Lib.hid hrun
      clear hrun
      obtain ⟨wA, wc, hwv⟩ : ∃ A c, wv = .slice A j c := own_slice hLS.out.row
      subst hwv
      subst hwv0
      have hx8 := hLS.out.size
      have hcapw := row_cap hLS.out.row
      have hbw : Below w.heap.size w (w1.alloc (.cells #[.slice C n c, .int .i64 0] 32)) := hb1.alloc (by omega) _
      have hS := hLS.out.step
      have hbw2 := step_below hbw (by omega) (g := w1.heap.size) (by omega) hS
      go_wp2_with fail
      have hr := hrun'.out
      have hd := discover_any (x ++ ⟨#[32]⟩) (prs.map (·.2)) wr (by rw [cat2]; omega) hr
      clear hr
      refine hd.mono ?_
      clear hd
      rintro e w2 ⟨ov, rfl, ho, hb2⟩
      obtain ⟨oA, oc, hov⟩ : ∃ A c, ov = .slice A (prs.map (·.2)).length c := own_slice ho
      subst hov
      have hrow : w2.ownsRow (w1.heap.size + 1) 9 1 (.slice wA j wc) j (strVals (prs.map fun p => ofL p.2)) := row_step hLS.out.row (by omega) (Step.of (g := w1.heap.size) hb2)
      have hcapo := row_cap ho
      have hol : (prs.map (·.2)).length = j := by rw [List.length_map]; exact hlen.out
      rw [hol] at hcapo ho
      rw [hol]
      have hcells : ∀ k, k < j → ∃ (ga gb : Nat) (s : ByteArray), wA = some ⟨ga, 0, none⟩ ∧ oA = some ⟨gb, 0, none⟩ ∧ w2.cell? ⟨ga, k, none⟩ = some (.string s) ∧ w2.cell? ⟨gb, k, none⟩ = some (.string s) := by
        intro k hk
        obtain ⟨ga, _, h1, -⟩ := hrow.form (by omega)
        obtain ⟨gb, _, h2, -⟩ := ho.form (by omega)
        cases h1
        cases h2
        have e1 := hrow.cellAt k (by omega)
        have e2 := ho.cellAt k (by omega)
        obtain ⟨p, hp⟩ := get_lt (show k < prs.length by have := hlen.out; omega)
        refine ⟨ga, gb, ofL p.2, rfl, rfl, ?_, ?_⟩
        · rw [e1]; simp [strVals, hp]
        · rw [e2]; simp [strVals, hp]
      have hcells' := Lib.hid hcells
      have hsw := hbw2.size
      have hB2s := below_call hbw2 (by omega) hb2
      have hsB := hB2s.size
      have hB2 : Hid (Below w.heap.size w w2) := hB2s
      clear hcells ho hrow hb2 hLS hB2s
      go_wp2_with fail
      go_loopw [13] (fun i wr' => ∃ k : Nat, k ≤ j ∧ i = .int .i64 k ∧ Below w2.heap.size w2 wr') (fun i _ => j - (intOf i).toNat)
      case atStart => exact ⟨0, by omega, rfl, Below.refl _ _⟩
      case round =>
        obtain ⟨k, hk, rfl, hbr⟩ := hrel
        by_cases hlt : k < j
        · obtain ⟨ga, gb, s, rfl, rfl, c1, c2⟩ := hcells'.out k hlt
          have hI0 : (0 : Int) ≤ (k : Int) := by omega
          have hI1 : (k : Int) < (j : Int) := by omega
          replace c1 := below_cell hbr c1
          replace c2 := below_cell hbr c2
          go_wp2_with fail
          go_quiet (fail)
          go_wp2_with fail
          go_roundw
          case rel => exact ⟨k + 1, by omega, by go_num, below_drewN hbr _⟩
          case measure => simp [intOf]; omega
        · have hsr := hbr.size
          go_wp2_with fail
          refine (finds_any _).mono ?_
          rintro e w3 ⟨r, rfl, rfl, hb3⟩
          go_wp2_with fail
          go_ret
          exact hyes.out _ (below_call (below_call hB2.out (by omega) hbr) (by omega) hb3)
end Go.Proofs.Ytlebdceidmkddaa
