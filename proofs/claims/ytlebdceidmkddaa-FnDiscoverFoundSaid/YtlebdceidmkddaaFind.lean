/-
  find: what the automaton finds, the callback is handed. Conditions: none.
-/
import Derived.Test.YtlebdceidmkddaaFindS
namespace Go.Proofs.Ytlebdceidmkddaa
open Go.ChangeShapes Go.WideShapes Go.ChangeAt Go.RowKit
set_option linter.unusedVariables false
set_option linter.unusedSimpArgs false

set_option maxRecDepth 100000 in
set_option maxHeartbeats 40000000 in
theorem find_any (w : World) (A : Option Addr) (c gl gb : Nat) (bs : List UInt8) (segs : List (List UInt8)) (hbuf : bs ≠ [] → ∃ ad, A = some ad ∧ ad.block ≠ gl ∧ ∀ i b, bs[i]? = some b → w.cell? (ad.add i) = some (.int .u8 b.toNat))
    (hl : w.heap[gl]? = some (.cells #[.slice none 0 0] 23 (0, 0))) (hb : w.heap[gb]? = some (.cells #[.bool false] 4 (0, 0))) (hgb : gl ≠ gb) (hc : bs.length ≤ c) (hc' : c ≤ 9223372036854775807) (hn : bs.length ≤ 1000000)
    (hrun : run 0 .scan [] [] bs = some segs) :
    Calls Try.prog 26 #[.slice A bs.length c, .func (.func 20) #[] #[.pointer (some ⟨gl, 0, none⟩), .pointer (some ⟨gb, 0, none⟩)], .nilFunc] w (Found gl segs w) := by
  have hlt := blk_lt hl
  have hltb := blk_lt hb
  go_enter Try.func26, Try.ntmps26
  go_step3
  go_wp2_with fail
  refine wp_label ?_
  go_wp2_with fail
  go_loopw [] (fun wr => ∃ i : Nat, i ≤ bs.length ∧ Hid (At1 w gl bs segs i wr)) (fun wr => bs.length - (iOf w.heap.size wr))
  case atStart =>
    refine ⟨0, by omega, 0, .slice none 0 0, .slice none 0 0, .scan, [], [], [], segs, ?_, hrun, by simp [strVals], fun h => absurd rfl h, by simp, by simp⟩
    exact FS.first hl (by kernel_rfl)
  case round =>
    obtain ⟨i, hi, start, mv, lv, md, st, cur, got, rest, hfs, hr, hseg, hcur, hgl, hsl⟩ := hrel
    have cs := blk_cell hfs.s 0
    have cm := blk_cell hfs.m 0
    have ci := blk_cell hfs.i 0
    have cd := blk_cell hfs.d 0
    have fs := blk_frozen hfs.s 0
    have fm := blk_frozen hfs.m 0
    have fi := blk_frozen hfs.i 0
    have fd := blk_frozen hfs.d 0
    simp only [List.getElem?_toArray, List.getElem?_cons_zero] at cs cm ci cd
    obtain ⟨i0, hi0, hz0, hz1, hz2⟩ := info_parts info_str
    by_cases hlt2 : i < bs.length
    · obtain ⟨b, hb2⟩ := get_lt hlt2
      rw [drop_cons hb2] at hr
      obtain ⟨ad, hA, hadl, hbc⟩ := hbuf (by rintro rfl; simp at hlt2)
      subst hA
      have hbw := hfs.old.cell (hbc i b hb2) (by rw [add_block]; exact hadl)
      have hb256 := b.toNat_lt
      have hbs : b.toNat < (tabOf md).size := by rw [tab_size]; omega
      obtain ⟨md', st', hstep, hnx0⟩ := run_cons hr
      have hnx : Nx b md' st st' cur (bs.drop (i + 1)) rest := hnx0
      clear hnx0
      have hA0 : (0 : Int) ≤ (i : Int) := by omega
      have hA1 : (i : Int) < (bs.length : Int) := by omega
      rcases step_inv hstep with ⟨hcd, rfl, rfl⟩ | ⟨hcd, rfl, rfl⟩ | ⟨hcd, rfl, rfl⟩ | ⟨hcd, rfl⟩ | ⟨hcd, rfl, rfl⟩ | ⟨hcd, hb34, ⟨hok, hstne⟩, rfl, rfl⟩ | ⟨hcd, p, q, r, rfl, rfl, rfl⟩ | ⟨hcd, rfl, rfl⟩ | ⟨hcd, rfl, rfl⟩
      · as_aux_lemma =>
        have hcode := code_tab hcd hb256 hbs
        have HF := Lib.hid hfs
        have HN := Lib.hid hnx
        have HS := Lib.hid hseg
        have HC := Lib.hid hcur
        have HB := Lib.hid hb2
        clear hfs hnx hseg hcur hr hstep hcd hbc hb2
        go_wp2_with fail
        go_roundw
        case rel => exact ⟨i + 1, by omega, at1_next (HF.out.setI _) HB.out HN.out HS.out HC.out (fun h => h) (fun h1 h2 => absurd h1 h2) (fun _ => rfl) hgl hsl (by omega)⟩
        case measure => rw [iOf_eq (HF.out.setI _), iOf_eq HF.out]; omega
      · as_aux_lemma =>
        have hcode := code_tab hcd hb256 hbs
        have hval : md ≠ .val := by rintro rfl; exact absurd hcd (code_val _ (by decide) (by decide))
        obtain ⟨mA, mc, hmv⟩ : ∃ A c, mv = .slice A st.length c := own_slice hfs.om
        subst hmv
        have HF := Lib.hid hfs
        have HN := Lib.hid hnx
        have HS := Lib.hid hseg
        have HC := Lib.hid hcur
        have HB := Lib.hid hb2
        clear hnx hseg hcur hr hstep hcd hbc hb2
        clear hfs
        by_cases hst0 : st = []
        · subst hst0
          have HF1 := HF.out.setS (i : Int)
          have hown1 := HF1.om
          by_cases hpre : md = .pre
          · subst hpre
            go_wp2_with (first | (refine wpList_eq_str (o := ⟨some 39, _, _, _, _, _⟩) (by rfl) _ _ _ _ rfl (tabOf .pre) (tabOf .pre) rfl (by kernel_rfl) true (by rw [tabL_pre]; rfl) ?_) | (at_builtin; refine wpList_append_own_at _ rfl _ _ 23 rfl (w.heap.size + 4) 9 i0 (.string ⟨#[]⟩) 1 16 Try.underlying23 hi0 hz0 hz1 hz2 rfl (by decide) _ _ _ rfl (hown1.alloc _) ⟨wr.heap.size, 0, none⟩ 1 1 _ rfl (by rfl) (news_one (by simp [World.setCell])) one_cell (by unfold maxLen; first | (simp; done) | (simp; omega) | omega) (by first | (simp; done) | (simp; omega) | omega) (by simp [World.setCell]; have := HF.out.size; omega) ?_))
            intro v' w1 hown' hgr hne hat
            obtain ⟨gx, cx, hvx, -⟩ := hown'.form (by omega)
            subst hvx
            have HF2 := Lib.hid (FS.push HF1 .obj (by kernel_rfl) hown' hgr (by simpa [World.setCell] using hat) ⟨gx, rfl⟩)
            obtain ⟨⟨cs1, cm1, ci1, cd1⟩, fs1, fm1, fi1, fd1⟩ := HF1.vars hgr
            clear hown' hgr hne hat cs cm ci cd fs fm fi fd
            go_wp2_with fail
            go_roundw
            case rel => exact ⟨i + 1, by omega, at1_next ((HF2.out.setD .arr (by kernel_rfl)).setI _) HB.out HN.out HS.out HC.out (fun h => by cases h) (fun _ _ => rfl) (fun h => absurd rfl h) hgl hsl (by simp)⟩
            case measure => rw [iOf_eq ((HF2.out.setD .arr (by kernel_rfl)).setI _), iOf_eq HF.out]; omega
          · have hpu : pushed md = md := by simp [pushed, hpre, hval]
            have hpu' := Lib.hid hpu
            clear hpu
            go_wp2_with (first | (refine wpList_eq_str (o := ⟨some 39, _, _, _, _, _⟩) (by rfl) _ _ _ _ rfl (tabOf md) (tabOf .pre) rfl (by kernel_rfl) false (by rw [tabL_pre, decide_eq_false hpre]) ?_) | (refine wpList_eq_str (o := ⟨some 42, _, _, _, _, _⟩) (by rfl) _ _ _ _ rfl (tabOf md) (tabOf .val) rfl (by kernel_rfl) false (by rw [tabL_val, decide_eq_false hval]) ?_) | (at_builtin; refine wpList_append_own_at _ rfl _ _ 23 rfl (w.heap.size + 4) 9 i0 (.string ⟨#[]⟩) 1 16 Try.underlying23 hi0 hz0 hz1 hz2 rfl (by decide) _ _ _ rfl (hown1.alloc _) ⟨wr.heap.size, 0, none⟩ 1 1 _ rfl (by rfl) (news_one (by simp [World.setCell])) one_cell (by unfold maxLen; first | (simp; done) | (simp; omega) | omega) (by first | (simp; done) | (simp; omega) | omega) (by simp [World.setCell]; have := HF.out.size; omega) ?_))
            intro v' w1 hown' hgr hne hat
            obtain ⟨gx, cx, hvx, -⟩ := hown'.form (by omega)
            subst hvx
            have HF2 := Lib.hid (FS.push HF1 md rfl hown' hgr (by simpa [World.setCell] using hat) ⟨gx, rfl⟩)
            obtain ⟨⟨cs1, cm1, ci1, cd1⟩, fs1, fm1, fi1, fd1⟩ := HF1.vars hgr
            clear hown' hgr hne hat cs cm ci cd fs fm fi fd
            go_wp2_with fail
            go_roundw
            case rel => exact ⟨i + 1, by omega, at1_next ((HF2.out.setD .arr (by kernel_rfl)).setI _) HB.out (by rw [← hpu'.out]; exact HN.out) HS.out HC.out (fun h => by cases h) (fun _ _ => rfl) (fun h => absurd rfl h) hgl hsl (by simp)⟩
            case measure => rw [iOf_eq ((HF2.out.setD .arr (by kernel_rfl)).setI _), iOf_eq HF.out]; omega
        · have hst1 : 0 < st.length := by cases st with | nil => exact absurd rfl hst0 | cons x r => simp
          have hst2 : ((st.length : Int) == 0) = false := by rw [beq_eq_false_iff_ne]; omega
          have hown1 := HF.out.om
          by_cases hpre : md = .pre
          · subst hpre
            go_wp2_with (first | (refine wpList_eq_str (o := ⟨some 39, _, _, _, _, _⟩) (by rfl) _ _ _ _ rfl (tabOf .pre) (tabOf .pre) rfl (by kernel_rfl) true (by rw [tabL_pre]; rfl) ?_) | (at_builtin; refine wpList_append_own_at _ rfl _ _ 23 rfl (w.heap.size + 4) 9 i0 (.string ⟨#[]⟩) 1 16 Try.underlying23 hi0 hz0 hz1 hz2 rfl (by decide) _ _ _ rfl (hown1.alloc _) ⟨wr.heap.size, 0, none⟩ 1 1 _ rfl (by rfl) (news_one (by simp [World.setCell])) one_cell (by unfold maxLen; first | (simp; done) | (simp; omega) | omega) (by first | (simp; done) | (simp; omega) | omega) (by simp [World.setCell]; have := HF.out.size; omega) ?_))
            intro v' w1 hown' hgr hne hat
            obtain ⟨gx, cx, hvx, -⟩ := hown'.form (by omega)
            subst hvx
            have HF2 := Lib.hid (FS.push HF.out .obj (by kernel_rfl) hown' hgr (by simpa [World.setCell] using hat) ⟨gx, rfl⟩)
            obtain ⟨⟨cs1, cm1, ci1, cd1⟩, fs1, fm1, fi1, fd1⟩ := HF.out.vars hgr
            clear hown' hgr hne hat cs cm ci cd fs fm fi fd
            go_wp2_with fail
            go_roundw
            case rel => exact ⟨i + 1, by omega, at1_next ((HF2.out.setD .arr (by kernel_rfl)).setI _) HB.out HN.out HS.out HC.out (fun h => by cases h) (fun h => absurd h hst0) (fun _ => rfl) hgl hsl (by simp)⟩
            case measure => rw [iOf_eq ((HF2.out.setD .arr (by kernel_rfl)).setI _), iOf_eq HF.out]; omega
          · have hpu : pushed md = md := by simp [pushed, hpre, hval]
            have hpu' := Lib.hid hpu
            clear hpu
            go_wp2_with (first | (refine wpList_eq_str (o := ⟨some 39, _, _, _, _, _⟩) (by rfl) _ _ _ _ rfl (tabOf md) (tabOf .pre) rfl (by kernel_rfl) false (by rw [tabL_pre, decide_eq_false hpre]) ?_) | (refine wpList_eq_str (o := ⟨some 42, _, _, _, _, _⟩) (by rfl) _ _ _ _ rfl (tabOf md) (tabOf .val) rfl (by kernel_rfl) false (by rw [tabL_val, decide_eq_false hval]) ?_) | (at_builtin; refine wpList_append_own_at _ rfl _ _ 23 rfl (w.heap.size + 4) 9 i0 (.string ⟨#[]⟩) 1 16 Try.underlying23 hi0 hz0 hz1 hz2 rfl (by decide) _ _ _ rfl (hown1.alloc _) ⟨wr.heap.size, 0, none⟩ 1 1 _ rfl (by rfl) (news_one (by simp [World.setCell])) one_cell (by unfold maxLen; first | (simp; done) | (simp; omega) | omega) (by first | (simp; done) | (simp; omega) | omega) (by simp [World.setCell]; have := HF.out.size; omega) ?_))
            intro v' w1 hown' hgr hne hat
            obtain ⟨gx, cx, hvx, -⟩ := hown'.form (by omega)
            subst hvx
            have HF2 := Lib.hid (FS.push HF.out md rfl hown' hgr (by simpa [World.setCell] using hat) ⟨gx, rfl⟩)
            obtain ⟨⟨cs1, cm1, ci1, cd1⟩, fs1, fm1, fi1, fd1⟩ := HF.out.vars hgr
            clear hown' hgr hne hat cs cm ci cd fs fm fi fd
            go_wp2_with fail
            go_roundw
            case rel => exact ⟨i + 1, by omega, at1_next ((HF2.out.setD .arr (by kernel_rfl)).setI _) HB.out (by rw [← hpu'.out]; exact HN.out) HS.out HC.out (fun h => by cases h) (fun h => absurd h hst0) (fun _ => rfl) hgl hsl (by simp)⟩
            case measure => rw [iOf_eq ((HF2.out.setD .arr (by kernel_rfl)).setI _), iOf_eq HF.out]; omega
      · as_aux_lemma =>
        have hcode := code_tab hcd hb256 hbs
        have hval : md ≠ .val := by rintro rfl; exact absurd hcd (code_val _ (by decide) (by decide))
        obtain ⟨mA, mc, hmv⟩ : ∃ A c, mv = .slice A st.length c := own_slice hfs.om
        subst hmv
        have HF := Lib.hid hfs
        have HN := Lib.hid hnx
        have HS := Lib.hid hseg
        have HC := Lib.hid hcur
        have HB := Lib.hid hb2
        clear hnx hseg hcur hr hstep hcd hbc hb2
        clear hfs
        by_cases hst0 : st = []
        · subst hst0
          have HF1 := HF.out.setS (i : Int)
          have hown1 := HF1.om
          by_cases hpre : md = .pre
          · subst hpre
            go_wp2_with (first | (refine wpList_eq_str (o := ⟨some 58, _, _, _, _, _⟩) (by rfl) _ _ _ _ rfl (tabOf .pre) (tabOf .pre) rfl (by kernel_rfl) true (by rw [tabL_pre]; rfl) ?_) | (at_builtin; refine wpList_append_own_at _ rfl _ _ 23 rfl (w.heap.size + 4) 9 i0 (.string ⟨#[]⟩) 1 16 Try.underlying23 hi0 hz0 hz1 hz2 rfl (by decide) _ _ _ rfl (hown1.alloc _) ⟨wr.heap.size, 0, none⟩ 1 1 _ rfl (by rfl) (news_one (by simp [World.setCell])) one_cell (by unfold maxLen; first | (simp; done) | (simp; omega) | omega) (by first | (simp; done) | (simp; omega) | omega) (by simp [World.setCell]; have := HF.out.size; omega) ?_))
            intro v' w1 hown' hgr hne hat
            obtain ⟨gx, cx, hvx, -⟩ := hown'.form (by omega)
            subst hvx
            have HF2 := Lib.hid (FS.push HF1 .obj (by kernel_rfl) hown' hgr (by simpa [World.setCell] using hat) ⟨gx, rfl⟩)
            obtain ⟨⟨cs1, cm1, ci1, cd1⟩, fs1, fm1, fi1, fd1⟩ := HF1.vars hgr
            clear hown' hgr hne hat cs cm ci cd fs fm fi fd
            go_wp2_with fail
            go_roundw
            case rel => exact ⟨i + 1, by omega, at1_next ((HF2.out.setD .obj (by kernel_rfl)).setI _) HB.out HN.out HS.out HC.out (fun h => by cases h) (fun _ _ => rfl) (fun h => absurd rfl h) hgl hsl (by simp)⟩
            case measure => rw [iOf_eq ((HF2.out.setD .obj (by kernel_rfl)).setI _), iOf_eq HF.out]; omega
          · have hpu : pushed md = md := by simp [pushed, hpre, hval]
            have hpu' := Lib.hid hpu
            clear hpu
            go_wp2_with (first | (refine wpList_eq_str (o := ⟨some 58, _, _, _, _, _⟩) (by rfl) _ _ _ _ rfl (tabOf md) (tabOf .pre) rfl (by kernel_rfl) false (by rw [tabL_pre, decide_eq_false hpre]) ?_) | (refine wpList_eq_str (o := ⟨some 61, _, _, _, _, _⟩) (by rfl) _ _ _ _ rfl (tabOf md) (tabOf .val) rfl (by kernel_rfl) false (by rw [tabL_val, decide_eq_false hval]) ?_) | (at_builtin; refine wpList_append_own_at _ rfl _ _ 23 rfl (w.heap.size + 4) 9 i0 (.string ⟨#[]⟩) 1 16 Try.underlying23 hi0 hz0 hz1 hz2 rfl (by decide) _ _ _ rfl (hown1.alloc _) ⟨wr.heap.size, 0, none⟩ 1 1 _ rfl (by rfl) (news_one (by simp [World.setCell])) one_cell (by unfold maxLen; first | (simp; done) | (simp; omega) | omega) (by first | (simp; done) | (simp; omega) | omega) (by simp [World.setCell]; have := HF.out.size; omega) ?_))
            intro v' w1 hown' hgr hne hat
            obtain ⟨gx, cx, hvx, -⟩ := hown'.form (by omega)
            subst hvx
            have HF2 := Lib.hid (FS.push HF1 md rfl hown' hgr (by simpa [World.setCell] using hat) ⟨gx, rfl⟩)
            obtain ⟨⟨cs1, cm1, ci1, cd1⟩, fs1, fm1, fi1, fd1⟩ := HF1.vars hgr
            clear hown' hgr hne hat cs cm ci cd fs fm fi fd
            go_wp2_with fail
            go_roundw
            case rel => exact ⟨i + 1, by omega, at1_next ((HF2.out.setD .obj (by kernel_rfl)).setI _) HB.out (by rw [← hpu'.out]; exact HN.out) HS.out HC.out (fun h => by cases h) (fun _ _ => rfl) (fun h => absurd rfl h) hgl hsl (by simp)⟩
            case measure => rw [iOf_eq ((HF2.out.setD .obj (by kernel_rfl)).setI _), iOf_eq HF.out]; omega
        · have hst1 : 0 < st.length := by cases st with | nil => exact absurd rfl hst0 | cons x r => simp
          have hst2 : ((st.length : Int) == 0) = false := by rw [beq_eq_false_iff_ne]; omega
          have hown1 := HF.out.om
          by_cases hpre : md = .pre
          · subst hpre
            go_wp2_with (first | (refine wpList_eq_str (o := ⟨some 58, _, _, _, _, _⟩) (by rfl) _ _ _ _ rfl (tabOf .pre) (tabOf .pre) rfl (by kernel_rfl) true (by rw [tabL_pre]; rfl) ?_) | (at_builtin; refine wpList_append_own_at _ rfl _ _ 23 rfl (w.heap.size + 4) 9 i0 (.string ⟨#[]⟩) 1 16 Try.underlying23 hi0 hz0 hz1 hz2 rfl (by decide) _ _ _ rfl (hown1.alloc _) ⟨wr.heap.size, 0, none⟩ 1 1 _ rfl (by rfl) (news_one (by simp [World.setCell])) one_cell (by unfold maxLen; first | (simp; done) | (simp; omega) | omega) (by first | (simp; done) | (simp; omega) | omega) (by simp [World.setCell]; have := HF.out.size; omega) ?_))
            intro v' w1 hown' hgr hne hat
            obtain ⟨gx, cx, hvx, -⟩ := hown'.form (by omega)
            subst hvx
            have HF2 := Lib.hid (FS.push HF.out .obj (by kernel_rfl) hown' hgr (by simpa [World.setCell] using hat) ⟨gx, rfl⟩)
            obtain ⟨⟨cs1, cm1, ci1, cd1⟩, fs1, fm1, fi1, fd1⟩ := HF.out.vars hgr
            clear hown' hgr hne hat cs cm ci cd fs fm fi fd
            go_wp2_with fail
            go_roundw
            case rel => exact ⟨i + 1, by omega, at1_next ((HF2.out.setD .obj (by kernel_rfl)).setI _) HB.out HN.out HS.out HC.out (fun h => by cases h) (fun h => absurd h hst0) (fun _ => rfl) hgl hsl (by simp)⟩
            case measure => rw [iOf_eq ((HF2.out.setD .obj (by kernel_rfl)).setI _), iOf_eq HF.out]; omega
          · have hpu : pushed md = md := by simp [pushed, hpre, hval]
            have hpu' := Lib.hid hpu
            clear hpu
            go_wp2_with (first | (refine wpList_eq_str (o := ⟨some 58, _, _, _, _, _⟩) (by rfl) _ _ _ _ rfl (tabOf md) (tabOf .pre) rfl (by kernel_rfl) false (by rw [tabL_pre, decide_eq_false hpre]) ?_) | (refine wpList_eq_str (o := ⟨some 61, _, _, _, _, _⟩) (by rfl) _ _ _ _ rfl (tabOf md) (tabOf .val) rfl (by kernel_rfl) false (by rw [tabL_val, decide_eq_false hval]) ?_) | (at_builtin; refine wpList_append_own_at _ rfl _ _ 23 rfl (w.heap.size + 4) 9 i0 (.string ⟨#[]⟩) 1 16 Try.underlying23 hi0 hz0 hz1 hz2 rfl (by decide) _ _ _ rfl (hown1.alloc _) ⟨wr.heap.size, 0, none⟩ 1 1 _ rfl (by rfl) (news_one (by simp [World.setCell])) one_cell (by unfold maxLen; first | (simp; done) | (simp; omega) | omega) (by first | (simp; done) | (simp; omega) | omega) (by simp [World.setCell]; have := HF.out.size; omega) ?_))
            intro v' w1 hown' hgr hne hat
            obtain ⟨gx, cx, hvx, -⟩ := hown'.form (by omega)
            subst hvx
            have HF2 := Lib.hid (FS.push HF.out md rfl hown' hgr (by simpa [World.setCell] using hat) ⟨gx, rfl⟩)
            obtain ⟨⟨cs1, cm1, ci1, cd1⟩, fs1, fm1, fi1, fd1⟩ := HF.out.vars hgr
            clear hown' hgr hne hat cs cm ci cd fs fm fi fd
            go_wp2_with fail
            go_roundw
            case rel => exact ⟨i + 1, by omega, at1_next ((HF2.out.setD .obj (by kernel_rfl)).setI _) HB.out (by rw [← hpu'.out]; exact HN.out) HS.out HC.out (fun h => by cases h) (fun h => absurd h hst0) (fun _ => rfl) hgl hsl (by simp)⟩
            case measure => rw [iOf_eq ((HF2.out.setD .obj (by kernel_rfl)).setI _), iOf_eq HF.out]; omega
      · as_aux_lemma =>
        have hcode : (((tabOf md)[b.toNat]'hbs).toNat : Int) = 93 ∨ (((tabOf md)[b.toNat]'hbs).toNat : Int) = 125 := by
          rcases hcd with h | h
          · exact Or.inl (code_tab h hb256 hbs)
          · exact Or.inr (code_tab h hb256 hbs)
        obtain ⟨g, mc, hmv, hg1, hg2⟩ := hfs.om.form (by simp)
        subst hmv
        have hn1 : (md' :: st').length = st'.length + 1 := by simp
        rw [hn1] at cm
        have htop : wr.cell? ⟨g, st'.length, none⟩ = some (.string (tabOf md')) := by
          rw [hfs.om.cellAt st'.length (by simp)]
          simp [stackVals, strVals]
        have htop2 : wr.cell? ((⟨g, 0, none⟩ : Addr).add st'.length) = some (.string (tabOf md')) := by rw [show ((⟨g, 0, none⟩ : Addr).add st'.length) = ⟨g, st'.length, none⟩ from by unfold Addr.add; split <;> simp_all]; exact htop
        have hcap : st'.length + 1 ≤ mc := row_cap hfs.om
        have hsl9 : st'.length + 1 ≤ i := by simpa using hsl
        obtain ⟨hst0, hst1, hcur0⟩ := hcur (by simp)
        obtain ⟨k, rfl⟩ := Int.eq_ofNat_of_zero_le hst0
        have hkc : ¬ c = k := by omega
        have hbytes : ∀ W, Step gl w W → (convert 24 9 (.slice (some (ad.add k)) (i + 1 - k) (c - k))).run Try.prog W = .ok (.string (ofL (cur ++ [b]))) W := fun W hW => conv_at (by rw [hcur0, Int.toNat_natCast, cur_snoc hb2 (by omega)]; simp; omega) (fun j x hj => by
          rw [hcur0, Int.toNat_natCast, cur_snoc hb2 (by omega), List.getElem?_take] at hj
          split at hj
          · rw [List.getElem?_drop] at hj
            rw [add_add']
            exact hW.cell (hbc _ x hj) (by rw [add_block]; exact hadl)
          · simp at hj)
        have hbytes' := Lib.hid hbytes
        have hbb := Lib.hid hb
        have hsep := Lib.hid hfs.lvlt
        clear hbytes hcur0 hn1
        have HF := Lib.hid hfs
        have HN := Lib.hid hnx
        have HS := Lib.hid hseg
        have HC := Lib.hid hcur
        have HB := Lib.hid hb2
        clear hfs hnx hseg hcur hr hstep hcd hbc hb2
        have hFD := Lib.hid (HF.out.setD md' rfl)
        have hFP := Lib.hid (hFD.out.pop)
        by_cases hs0 : st' = []
        · subst hs0
          replace cm : wr.cell? ⟨w.heap.size + 1, 0, none⟩ = some (.slice (some ⟨g, 0, none⟩) 1 mc) := cm
          replace htop : wr.cell? ⟨g, 0, none⟩ = some (.string (tabOf md')) := htop
          clear htop2
          have hFQ := Lib.hid (nx_found HN.out)
          rcases hcode with hcode | hcode
          all_goals
            go_wp2_with fail
            refine (cb_any _ (some (ad.add k)) _ _ gl gb (w.heap.size + 4) lv got (ofL (cur ++ [b])) (hbytes'.out _ hFP.out.old) hFP.out.l ((hFP.out.old.block gb hltb (Ne.symm hgb)).trans hbb.out) hFP.out.ol (fun e => by have := (hFP.out.lvlt gl e.symm).1; omega) (fun e => by have := (hFP.out.lvlt gb e.symm).1; omega) hgb (by omega) hFP.out.size).mono ?_
            rintro e w2 ⟨v, rfl, h1, h2, h3, h4a, h4b, h4c, h4d, h5⟩
            have hF3 := Lib.hid (hFP.out.call h1 h2 h3 ⟨h4a, h4b, h4c, h4d⟩ h5)
            clear h1 h2 h3 h4a h4b h4c h4d h5 cs cm ci cd fs fm fi fd
            have ci := blk_cell hF3.out.i 0
            have cs := blk_cell hF3.out.s 0
            have fi := blk_frozen hF3.out.i 0
            simp only [List.getElem?_toArray, List.getElem?_cons_zero] at ci cs
            go_wp2_with fail
            go_roundw
            case rel => exact ⟨i + 1, by omega, at1_found (hF3.out.setI _) HB.out hFQ.out HS.out rfl hgl⟩
            case measure => rw [iOf_eq (hF3.out.setI _), iOf_eq HF.out]; omega
        · have hsl1 : 0 < st'.length := by cases st' with | nil => exact absurd rfl hs0 | cons x r => simp
          have hsl2 : ((st'.length : Int) == 0) = false := by rw [beq_eq_false_iff_ne]; omega
          rcases hcode with hcode | hcode
          all_goals
            go_wp2_with fail
            go_roundw
            case rel => exact ⟨i + 1, by omega, at1_next (hFP.out.setI _) HB.out HN.out HS.out HC.out (fun h => absurd h hs0) (fun h1 h2 => by cases h1) (fun _ => rfl) hgl hsl (by simp; omega)⟩
            case measure => rw [iOf_eq (hFP.out.setI _), iOf_eq HF.out]; omega
      · as_aux_lemma =>
        have hcode := code_tab hcd hb256 hbs
        have HF := Lib.hid hfs
        have HN := Lib.hid hnx
        have HS := Lib.hid hseg
        have HC := Lib.hid hcur
        have HB := Lib.hid hb2
        clear hfs hnx hseg hcur hr hstep hcd hbc hb2
        go_wp2_with fail
        go_roundw
        case rel => exact ⟨i + 1, by omega, at1_next ((HF.out.setD .pre (by kernel_rfl)).setI _) HB.out HN.out HS.out HC.out (fun h => h) (fun h1 h2 => absurd h1 h2) (fun _ => rfl) hgl hsl (by omega)⟩
        case measure => rw [iOf_eq ((HF.out.setD .pre (by kernel_rfl)).setI _), iOf_eq HF.out]; omega
      · as_aux_lemma =>
        have hcode := code_tab hcd hb256 hbs
        obtain ⟨mA, mc, hmv⟩ : ∃ A c, mv = .slice A st.length c := own_slice hfs.om
        subst hmv
        have hi1 : 1 ≤ i := by
          rcases Nat.eq_zero_or_pos i with h | h
          · subst h
            rw [show ((0 : UInt8) :: bs)[0]?.getD 0 = 0 from rfl] at hok
            exact absurd hok (by decide)
          · exact h
        obtain ⟨pb, hpb⟩ := get_lt (show i - 1 < bs.length by omega)
        have hpv : ((0 : UInt8) :: bs)[i]?.getD 0 = pb := by
          rw [show i = (i - 1) + 1 by omega]; simp [hpb]
        rw [hpv] at hok
        have hpw := hfs.old.cell (hbc (i - 1) pb hpb) (by rw [add_block]; exact hadl)
        have hq256 : pb.toNat < quoteOk.size := by rw [quoteOk_size]; exact pb.toNat_lt
        have hqv := Lib.hid (ok_tab hok pb.toNat_lt hq256)
        have hb34' : Hid ((b.toNat : Int) = 34) := by show _ = _; omega
        have hA2 : (i : Int) - 1 < (bs.length : Int) := by omega
        have hA3 : (0 : Int) ≤ (i : Int) - 1 := by omega
        have hA4 : (1 : Int) ≤ (i : Int) := by omega
        clear hok hb34 hpv hpb
        have HF := Lib.hid hfs
        have HN := Lib.hid hnx
        have HS := Lib.hid hseg
        have HC := Lib.hid hcur
        have HB := Lib.hid hb2
        clear hfs hnx hseg hcur hr hstep hcd hbc hb2
        have hown1 := HF.out.om
        go_wp2_with (first | (refine wpList_index_str (o := ⟨some 116, _, _, _, _, _⟩) (by rfl) _ _ _ rfl Try.underlying9 quoteOk .u8 pb.toNat (by kernel_rfl) rfl hq256 111 hqv.out ?_) | (at_builtin; refine wpList_append_own_at _ rfl _ _ 23 rfl (w.heap.size + 4) 9 i0 (.string ⟨#[]⟩) 1 16 Try.underlying23 hi0 hz0 hz1 hz2 rfl (by decide) _ _ _ rfl (hown1.alloc _) ⟨wr.heap.size, 0, none⟩ 1 1 _ rfl (by rfl) (news_one (by simp [World.setCell])) one_cell (by unfold maxLen; first | (simp; done) | (simp; omega) | omega) (by first | (simp; done) | (simp; omega) | omega) (by simp [World.setCell]; have := HF.out.size; omega) ?_))
        intro v' w1 hown' hgr hne hat
        obtain ⟨gx, cx, hvx, -⟩ := hown'.form (by omega)
        subst hvx
        have HF2 := Lib.hid (FS.push HF.out md rfl hown' hgr (by simpa [World.setCell] using hat) ⟨gx, rfl⟩)
        obtain ⟨⟨cs1, cm1, ci1, cd1⟩, fs1, fm1, fi1, fd1⟩ := HF.out.vars hgr
        have hb35 := hb34'.out
        clear hcode hown' hgr hne hat cs cm ci cd fs fm fi fd
        go_wp2_with fail
        go_roundw
        case rel => exact ⟨i + 1, by omega, at1_next ((HF2.out.setD .q2 (by kernel_rfl)).setI _) HB.out HN.out HS.out HC.out (fun h => by cases h) (fun h => absurd h hstne) (fun _ => rfl) hgl hsl (by simp)⟩
        case measure => rw [iOf_eq ((HF2.out.setD .q2 (by kernel_rfl)).setI _), iOf_eq HF.out]; omega
      · as_aux_lemma =>
        have hcode := code_tab hcd hb256 hbs
        obtain ⟨g, mc, hmv, hg1, hg2⟩ := hfs.om.form (by simp)
        subst hmv
        have hn1 : (p :: q :: r).length = r.length + 1 + 1 := by simp
        rw [hn1] at cm
        have htop : wr.cell? ⟨g, r.length + 1, none⟩ = some (.string (tabOf p)) := by
          rw [hfs.om.cellAt (r.length + 1) (by simp)]
          simp [stackVals, strVals]
        have htop2 : wr.cell? ((⟨g, 0, none⟩ : Addr).add (r.length + 1)) = some (.string (tabOf p)) := by rw [show ((⟨g, 0, none⟩ : Addr).add (r.length + 1)) = ⟨g, r.length + 1, none⟩ from by unfold Addr.add; split <;> simp_all]; exact htop
        have hcap : r.length + 1 + 1 ≤ mc := row_cap hfs.om
        have hsl9 : r.length + 1 + 1 ≤ i := by simpa using hsl
        clear hn1
        have HF := Lib.hid hfs
        have HN := Lib.hid hnx
        have HS := Lib.hid hseg
        have HC := Lib.hid hcur
        have HB := Lib.hid hb2
        clear hfs hnx hseg hcur hr hstep hcd hbc hb2
        have hFD := Lib.hid (HF.out.setD p rfl)
        have hFP := Lib.hid (hFD.out.pop)
        have hq1 : ((q :: r) : List M).length = r.length + 1 := rfl
        have hFP' : Hid (FS w gl ((wr.setCell ⟨w.heap.size + 1 + 1 + 1, 0, none⟩ (.string (tabOf p))).setCell ⟨w.heap.size + 1, 0, none⟩ (.slice (some ⟨g, 0, none⟩) (r.length + 1) mc)) start i (.slice (some ⟨g, 0, none⟩) (r.length + 1) mc) p (q :: r) lv got) := hFP.out
        clear hFP hFD hq1
        by_cases hpo : p = .obj
        · subst hpo
          go_wp2_with (first | (refine wpList_eq_str (o := ⟨some 141, _, _, _, _, _⟩) (by rfl) _ _ _ _ rfl (tabOf .obj) (tabOf .obj) rfl (by kernel_rfl) true (by rw [tabL_obj]; rfl) ?_))
          go_roundw
          case rel => exact ⟨i + 1, by omega, at1_next ((hFP'.out.setD .colon (by kernel_rfl)).setI _) HB.out HN.out HS.out HC.out (fun h => by cases h) (fun h => by cases h) (fun _ => rfl) hgl hsl (by simp)⟩
          case measure => rw [iOf_eq ((hFP'.out.setD .colon (by kernel_rfl)).setI _), iOf_eq HF.out]; omega
        by_cases hpp : p = .pre
        · subst hpp
          go_wp2_with (first | (refine wpList_eq_str (o := ⟨some 141, _, _, _, _, _⟩) (by rfl) _ _ _ _ rfl (tabOf .pre) (tabOf .obj) rfl (by kernel_rfl) false (by rw [tabL_obj]; rfl) ?_) | (refine wpList_eq_str (o := ⟨some 143, _, _, _, _, _⟩) (by rfl) _ _ _ _ rfl (tabOf .pre) (tabOf .pre) rfl (by kernel_rfl) true (by rw [tabL_pre]; rfl) ?_))
          go_roundw
          case rel => exact ⟨i + 1, by omega, at1_next ((hFP'.out.setD .obj (by kernel_rfl)).setI _) HB.out HN.out HS.out HC.out (fun h => by cases h) (fun h => by cases h) (fun _ => rfl) hgl hsl (by simp)⟩
          case measure => rw [iOf_eq ((hFP'.out.setD .obj (by kernel_rfl)).setI _), iOf_eq HF.out]; omega
        have hcl : closed p = p := by simp [closed, hpo, hpp]
        have hN2 : Hid (Nx b p (p :: q :: r) (q :: r) cur (bs.drop (i + 1)) rest) := by have := HN.out; rw [hcl] at this; exact this
        clear hcl
        go_wp2_with (first | (refine wpList_eq_str (o := ⟨some 141, _, _, _, _, _⟩) (by rfl) _ _ _ _ rfl (tabOf p) (tabOf .obj) rfl (by kernel_rfl) false (by rw [tabL_obj, decide_eq_false hpo]) ?_) | (refine wpList_eq_str (o := ⟨some 143, _, _, _, _, _⟩) (by rfl) _ _ _ _ rfl (tabOf p) (tabOf .pre) rfl (by kernel_rfl) false (by rw [tabL_pre, decide_eq_false hpp]) ?_))
        go_roundw
        case rel => exact ⟨i + 1, by omega, at1_next (hFP'.out.setI _) HB.out hN2.out HS.out HC.out (fun h => by cases h) (fun h => by cases h) (fun _ => rfl) hgl hsl (by simp)⟩
        case measure => rw [iOf_eq (hFP'.out.setI _), iOf_eq HF.out]; omega
      · as_aux_lemma =>
        have hcode := code_tab hcd hb256 hbs
        have HF := Lib.hid hfs
        have HN := Lib.hid hnx
        have HS := Lib.hid hseg
        have HC := Lib.hid hcur
        have HB := Lib.hid hb2
        clear hfs hnx hseg hcur hr hstep hcd hbc hb2
        go_wp2_with fail
        go_roundw
        case rel => exact ⟨i + 1, by omega, at1_next ((HF.out.setD .val (by kernel_rfl)).setI _) HB.out HN.out HS.out HC.out (fun h => h) (fun h1 h2 => absurd h1 h2) (fun _ => rfl) hgl hsl (by omega)⟩
        case measure => rw [iOf_eq ((HF.out.setD .val (by kernel_rfl)).setI _), iOf_eq HF.out]; omega
      · as_aux_lemma =>
        have hcode := code_tab hcd hb256 hbs
        have HF := Lib.hid hfs
        have HN := Lib.hid hnx
        have HS := Lib.hid hseg
        have HC := Lib.hid hcur
        have HB := Lib.hid hb2
        clear hfs hnx hseg hcur hr hstep hcd hbc hb2
        go_wp2_with fail
        go_roundw
        case rel => exact ⟨i + 1, by omega, at1_next ((HF.out.setD .obj (by kernel_rfl)).setI _) HB.out HN.out HS.out HC.out (fun h => h) (fun h1 h2 => absurd h1 h2) (fun _ => rfl) hgl hsl (by omega)⟩
        case measure => rw [iOf_eq ((HF.out.setD .obj (by kernel_rfl)).setI _), iOf_eq HF.out]; omega
    · as_aux_lemma =>
      obtain rfl : i = bs.length := by omega
      rw [List.drop_length] at hr
      have hst : st = [] := by
        unfold run at hr
        split at hr
        · assumption
        · cases hr
      subst hst
      have hrest : rest = [] := by
        unfold run at hr
        simpa using hr.symm
      subst hrest
      obtain ⟨mA, mc, hmv⟩ : ∃ A c, mv = .slice A ([] : List M).length c := own_slice hfs.om
      subst hmv
      replace cm : wr.cell? ⟨w.heap.size + 1, 0, none⟩ = some (.slice mA 0 mc) := cm
      have HF := Lib.hid hfs
      have hseg2 : strVals (segs.map ofL) = strVals got := by simpa [strVals] using hseg
      have hlen : segs.length = got.length := by have := congrArg List.length hseg2; simpa [strVals] using this
      have hseg' := Lib.hid hseg2
      have hlen' := Lib.hid hlen
      clear hseg hseg2 hlen hr hcur hfs
      have hnf : ∀ w : World, (binOp .neq 54 .nilFunc .nilFunc).run Try.prog w = .ok (.bool false) w := fun _ => by kernel_rfl
      go_wp2_with fail
      rw [Exit.noGoto_normal]
      go_end0
      exact ⟨lv, rfl, HF.out.l, by rw [hseg'.out, hlen'.out]; exact row_mono HF.out.ol (by omega), HF.out.old⟩
end Go.Proofs.Ytlebdceidmkddaa
