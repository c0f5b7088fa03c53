/-
  alt.alter at objects: the walk. Conditions: none.
-/
import Derived.Test.YtpdcoipfpffhnaaGreatAlt2
namespace Go.Proofs.YtpdcoipfpffhnaaGreat
open Go.ChangeShapes Go.WideShapes Go.ChangeAt Go.RowKit
open Go.ChangeMaps (setBlock heap_setBlock_same heap_setBlock_other)
set_option linter.unusedVariables false
set_option linter.unusedSimpArgs false
attribute [local go_sem] tay_bool tam_bool tan_bool tay_int tam_int tan_int tay_int8 tam_int8 tan_int8 tay_int16 tam_int16 tan_int16 tay_int32 tam_int32 tan_int32 tay_int64 tam_int64 tan_int64 tay_uint tam_uint tan_uint tay_uint8 tam_uint8 tan_uint8 tay_uint16 tam_uint16 tan_uint16 tay_uint32 tam_uint32 tan_uint32 tay_uint64 tam_uint64 tan_uint64 tay_float32 tam_float32 tan_float32 tay_float64 tam_float64 tan_float64 tay_string tam_string tan_string tay_sl tam_sl tan_sl tay_mp tam_mp tan_mp tay_gbool tam_gbool tan_gbool tay_gint tam_gint tan_gint tay_gfl tam_gfl tan_gfl tay_gstr tam_gstr tan_gstr tay_jnum tam_jnum tan_jnum tay_gbig tam_gbig tan_gbig tay_garr tam_garr tan_garr tay_lst tam_lst tan_lst tay_gobj tam_gobj tan_gobj tay_dct tam_dct tan_dct
set_option maxRecDepth 100000 in
set_option maxHeartbeats 8000000 in
theorem alter_obj (on oe : Bool) (l : List V) (b op lo hi : Nat) (es : Array MapEntry) (clock : Nat) (ps : List (ByteArray × Value)) (cut : Nat → Nat) (w : World) (hb : w.heap[b]? = some (.map es clock)) (hst : MapKept.Stamped es clock) (he : Ents ps es) (hpl : ps.length = l.length) (hlk : ∀ x ∈ l, x.Ok)
    (hlo : lo ≤ b) (hg : b < cut 0) (hhi : cut l.length ≤ hi) (hs : hi ≤ w.heap.size) (hm : ∀ i, i < l.length → cut i ≤ cut (i + 1)) (hop : Opts w op on oe) (hopl : op < lo)
    (hk0 : ∀ (i : Nat) x p, l[i]? = some x → ps[i]? = some p → PT w (cut i) (cut (i + 1)) x p.2)
    (hcall : ∀ (i : Nat) x p, l[i]? = some x → ps[i]? = some p → ∀ wr, Touch w wr lo hi → PT wr (cut i) (cut (i + 1)) x p.2 → Calls Tryz.prog 43 #[p.2, .pointer (some ⟨op, 0, none⟩)] wr (AltPost on oe x p.2 (cut i) (cut (i + 1)) wr)) :
    Calls Tryz.prog 43 #[.iface 67 (.map (some b)), .pointer (some ⟨op, 0, none⟩)] w (fun e w' => e = .returned (.iface 67 (.map (some b))) ∧ (∃ seen esr, ObjAt on oe l ps es clock cut b w' seen esr ∧ ∀ e ∈ es.toList, seen.contains e.born = true) ∧ Touch w w' lo hi) := by
  have hcm := Lib.hid (cut_mono hm)
  have hc0n : cut 0 ≤ cut l.length := hcm.out 0 l.length (by omega) (by omega)
  have hesl : Hid (es.toList.length = l.length) := by
    show _ = _
    rw [← hpl, ← he.size]; simp
  have hb1 := Lib.hid hb
  have hst1 := Lib.hid hst
  have he1 := Lib.hid he
  have hpl1 := Lib.hid hpl
  have hlk1 := Lib.hid hlk
  have hm1 := Lib.hid hm
  have hop1 := Lib.hid hop
  have hk1 := Lib.hid hk0
  have H := Lib.hid hcall
  have hstart : Hid (ObjAt on oe l ps es clock cut b w #[] es) := ⟨hb, (keepE_none on oe es.toList l hesl.out).symm, fun i x p e hx hp he => by
    rw [if_neg (by simp)]
    exact hk0 i x p hx hp⟩
  clear hb hst he hpl hlk hm hop hk0 hcall
  go_enter Tryz.func43, Tryz.ntmps43
  go_wp2_with (at_range; refine wpList_range_str _ rfl _ 67 rfl _ _ Tryz.underlying67 b es clock rfl hb1.out ?_)
  go_frame
  go_loopw [] (fun wr => ∃ (seen : Array Nat) (c0 : Nat) (esr : Array MapEntry), Hid (wr.heap[w.heap.size]? = some (.mapIter (some b) clock seen c0)) ∧ clock ≤ c0 ∧ Hid (ObjAt on oe l ps es clock cut b wr seen esr) ∧ Hid (Touch w wr lo hi)) (fun wr => (leftOf es (wr.iterSeen w.heap.size)).size)
  case atStart =>
    refine ⟨#[], clock, es, heap_alloc_new _ _, Nat.le_refl _, hstart.out.move hpl1.out hm1.out (Below.heap_alloc _ _ _ (by omega)) (fun k k1 k2 => Below.heap_alloc _ _ _ (by omega)), (Touch.refl _ _ _).alloc _⟩
  case round =>
    clear hstart
    obtain ⟨seen, c0, esr, hr, hc0, hinv, hto⟩ := hrel
    have hbr : Hid (wr.heap[b]? = some (.map esr clock)) := hinv.out.hb
    have hold : Hid (∀ x ∈ esr.toList, x.born < clock) := (hinv.out.stamped hst1.out).1
    have her : Hid (Ents (keepP on oe seen es.toList l ps) esr) := hinv.out.ents he1.out
    go_wp2_with (at_next; refine wpList_next_str _ rfl _ rfl w.heap.size b clock c0 seen esr clock (keepP on oe seen es.toList l ps) rfl hr.out hbr.out hold.out hc0 her.out ?_ ?_)
    · intro h0
      have hall : Hid (∀ e ∈ es.toList, seen.contains e.born = true) := fun e he => by
        cases hc : seen.contains e.born with
        | true => rfl
        | false =>
          obtain ⟨i, hi⟩ := List.getElem?_of_mem he
          obtain ⟨x, hx⟩ : ∃ x, l[i]? = some x := get_lt (by rw [← hesl.out]; exact (List.getElem?_eq_some_iff.1 hi).1)
          have h1 := keep_unseen on oe seen es.toList l i e x hi hx hc
          rw [← hinv.out.keep] at h1
          rw [all_seen esr seen (by simpa using h0) e h1] at hc
          cases hc
      clear h0 hbr hold her
      go_wp2_with fail
      go_ret
      exact ⟨rfl, ⟨seen, esr, hinv.out, hall.out⟩, hto.out⟩
    · intro x s y w1 hx0 hsv hxk hxv hw1
      have hx : x ∈ (leftOf esr seen).toList := by simpa using hx0
      clear hx0
      have hwr : w.heap.size < wr.heap.size := (Array.getElem?_eq_some_iff.1 hr.out).1
      have hfar : ∀ k, k ≠ w.heap.size → (setBlock w1 w.heap.size (.mapIter (some b) clock (seen.push x.born) clock)).heap[k]? = wr.heap[k]? := fun k hk => (setBlock_far _ _ _ hk).trans (by rcases hw1 with rfl | rfl <;> rfl)
      have hsz : (setBlock w1 w.heap.size (.mapIter (some b) clock (seen.push x.born) clock)).heap.size = wr.heap.size := by rw [setBlock_size]; rcases hw1 with rfl | rfl <;> rfl
      have htW : Touch w (setBlock w1 w.heap.size (.mapIter (some b) clock (seen.push x.born) clock)) lo hi := by
        rcases hw1 with rfl | rfl
        · exact hto.out.setB (Or.inr (Nat.le_refl _)) _
        · exact hto.out.drew.setB (Or.inr (Nat.le_refl _)) _
      have hr1 : (setBlock w1 w.heap.size (.mapIter (some b) clock (seen.push x.born) clock)).heap[w.heap.size]? = some (.mapIter (some b) clock (seen.push x.born) clock) := by
        have h1 : w1.heap[w.heap.size]? = some (.mapIter (some b) clock seen c0) := by rcases hw1 with rfl | rfl <;> exact hr.out
        simp [setBlock, (Array.getElem?_eq_some_iff.1 h1).1]
      have hxu := Lib.hid (mem_left hx)
      have hxe : Hid (x ∈ es.toList) := by
        have h1 := hxu.out.1
        rw [hinv.out.keep] at h1
        exact (keepE_sub on oe seen _ _).subset h1
      have hsh : Hid ((leftOf es (seen.push x.born)).size < (leftOf es seen).size) := left_shrinks es seen x (by
        have h1 := hxu.out.2
        have h2 := hxe.out
        unfold leftOf
        rw [Array.mem_toList_iff, Array.mem_filter]
        exact ⟨by simpa using h2, by rw [h1]; rfl⟩)
      have hsn := Lib.hid (iterSeen_of hr.out)
      clear hr hbr hold her
      generalize setBlock w1 w.heap.size (.mapIter (some b) clock (seen.push x.born) clock) = W1 at hfar hsz htW hr1 ⊢
      have hinvW : Hid (ObjAt on oe l ps es clock cut b W1 seen esr) := hinv.out.move hpl1.out hm1.out (hfar _ (by omega)) (fun k k1 k2 => hfar k (by omega))
      have hen : (Instr.entry (.pointer (some ⟨w.heap.size, 0, none⟩))).run Tryz.prog W1 = .ok (.tuple #[.string s, y]) W1 := by
        rw [← hxk, ← hxv]
        exact run_entry_at W1 w.heap.size b clock seen esr clock x hr1 hinvW.out.hb hxu.out.1 (hinvW.out.stamped hst1.out).2.1
      have hr1' := Lib.hid hr1
      obtain ⟨i, hi⟩ := List.getElem?_of_mem hxe.out
      have hpi : Hid (ps[i]? = some (s, y)) := by
        have h1 := congrArg (fun l => l[i]?) he1.out
        simp only [List.getElem?_map, hi] at h1
        cases hp : ps[i]? with
        | none => rw [hp] at h1; simp at h1
        | some p =>
          rw [hp] at h1
          simp [hxk, hxv] at h1
          show some p = _
          rw [h1.1, h1.2]
      obtain ⟨xv, hxi⟩ : ∃ xv, l[i]? = some xv := get_lt (by rw [← hpl1.out]; exact (List.getElem?_eq_some_iff.1 hpi.out).1)
      have hxi' := Lib.hid hxi
      have hi' := Lib.hid hi
      have hpt0 : PT W1 (cut i) (cut (i + 1)) xv y := by
        have h1 := hinvW.out.kids i xv (s, y) x hxi hpi.out hi
        rwa [if_neg (by rw [hxu.out.2]; decide)] at h1
      have hca := Lib.hid (H.out i xv (s, y) hxi hpi.out W1 htW hpt0)
      have hxk' := Lib.hid hxk
      have hxv' := Lib.hid hxv
      have htW' := Lib.hid htW
      have hsW := Lib.hid hsz
      clear hr1 hi hx hsv hxk hxv hw1 hinv hto hxi hfar hpt0 htW hsz
      go_wp2_with fail
      refine hca.out.mono ?_
      rintro e w2 ⟨rfl, hpt, ht2⟩
      have hcil : i < l.length := (List.getElem?_eq_some_iff.1 hxi'.out).1
      have hcut : cut 0 ≤ cut i ∧ cut (i + 1) ≤ cut l.length := ⟨hcm.out 0 i (by omega) (by omega), hcm.out (i + 1) l.length (by omega) (by omega)⟩
      have hsW2 : w.heap.size < W1.heap.size := by rw [hsW.out]; exact hwr
      have hstep := hinvW.out.step hst1.out he1.out hpl1.out hm1.out hg (by omega) hi'.out hxi'.out hpi.out hxu.out.1 hxu.out.2 hxk'.out hxv'.out hpt ht2
      have htw2 : Touch w w2 lo hi := htW'.out.trans ht2 (by omega) (by omega)
      have hv1 : (xv.tidy on oe).kind = 2 → (xv.tidy on oe).n = 0 ∨ (xv.tidy on oe).n = 1 := fun h2 => by
        have hxo : (xv.tidy on oe).Ok := V.Ok.tidy xv (hlk1.out xv (get_mem hxi'.out))
        cases hxo <;> first | omega | assumption
      obtain ⟨wk, wd⟩ := ways_of (on := on) (oe := oe) hpt hv1
      have h3 : w2.cell? ⟨op, 3, none⟩ = some (.bool on) := (World.cell?_of_block (a := ⟨op, 3, none⟩) (htw2.block op hop1.out.2.2 (Or.inl hopl))).trans hop1.out.1
      have h4 : w2.cell? ⟨op, 4, none⟩ = some (.bool oe) := (World.cell?_of_block (a := ⟨op, 4, none⟩) (htw2.block op hop1.out.2.2 (Or.inl hopl))).trans hop1.out.2.1
      have hr2 : w2.heap[w.heap.size]? = some (.mapIter (some b) clock (seen.push x.born) clock) := (ht2.block _ hsW2 (Or.inr (by omega))).trans hr1'.out
      have hend : ∀ o, Hid ((setBlock w2 b o).heap[w.heap.size]? = some (.mapIter (some b) clock (seen.push x.born) clock)) ∧ Hid (Touch w (setBlock w2 b o) lo hi) := fun o => ⟨(setBlock_far _ _ _ (by omega)).trans hr2, htw2.setB (Or.inl ⟨hlo, by omega⟩) o⟩
      clear hpt ht2 hv1 hca hen hinvW hr2 htw2
      cases hdr : (xv.tidy on oe).drop on oe with
      | false =>
        obtain ⟨hrun, hnew⟩ := hstep.1 hdr
        have hnew' := Lib.hid hnew
        obtain ⟨e1, e2⟩ := hend (.map esr clock)
        have hway := Lib.hid (wk hdr)
        clear hstep wk wd hdr hnew hend
        have hw2 := hway.out
        clear hway
        rcases hw2 with ⟨rfl, rfl, rfl⟩ | ⟨t, rfl⟩ | ⟨t, rfl, rfl | rfl⟩ | ⟨n, rfl, rfl | hz⟩ | ⟨n, rfl, rfl | hz⟩ | ⟨A2, n, c2, rfl, rfl | hz⟩ | ⟨g2, es2, c2, rfl, hbg, rfl | hz⟩
        all_goals as_aux_lemma =>
          try have hlen := run_len_map (P := Tryz.prog) Tryz.underlying67 3 hbg
          go_wp2_with fail
          all_goals first
            | exact ⟨⟨_, clock, _, e1, Nat.le_refl _, hnew', e2⟩, by rw [iterSeen_of e1.out, hsn.out]; exact hsh.out⟩
            | (go_roundw
               case rel => exact ⟨_, clock, _, e1, Nat.le_refl _, hnew', e2⟩
               case measure => rw [iterSeen_of e1.out, hsn.out]; exact hsh.out)
      | true =>
        obtain ⟨es2, hrun, hnew⟩ := hstep.2 hdr
        have hnew' := Lib.hid hnew
        obtain ⟨e1, e2⟩ := hend (.map es2 clock)
        have hway := Lib.hid (wd hdr)
        clear hstep wk wd hdr hnew hend
        have hw2 := hway.out
        clear hway
        rcases hw2 with ⟨rfl, rfl | ⟨rfl, rfl⟩⟩ | ⟨rfl, rfl⟩ | ⟨n, rfl, rfl, hz⟩ | ⟨n, rfl, rfl, hz⟩ | ⟨A2, n, c2, rfl, rfl, hz⟩ | ⟨g2, es3, c2, rfl, hbg, rfl, hz⟩
        all_goals as_aux_lemma =>
          try have hlen := run_len_map (P := Tryz.prog) Tryz.underlying67 3 hbg
          go_wp2_with fail
          all_goals first
            | exact ⟨⟨_, clock, _, e1, Nat.le_refl _, hnew', e2⟩, by rw [iterSeen_of e1.out, hsn.out]; exact hsh.out⟩
            | (go_roundw
               case rel => exact ⟨_, clock, _, e1, Nat.le_refl _, hnew', e2⟩
               case measure => rw [iterSeen_of e1.out, hsn.out]; exact hsh.out)
end Go.Proofs.YtpdcoipfpffhnaaGreat
