/-
  alt.Alter, whole. Conditions: none.
-/
import Derived.Test.YtpdcoipfpffhnaaGreatAlt3
namespace Go.Proofs.YtpdcoipfpffhnaaGreat
open Go.ChangeShapes Go.WideShapes Go.ChangeAt Go.RowKit
set_option linter.unusedVariables false
set_option linter.unusedSimpArgs false

theorem Touch.opts {w w1 : World} {lo hi op : Nat} {on oe : Bool} (h : Touch w w1 lo hi) (ho : Opts w op on oe) (hl : op < lo) : Opts w1 op on oe :=
  ⟨(World.cell?_of_block (a := ⟨op, 3, none⟩) (h.block op ho.2.2 (Or.inl hl))).trans ho.1, (World.cell?_of_block (a := ⟨op, 4, none⟩) (h.block op ho.2.2 (Or.inl hl))).trans ho.2.1, Nat.lt_of_lt_of_le ho.2.2 h.size⟩

def AltAt (on oe : Bool) (v : V) : Prop := ∀ (x : Value) (w : World) (lo hi op : Nat), PT w lo hi v x → hi ≤ w.heap.size → Opts w op on oe → op < lo → Calls Tryz.prog 43 #[x, .pointer (some ⟨op, 0, none⟩)] w (AltPost on oe v x lo hi w)

theorem alter_any (on oe : Bool) (v : V) : v.Ok → v.wt ≤ 1000000 → AltAt on oe v := by
  induction v using V.ind with
  | h v ih =>
  intro hok hwt x w lo hi op hx hhi hop hopl
  have ih' : ∀ x ∈ v.l, AltAt on oe x := fun x hx => ih x hx (hok.kids x hx) (by have := wt_kid hx; omega)
  have hlm : v.l.length ≤ 1000000 := by have := wt_len v; omega
  clear ih
  by_cases h7 : v.kind = 7
  · have hll : (v.tidy on oe).l = V.tidyA on oe v.l := by rw [tidy_eq]; show (if v.kind = 8 then _ else _) = _; rw [if_neg (by omega)]
    have hlen : (v.tidy on oe).l.length = v.l.length := by rw [hll, tidyA_len]
    cases hx with
    | arr _ _ _ h g cap cur xs cut hlo hg hhi2 hb hn hc1 hc2 hs ht hm hk =>
      have hcm := cut_mono hm
      refine (alter_arr on oe v.l g cap op lo hi cur xs cut w hb ht hn hlm hlo hg hhi2 hhi hm (fun i x y hx hy => by rw [if_neg (by omega)]; exact hk i x y hx hy) (fun i x y hx hy wr hto hp => ?_)).mono ?_
      · have hi1 := (List.getElem?_eq_some_iff.1 hx).1
        have e0 : cut 0 ≤ cut i := hcm 0 i (by omega) (by omega)
        have e1 : cut (i + 1) ≤ w.heap.size := by have := hcm (i + 1) v.l.length (by omega) (by omega); omega
        exact ih' x (get_mem hx) y wr _ _ op hp (Nat.le_trans e1 hto.size) (hto.opts hop hopl) (by omega)
      · rintro e w' ⟨rfl, ⟨hb1, hst⟩, hto⟩
        refine ⟨rfl, ?_, hto⟩
        rw [← hlen]
        refine .arr _ _ _ (by rw [V.tidy_kind]; exact h7) g cap cur xs cut hlo hg (by rw [hlen]; exact hhi2) hb1 (by rw [hlen]; exact hn) (by rw [hlen]; exact hc1) hc2 hs (by rw [hlen]; exact ht) (fun i hi => hm i (by rw [hlen] at hi; exact hi)) (fun i x y hx hy => ?_)
        have hi1 : i < v.l.length := by rw [← hlen]; exact (List.getElem?_eq_some_iff.1 hx).1
        obtain ⟨z, hz⟩ : ∃ z, v.l[i]? = some z := get_lt hi1
        rw [hll, tidyA_get hz] at hx
        obtain rfl := Option.some.inj hx
        have h2 := hst i z y hz hy
        rwa [if_pos hi1] at h2
    | _ => omega
  by_cases h8 : v.kind = 8
  · have hnd : v.keys.Nodup := by cases hok <;> first | omega | assumption
    have hln : v.keys.length = v.l.length := by cases hok <;> first | omega | assumption
    have hll : (v.tidy on oe).l = V.tidyL on oe v.keys v.l := by rw [tidy_eq]; show (if v.kind = 8 then _ else _) = _; rw [if_pos h8]
    have hlk : (v.tidy on oe).keys = V.tidyK on oe v.keys v.l := by rw [tidy_eq]; show (if v.kind = 8 then _ else _) = _; rw [if_pos h8]
    cases hx with
    | obj _ _ _ h b ps cut hlo hg hhi2 hmm hkeys hn hm hk =>
      have hcm := cut_mono hm
      have hmm0 := hmm
      obtain ⟨es, clock, hb, hst, he⟩ := hmm0
      refine (alter_obj on oe v.l b op lo hi es clock ps cut w hb hst he hn hok.kids hlo hg hhi2 hhi hm hop hopl hk (fun i x p hx hp wr hto hpt => ?_)).mono ?_
      · have hi1 := (List.getElem?_eq_some_iff.1 hx).1
        have e0 : cut 0 ≤ cut i := hcm 0 i (by omega) (by omega)
        have e1 : cut (i + 1) ≤ w.heap.size := by have := hcm (i + 1) v.l.length (by omega) (by omega); omega
        exact ih' x (get_mem hx) p.2 wr _ _ op hpt (Nat.le_trans e1 hto.size) (hto.opts hop hopl) (by omega)
      · rintro e w' ⟨rfl, ⟨seen, esr, hobj, hall⟩, hto⟩
        refine ⟨rfl, ?_, hto⟩
        have hesl : es.toList.length = v.l.length := by rw [← hn, ← he.size]; simp
        have hents := hobj.ents he
        rw [keepP_all on oe seen es.toList v.l ps hesl hall] at hents
        have hmap : HasMap w' b (keepQ on oe v.l ps) := ⟨esr, clock, hobj.hb, hobj.stamped hst, hents⟩
        have hkids := kids_keep (on := on) (oe := oe) (w := w') (lo := b + 1) (keys := v.keys) (l := v.l) (ps := ps) (cut := cut) hln hn hg hm (fun i x p hx hp => by
          obtain ⟨e, he2⟩ : ∃ e, es.toList[i]? = some e := get_lt (by rw [hesl]; exact (List.getElem?_eq_some_iff.1 hx).1)
          have h2 := hobj.kids i x p e hx hp he2
          rwa [if_pos (hall e (List.mem_of_getElem? he2))] at h2) v.l.length (Nat.le_refl _)
        rw [List.take_of_length_le (Nat.le_of_eq hln), List.take_length, List.take_of_length_le (Nat.le_of_eq hn)] at hkids
        refine PT.of_map (by rw [V.tidy_kind]; exact h8) hlo (by rw [hll]; exact hkids.mono (Nat.le_refl _) hhi2) hmap ?_
        rw [keepQ_keys, hkeys, hlk]
    | _ => omega
  · exact alter_leaf on oe v x op lo hi w hx hok h7 h8

theorem Alter_any (on oe : Bool) (v : V) (hok : v.Ok) (hwt : v.wt ≤ 1000000) (x : Value) (w : World) (lo hi op : Nat) (hx : PT w lo hi v x) (hhi : hi ≤ w.heap.size) (hop : Opts w op on oe) (hopl : op < lo) :
    Calls Tryz.prog 20 #[x, .pointer (some ⟨op, 0, none⟩)] w (AltPost on oe v x lo hi w) := by
  have hD := Lib.hid (alter_any on oe v hok hwt x w lo hi op hx hhi hop hopl)
  clear hx hop
  go_enter Tryz.func20, Tryz.ntmps20
  go_wp2_with fail
  refine hD.out.mono ?_
  rintro e w2 ⟨rfl, hp, ht⟩
  have hpost : Hid (AltPost on oe v x lo hi w (.returned x) w2) := ⟨rfl, hp, ht⟩
  clear hp ht
  go_wp2_with fail
  go_ret
  exact hpost.out
end Go.Proofs.YtpdcoipfpffhnaaGreat
