/-
  alt.Decompose, whole. Conditions: none.
-/
import Derived.Test.YtpdcoipfpffhnaaGreatDeco2
namespace Go.Proofs.YtpdcoipfpffhnaaGreat
open Go.ChangeShapes Go.WideShapes Go.ChangeAt Go.RowKit
set_option linter.unusedVariables false
set_option linter.unusedSimpArgs false

theorem eqv_arr {on oe : Bool} {v : V} {l1 : List V} (h7 : v.kind = 7) (h : EqL on oe l1 v.l) : EqV ⟨7, 0, 0, ⟨#[]⟩, l1, []⟩ (v.tidy on oe) := by
  have hll : (v.tidy on oe).l = V.tidyA on oe v.l := by rw [tidy_eq]; show (if v.kind = 8 then _ else _) = _; rw [if_neg (by omega)]
  refine .arr _ _ rfl (by rw [V.tidy_kind]; exact h7) (by rw [hll, tidyA_len]; exact h.1) (fun i x y hx hy => ?_)
  have hx' : l1[i]? = some x := hx
  obtain ⟨z, hz⟩ : ∃ z, v.l[i]? = some z := get_lt (by rw [← h.1]; exact (List.getElem?_eq_some_iff.1 hx').1)
  rw [hll, tidyA_get hz] at hy
  obtain rfl := Option.some.inj hy
  exact h.2 i x z hx' hz

def DecoAt (on oe : Bool) (v : V) : Prop := ∀ (x : Value) (w : World) (lo hi op : Nat), PT w lo hi v x → hi ≤ w.heap.size → Opts w op on oe → Calls Tryz.prog 44 #[x, .pointer (some ⟨op, 0, none⟩)] w (DecoPost on oe v w)

theorem deco_any (on oe : Bool) (v : V) : v.Ok → v.wt ≤ 1000000 → DecoAt on oe v := by
  induction v using V.ind with
  | h v ih =>
  intro hok hwt x w lo hi op hx hhi hop
  have ih' : ∀ x ∈ v.l, DecoAt on oe x := fun x hx => ih x hx (hok.kids x hx) (by have := wt_kid hx; omega)
  have hlm : v.l.length ≤ 1000000 := by have := wt_len v; omega
  clear ih
  by_cases h7 : v.kind = 7
  · cases hx with
    | arr _ _ _ h g cap cur xs cut hlo hg hhi2 hb hn hc1 hc2 hs ht hm hk =>
      have hcm := cut_mono hm
      refine (deco_arr on oe v.l g cap op cur xs w hb ht hn hlm (fun i x y hx hy wr hbel => ?_)).mono ?_
      · have hi1 := (List.getElem?_eq_some_iff.1 hx).1
        have e1 : cut (i + 1) ≤ w.heap.size := by have := hcm (i + 1) v.l.length (by omega) (by omega); omega
        exact ih' x (get_mem hx) y wr _ _ op ((hk i x y hx hy).bel (hbel.mono e1)) (Nat.le_trans e1 hbel.size) (hop.bel hbel hop.2.2)
      · rintro e w' ⟨g1, cur1, l1, rfl, hg1, hb1, hsz, hkids, heq, hbel⟩
        have hl1 : l1.length = v.l.length := heq.1
        have hrow : w'.ownsRow g1 20 1 (.slice (some ⟨g1, 0, none⟩) l1.length l1.length) l1.length cur1.toList :=
          ⟨by simp [hsz, hl1], Or.inr ⟨g1, l1.length, cur1, rfl, Nat.le_refl _, hb1, Nat.le_refl _, by unfold maxLen; omega, by rw [hsz, hl1]; omega, by rw [List.take_of_length_le (by simp [hsz, hl1])]⟩⟩
        refine ⟨_, ⟨7, 0, 0, ⟨#[]⟩, l1, []⟩, rfl, ?_, eqv_arr h7 heq, hbel⟩
        rw [← hl1]
        exact PT.of_row (v := ⟨7, 0, 0, ⟨#[]⟩, l1, []⟩) rfl hg1 hkids hrow
    | _ => omega
  by_cases h8 : v.kind = 8
  · have hnd : v.keys.Nodup := by cases hok <;> first | omega | assumption
    have hln : v.keys.length = v.l.length := by cases hok <;> first | omega | assumption
    cases hx with
    | obj _ _ _ h b ps cut hlo hg hhi2 hmm hkeys hn hm hk =>
      have hcm := cut_mono hm
      have hmm0 := hmm
      obtain ⟨es, clock, hb, hst, he⟩ := hmm0
      refine (deco_obj on oe v h8 hnd hln hok w b op es clock ps hb hst he hkeys hop (fun i s y x hp hx wr hbel => ?_)).mono ?_
      · have hi1 := (List.getElem?_eq_some_iff.1 hx).1
        have e1 : cut (i + 1) ≤ w.heap.size := by have := hcm (i + 1) v.l.length (by omega) (by omega); omega
        exact ih' x (get_mem hx) y wr _ _ op ((hk i x (s, y) hx hp).bel (hbel.mono e1)) (Nat.le_trans e1 hbel.size) (hop.bel hbel hop.2.2)
      · rintro e w' ⟨g1, l1, qs, rfl, hg1, hm1, hkids, heq, hbel⟩
        exact ⟨_, ⟨8, 0, 0, ⟨#[]⟩, l1, qs.map (·.1)⟩, rfl, PT.of_map (v := ⟨8, 0, 0, ⟨#[]⟩, l1, qs.map (·.1)⟩) rfl hg1 hkids hm1 rfl, heq, hbel⟩
    | _ => omega
  · exact deco_leaf on oe v x op w hx hok h7 h8

theorem Decompose_any (on oe : Bool) (v : V) (hok : v.Ok) (hwt : v.wt ≤ 1000000) (x : Value) (w : World) (lo hi op : Nat) (hx : PT w lo hi v x) (hhi : hi ≤ w.heap.size) (hop : Opts w op on oe) :
    Calls Tryz.prog 22 #[x, .pointer (some ⟨op, 0, none⟩)] w (DecoPost on oe v w) := by
  have hD := Lib.hid (deco_any on oe v hok hwt x w lo hi op hx hhi hop)
  clear hx hop
  go_enter Tryz.func22, Tryz.ntmps22
  go_wp2_with fail
  refine hD.out.mono ?_
  rintro e w2 ⟨y, v1, rfl, hp, heq, hb⟩
  have hpost : Hid (DecoPost on oe v w (.returned y) w2) := ⟨y, v1, rfl, hp, heq, hb⟩
  clear hp heq hb
  go_wp2_with fail
  go_ret
  exact hpost.out
end Go.Proofs.YtpdcoipfpffhnaaGreat
