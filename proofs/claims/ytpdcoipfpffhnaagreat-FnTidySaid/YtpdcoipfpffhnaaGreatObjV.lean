/-
  impl.object: a map's members as values, keys ascending. Conditions: none.
-/
import Derived.Test.YtpdcoipfpffhnaaGreatKeysOf
namespace Go.Proofs.YtpdcoipfpffhnaaGreat
open Go.ChangeShapes Go.WideShapes Go.ChangeAt Go.RowKit
set_option linter.unusedVariables false
set_option linter.unusedSimpArgs false
attribute [local go_sem] store_float'

/-- The members that have been laid. -/
def ObSt (n0 : Nat) (wS : World) (t : V) (ys : List ByteArray) (w : World) (AL : Option Addr) (cL : Nat) (AK : Option Addr) (cK j : Nat) : Prop :=
  ∃ l2 ok, BSt n0 wS (V.lf 8 0 0 ⟨#[]⟩) w (.slice AL j cL) (.slice AK j cK) (.slice AL j cL) (.slice AK j cK) l2 (ys.take j) ok ∧ l2.length = j ∧ ∀ (i : Nat) x k, l2[i]? = some x → ys[i]? = some k → EqV x (t.member k)
/-- Behind the append of the key. -/
def ObMid (n0 : Nat) (wS : World) (t : V) (ys : List ByteArray) (w : World) (AL : Option Addr) (cL : Nat) (AK : Option Addr) (cK : Nat) (AK2 : Option Addr) (cK2 j : Nat) : Prop :=
  ∃ l2 ok, BSt n0 wS (V.lf 8 0 0 ⟨#[]⟩) w (.slice AL j cL) (.slice AK j cK) (.slice AL j cL) (.slice AK2 (j + 1) cK2) l2 (ys.take (j + 1)) ok ∧ l2.length = j ∧ ∀ (i : Nat) x k, l2[i]? = some x → ys[i]? = some k → EqV x (t.member k)

section
variable {n0 : Nat} {wS w w2 : World} {t : V} {ys : List ByteArray} {AL AK AK2 : Option Addr} {cL cK cK2 j : Nat} {key : ByteArray}
theorem ObSt.cells (h : ObSt n0 wS t ys w AL cL AK cK j) : w.cell? ⟨n0 + 1, 4, none⟩ = some (.slice AL j cL) ∧ w.cell? ⟨n0 + 1, 5, none⟩ = some (.slice AK j cK) := by
  obtain ⟨l2, ok, h1, _⟩ := h
  exact ⟨h1.c4.1, h1.c5.1⟩
theorem ObMid.cells (h : ObMid n0 wS t ys w AL cL AK cK AK2 cK2 j) : w.cell? ⟨n0 + 1, 4, none⟩ = some (.slice AL j cL) ∧ w.cell? ⟨n0 + 1, 5, none⟩ = some (.slice AK j cK) ∧ Below n0 wS w := by
  obtain ⟨l2, ok, h1, _⟩ := h
  exact ⟨h1.c4.1, h1.c5.1, h1.bel⟩
theorem ObSt.drew (h : ObSt n0 wS t ys w AL cL AK cK j) : ObSt n0 wS t ys w.drew AL cL AK cK j := by
  obtain ⟨l2, ok, h1, h2⟩ := h
  exact ⟨l2, ok, h1.drew, h2⟩
theorem ObSt.alloc (h : ObSt n0 wS t ys w AL cL AK cK j) (o : Obj) : ObSt n0 wS t ys (w.alloc o) AL cL AK cK j := by
  obtain ⟨l2, ok, h1, h2⟩ := h
  exact ⟨l2, ok, h1.alloc o, h2⟩
theorem ObMid.below (h : ObMid n0 wS t ys w AL cL AK cK AK2 cK2 j) (hb : Below w.heap.size w w2) : ObMid n0 wS t ys w2 AL cL AK cK AK2 cK2 j := by
  obtain ⟨l2, ok, h1, h2⟩ := h
  exact ⟨l2, ok, h1.below hb, h2⟩
theorem ObMid.alloc (h : ObMid n0 wS t ys w AL cL AK cK AK2 cK2 j) (o : Obj) : ObMid n0 wS t ys (w.alloc o) AL cL AK cK AK2 cK2 j := h.below (below_alloc _ _)
theorem ObSt.mid (h : ObSt n0 wS t ys w AL cL AK cK j) (hk : ys[j]? = some key) (hl : ys.length ≤ 1000000) (ty : TypeId) :
    ∃ AK2 cK2 wK, (Builtin.append_ #[24, 24] ty #[.slice AK j cK, .slice (some ⟨w.heap.size, 0, none⟩) 1 1]).run Tryz.prog (w.alloc (.cells #[.string key] 9)) = .ok (.slice AK2 (j + 1) cK2) wK ∧ ObMid n0 wS t ys wK AL cL AK cK AK2 cK2 j ∧ w.heap.size ≤ wK.heap.size := by
  obtain ⟨l2, ok, h1, h2, h3⟩ := h
  have hj := (List.getElem?_eq_some_iff.1 hk).1
  have htl : (ys.take j).length = j := by rw [List.length_take]; omega
  obtain ⟨A', c', w3, hrun, hst, _⟩ := h1.stepK key (by omega) ty
  rw [htl] at hrun hst
  have hsz : w.heap.size ≤ w3.heap.size := by
    rcases Nat.lt_or_ge w3.heap.size w.heap.size with hlt | hge
    · exfalso
      obtain ⟨i0, hi, hz0, hz1, hz2⟩ := info_parts info_strK5
      obtain ⟨v', w3', hr, _, hgr, _, _⟩ := run_append_own_at (P := Tryz.prog) (w.alloc (.cells #[.string key] 9)) (n0 + 2) 24 ty 9 i0 (.string ⟨#[]⟩) 1 16 Tryz.underlying24 hi hz0 hz1 hz2 rfl (by decide) (.slice AK j cK) (ys.take j).length (strVs (ys.take j)) (h1.kown.alloc _) ⟨w.heap.size, 0, none⟩ 1 1 [.string key] rfl (fun j u hu => by
          have hj : j = 0 := by have := (List.getElem?_eq_some_iff.1 hu).1; simp at this; omega
          subst hj
          have h1 := cells_new w #[.string key] 9 0
          have h2 : Value.string key = u := by simpa using hu
          rw [← h2]
          exact h1) (fun u hu => by rw [List.mem_singleton.1 hu]; rfl) (by unfold maxLen; omega) (by omega) (by rw [alloc_size]; have := h1.lt; omega)
      rw [hrun] at hr
      have he : w3 = w3' := by injection hr
      have := hgr.size
      rw [alloc_size, ← he] at this
      omega
    · exact hge
  refine ⟨A', c', w3, hrun, ⟨l2, ok, ?_, h2, h3⟩, hsz⟩
  rw [take_get hk]
  exact hst
/-- Behind the append of the value. -/
theorem ObMid.done (h : ObMid n0 wS t ys w AL cL AK cK AK2 cK2 j) (hb : Below w.heap.size w w2) {v2 : V} {A2 B2 : Option Addr} {c2 d2 : Nat} (hbd : Bds v2 c2 d2) (hB : Strs (fun k => w.heap.size ≤ k) w2 B2 v2.keys) (hA : Vals (fun k => w.heap.size ≤ k) w2 A2 v2.l) (hk : ys[j]? = some key) (heq : EqV v2 (t.member key)) (hl : ys.length ≤ 1000000) (ty : TypeId) :
    ∃ A3 c3 w3, (Builtin.append_ #[23, 23] ty #[.slice AL j cL, .slice (some ⟨w2.heap.size, 0, none⟩) 1 1]).run Tryz.prog (w2.alloc (valObj v2 A2 c2 B2 d2)) = .ok (.slice A3 (j + 1) c3) w3 ∧ (w3.cell? ⟨n0 + 1, 4, none⟩ = some (.slice AL j cL) ∧ w3.frozen? ⟨n0 + 1, 4, none⟩ = false) ∧ (w3.cell? ⟨n0 + 1, 5, none⟩ = some (.slice AK j cK) ∧ w3.frozen? ⟨n0 + 1, 5, none⟩ = false) ∧
      Hid (ObSt n0 wS t ys ((w3.setCell ⟨n0 + 1, 5, none⟩ (.slice AK2 (j + 1) cK2)).setCell ⟨n0 + 1, 4, none⟩ (.slice A3 (j + 1) c3)) A3 c3 AK2 cK2 (j + 1)) ∧ Hid (ObSt n0 wS t ys ((w3.setCell ⟨n0 + 1, 4, none⟩ (.slice A3 (j + 1) c3)).setCell ⟨n0 + 1, 5, none⟩ (.slice AK2 (j + 1) cK2)) A3 c3 AK2 cK2 (j + 1)) := by
  obtain ⟨l2, ok, h1, h2, h3⟩ := h
  have hj := (List.getElem?_eq_some_iff.1 hk).1
  obtain ⟨A3, c3, w3, hrun, ok', hst⟩ := h1.stepL hb hbd hB hA (by omega) ty
  rw [h2] at hrun hst
  have hall : ∀ (i : Nat) x k, (l2 ++ [v2])[i]? = some x → ys[i]? = some k → EqV x (t.member k) := by
    intro i x k hx hky
    by_cases hi : i < l2.length
    · rw [List.getElem?_append_left hi] at hx
      exact h3 i x k hx hky
    · have hi2 : i = l2.length := by have := (List.getElem?_eq_some_iff.1 hx).1; simp at this; omega
      subst hi2
      rw [List.getElem?_append_right (Nat.le_refl _)] at hx
      simp at hx
      subst hx
      rw [h2] at hky
      obtain rfl := Option.some.inj (hk.symm.trans hky)
      exact heq
  exact ⟨A3, c3, w3, hrun, hst.c4, hst.c5, ⟨l2 ++ [v2], ok', (hst.set5 _).set4 _, by simp [h2], hall⟩, ⟨l2 ++ [v2], ok', (hst.set4 _).set5 _, by simp [h2], hall⟩⟩
end

def ObjVPost (t : V) (kv : Value) (ks : List ByteArray) (w : World) (e : Ending) (w' : World) : Prop := ∃ l2 ys AL cL AK cK, e = .returned (.agg #[.int .i64 8, .int .i64 0, .float .f64 0, .string ⟨#[]⟩, .slice AL l2.length cL, .slice AK ys.length cK]) ∧ ys.Perm ks ∧ l2.length = ys.length ∧ (∀ (i : Nat) x k, l2[i]? = some x → ys[i]? = some k → EqV x (t.member k)) ∧
  l2.length ≤ cL ∧ cL ≤ 9223372036854775807 ∧ ys.length ≤ cK ∧ cK ≤ 9223372036854775807 ∧ Strs (fun k => w.heap.size ≤ k) w' AK ys ∧ Vals (fun k => w.heap.size ≤ k) w' AL l2 ∧ w.grownBy w' kv.ownBlock

theorem eg_look : ∀ args w, (callFunc 37 args).run Tryz.prog w = .ok (.enter 37 args) w := fun _ _ => by kernel_rfl
theorem run_len_ok {w : World} {B size n : Nat} {e : TypeId} {A : Option Addr} {m c : Nat} {xs : List Value} (h : w.ownsRow B e size (.slice A m c) n xs) : n ≤ c ∧ c ≤ 9223372036854775807 := by
  rcases h.2 with ⟨e, e0⟩ | ⟨g, cap, cur, e, _, _, a1, a2, _⟩
  · simp only [Value.slice.injEq] at e; omega
  · simp only [Value.slice.injEq] at e; unfold maxLen at a2; omega

theorem grown_belowAfter {w w1 w2 : World} {row : Option Nat} (h : w.grownBy w1 row) (hb : Below w.heap.size w1 w2) : w.grownBy w2 row :=
  ⟨hb.os.trans h.os, hb.tape.trans h.tape, hb.output.trans h.output, Nat.le_trans h.size hb.size, fun k k1 k2 => (hb.block k k1).trans (h.block k k1 k2)⟩

set_option maxRecDepth 100000 in
set_option maxHeartbeats 8000000 in
theorem objectV_any (t : V) (ks : List ByteArray) (gk n ck bb b M : Nat) (ps : List (ByteArray × Value)) (w : World) (hn : n = ks.length) (hlm : ks.length ≤ 1000000) (hown : Own w 0 (.slice (some ⟨gk, 0, none⟩) n ck) ks) (hgk : M ≤ gk) (hbb : w.cell? ⟨bb, 0, none⟩ = some (.map (some b))) (hbbne : bb ≠ gk) (hbM : b < M) (hm : HasMap w b ps) (hks : ∀ s, s ∈ ks → ∃ y, (s, y) ∈ ps) (hforms : ∀ p ∈ ps, p.2 = .nilIface ∨ ∃ t u, p.2 = .iface t u) (hss : ∀ s ∈ ks, s.size ≤ 140737488351232)
    (hcall : ∀ s y, (s, y) ∈ ps → ∀ wr, (∀ k, k < M → wr.heap[k]? = w.heap[k]?) → w.heap.size ≤ wr.heap.size → Calls Tryz.prog 19 #[y] wr (ValPost (t.member s) wr)) :
    Calls Tryz.prog 35 #[.slice (some ⟨gk, 0, none⟩) n ck, .func (.func 37) #[] #[.pointer (some ⟨bb, 0, none⟩)]] w (ObjVPost t (.slice (some ⟨gk, 0, none⟩) n ck) ks w) := by
  have eg := eg_look
  have hgklt : gk < w.heap.size := (hown.lt gk rfl).2
  have hbblt : bb < w.heap.size := cell_lt hbb
  have hnH := Lib.hid hn
  have hlmH := Lib.hid hlm
  have hbbH := Lib.hid hbb
  have hmH := Lib.hid hm
  have hksH := Lib.hid hks
  have hfH := Lib.hid hforms
  have H := Lib.hid hcall
  have hsmall := Lib.hid hss
  clear hss
  have hownA := Lib.hid ((hown.alloc (.cells #[.int .i64 0, .int .i64 0, .float .f64 0, .string ⟨#[]⟩, .slice none 0 0, .slice none 0 0] 26)).alloc (.cells #[.int .i64 8, .int .i64 0, .float .f64 0, .string ⟨#[]⟩, .slice none 0 0, .slice none 0 0] 26))
  have hnm : n ≤ 1000000 := by omega
  clear hn hbb hm hks hforms hcall hown hlm
  go_enter Tryz.func35, Tryz.ntmps35
  go_wp2_with fail
  refine (sort_any _ 0 ks _ (by have h := hownA.out; rw [← hnH.out] at h; exact (show Own _ 0 _ ks by unfold Own; rw [← hnH.out]; exact h)) hlmH.out).mono ?_
  rintro e w1 ⟨ys, rfl, hp, _, ho1, hg1⟩
  have hfr : Hid (∀ k, k < w.heap.size → k ≠ gk → w1.heap[k]? = w.heap[k]?) := fun k k1 k2 => (hg1.block k (by rw [alloc_size, alloc_size]; omega) (by simp only [Value.ownBlock, ne_eq, Option.some.injEq]; exact k2)).trans ((Below.heap_alloc _ _ _ (by rw [alloc_size]; omega)).trans (Below.heap_alloc _ _ _ k1))
  have hg0 : Hid (w.grownBy w1 (Value.slice (some ⟨gk, 0, none⟩) n ck).ownBlock) := ⟨hg1.os, hg1.tape, hg1.output, by have := hg1.size; rw [alloc_size, alloc_size] at this; omega, fun k k1 k2 => hfr.out k k1 (by simp only [Value.ownBlock, ne_eq, Option.some.injEq] at k2; exact k2)⟩
  have hyl : ys.length = n := by rw [hp.length_eq, hnH.out]
  have hylH := Lib.hid hyl
  have hpH := Lib.hid hp
  have hkc : Hid (∀ (j : Nat) key, ys[j]? = some key → w1.cell? ⟨gk, j, none⟩ = some (.string key)) := fun j key hj => by
    rcases row_form ho1 with ⟨e, _⟩ | ⟨g, c, cur, e, _, hb, hxs⟩
    · cases e
    · simp only [Value.slice.injEq, Option.some.injEq, Addr.mk.injEq, and_true, true_and] at e
      rw [Nat.mul_one] at hxs
      rw [e.1]
      exact row_at hb hxs (by simp [strVs, hj])
  have hst0 : Hid (ObSt w.heap.size w1 t ys w1 none 0 none 0 0) := by
    have hne : ∀ k, w.heap.size ≤ k → some k ≠ (Value.slice (some ⟨gk, 0, none⟩) n ck).ownBlock := fun k hk => by simp only [Value.ownBlock, ne_eq, Option.some.injEq]; omega
    have hz : w1.heap[w.heap.size]? = _ := (hg1.block w.heap.size (by rw [alloc_size, alloc_size]; omega) (hne _ (Nat.le_refl _))).trans ((Below.heap_alloc _ _ _ (by rw [alloc_size]; omega)).trans (heap_alloc_new w _))
    have hbk := heap_alloc_new (w.alloc (.cells #[.int .i64 0, .int .i64 0, .float .f64 0, .string ⟨#[]⟩, .slice none 0 0, .slice none 0 0] 26)) (.cells #[.int .i64 8, .int .i64 0, .float .f64 0, .string ⟨#[]⟩, .slice none 0 0, .slice none 0 0] 26)
    rw [alloc_size] at hbk
    refine ⟨[], fun _ => False, ⟨(hg1.block (w.heap.size + 1) (by rw [alloc_size, alloc_size]; omega) (hne _ (by omega))).trans hbk, Zero6.of hz, VOwn.nil _ _ _, ?_, fun k hk => hk.elim, fun g hg => by simp [Value.ownBlock] at hg, Below.refl _ _⟩, rfl, fun i x k hx => by simp at hx⟩
    rw [List.take_zero]
    exact World.ownsRow_nil _ _ _ _
  clear hp ho1 hg1 hownA hyl
  go_wp2_with fail
  go_loopw [13] (fun i wr => ∃ (j : Nat) (AL : Option Addr) (cL : Nat) (AK : Option Addr) (cK : Nat), j ≤ n ∧ i = .int .i64 j ∧ Hid (ObSt w.heap.size w1 t ys wr AL cL AK cK j)) (fun i _ => n - (intOf i).toNat)
  case atStart => exact ⟨0, none, 0, none, 0, by omega, rfl, hst0⟩
  case round =>
    clear hst0
    obtain ⟨j, AL, cL, AK, cK, hj, rfl, hst⟩ := hrel
    by_cases hlt : j < n
    · obtain ⟨key, hkey⟩ : ∃ key, ys[j]? = some key := get_lt (by rw [hylH.out]; exact hlt)
      have hbel : Below w.heap.size w1 wr := by
        obtain ⟨l2, ok, h1, _⟩ := hst.out
        exact h1.bel
      have hsw1 : w.heap.size ≤ w1.heap.size := hg0.out.size
      have q1 : wr.cell? ⟨gk, j, none⟩ = some (.string key) := (hbel.cell (p := ⟨gk, j, none⟩) hgklt).trans (hkc.out j key hkey)
      obtain ⟨b4, b5⟩ := hst.out.cells
      obtain ⟨b4', b5'⟩ := (hst.out.alloc (.cells #[.string key] 9)).cells
      obtain ⟨AK2, cK2, wK, hrunK0, hmid, hszK⟩ := hst.out.drew.mid hkey (by rw [hylH.out]; exact hnm) 24
      obtain ⟨c4, c5, hbelK⟩ := hmid.cells
      obtain ⟨y, hy⟩ : ∃ y, (key, y) ∈ ps := hksH.out key (hpH.out.mem_iff.1 (get_mem hkey))
      have hfrK : ∀ k, k < w.heap.size → k ≠ gk → wK.heap[k]? = w.heap[k]? := fun k k1 k2 => (hbelK.block k k1).trans (hfr.out k k1 k2)
      have hlook := Lib.hid (look_any key bb b y ps wK ((World.cell?_of_block (a := ⟨bb, 0, none⟩) (hfrK bb hbblt hbbne)).trans hbbH.out) (hmH.out.same (hfrK b (by omega) (by omega))) hy (hfH.out _ hy))
      have hszW : w.heap.size ≤ wK.heap.size := Nat.le_trans hsw1 hbelK.size
      have hca := Lib.hid (H.out key y hy wK (fun k hk => hfrK k (by omega) (by omega)) hszW)
      have hmidH := Lib.hid hmid
      have hkeyH := Lib.hid hkey
      have hrunK := Lib.hid hrunK0
      have hyf := hfH.out _ hy
      have j0 : (0 : Int) ≤ (j : Int) := by omega
      have j1 : (j : Int) < (n : Int) := by omega
      clear hkey hy hfrK hrunK0 hmid hbelK hbel
      go_wp2_with fail
      go_region_law ((first
        | (refine step_append_is rfl (.tmp 18) (.tmp 20) 24 rfl (.slice AK j cK) (.slice (some ⟨wr.heap.size, 0, none⟩) 1 1) (by simp [Act.eval, Act.put]) (by simp [Act.eval, Act.put]) (.slice AK2 (j + 1) cK2) wK hrunK.out ?_)
        | (refine step_append_is rfl (.tmp 23) (.tmp 28) 23 rfl (.slice AL j cL) (.slice (some ⟨w2.heap.size, 0, none⟩) 1 1) (by simp [Act.eval, Act.put]) (by simp [Act.eval, Act.put]) (.slice A3 (j + 1) c3) w3 hrunL.out ?_)
        | (go_simp; go_at_call 37; refine hlook.out.mono ?_; rintro e w' ⟨rfl, rfl⟩)
        | (go_simp; go_at_call 19; refine hca.out.mono ?_; rintro e w2 ⟨v2, A2, c2, B2, d2, rfl, hbd, hB2, hA2, hb2, heq⟩; obtain ⟨A3, c3, w3, hrunL0, ⟨e4, f4⟩, ⟨e5, f5⟩, hnew, hnew2⟩ := hmidH.out.done hb2 hbd hB2 hA2 hkeyH.out heq (by rw [hylH.out]; exact hnm) 23; have hrunL := Lib.hid hrunL0; clear hrunL0; obtain ⟨p4, p5, _⟩ := (hmidH.out.below hb2).cells; obtain ⟨r4, r5, _⟩ := ((hmidH.out.below hb2).alloc (valObj v2 A2 c2 B2 d2)).cells; simp only [valObj] at r4 r5)))
      all_goals
        clear hca hst q1 b4 b5 b4' b5' c4 c5 hlook hmidH hrunK hrunL e4 f4 e5 f5 p4 p5 r4 r5 hb2 hbd hB2 hA2 heq
        go_wp2_with fail
        go_roundw
        case rel => first | exact ⟨j + 1, A3, c3, AK2, cK2, by omega, by go_num, hnew⟩ | exact ⟨j + 1, A3, c3, AK2, cK2, by omega, by go_num, hnew2⟩
        case measure => simp [intOf]; omega
    · obtain rfl : j = n := by omega
      have hfin : ∃ l2, l2.length = j ∧ (∀ (i : Nat) x k, l2[i]? = some x → ys[i]? = some k → EqV x (t.member k)) ∧ j ≤ cL ∧ cL ≤ 9223372036854775807 ∧ j ≤ cK ∧ cK ≤ 9223372036854775807 ∧ wr.heap[w.heap.size + 1]? = some (.cells #[.int .i64 8, .int .i64 0, .float .f64 0, .string ⟨#[]⟩, .slice AL j cL, .slice AK j cK] 26 (0, 0)) ∧ Zero6 wr w.heap.size ∧ Vals (fun k => w.heap.size + 2 ≤ k) wr AL l2 ∧ Own wr (w.heap.size + 2) (.slice AK j cK) ys ∧ Below w.heap.size w1 wr := by
        obtain ⟨l2, ok, h1, h2, h3⟩ := hst.out
        have hown := h1.kown
        rw [List.take_of_length_le (by rw [hylH.out]; exact Nat.le_refl _)] at hown
        have hcL := run_len_ok (h1.vown.choose_spec.2.1)
        have hcK := run_len_ok hown
        rw [h2] at hcL
        rw [hylH.out] at hcK
        exact ⟨l2, h2, h3, hcL.1, hcL.2, hcK.1, hcK.2, h1.blk, h1.zero, h1.vown.vals (fun k hk => (h1.okb k hk).1) (fun k hk => hk), hown, h1.bel⟩
      obtain ⟨l2, hl2, heq, hcL1, hcL2, hcK1, hcK2, hblk, hz, hvals, hkown, hbel⟩ := hfin
      obtain ⟨z0, z1, z2, z3, z4, z5, f0, f1, f2, f3, f4, f5⟩ := hz
      have hc : ∀ (k : Nat) u, (#[.int .i64 8, .int .i64 0, .float .f64 0, .string ⟨#[]⟩, .slice AL j cL, .slice AK j cK] : Array Value)[k]? = some u → wr.cell? ⟨w.heap.size + 1, k, none⟩ = some u := fun k u hu => by simp only [World.cell?, hblk]; exact hu
      have d0 := hc 0 _ rfl
      have d1 := hc 1 _ rfl
      have d2 := hc 2 _ rfl
      have d3 := hc 3 _ rfl
      have d4 := hc 4 _ rfl
      have d5 := hc 5 _ rfl
      have hsz : w.heap.size + 2 ≤ wr.heap.size := (Array.getElem?_eq_some_iff.1 hblk).1
      have heqH := Lib.hid heq
      have hl2H := Lib.hid hl2
      have hvH := Lib.hid hvals
      have hkH : Hid (Strs (fun k => w.heap.size + 2 ≤ k) wr AK ys) := fun hne => by
        rcases row_form hkown with ⟨e, h0⟩ | ⟨g, c, cur, e, hB, hb, hxs⟩
        · exact absurd (List.eq_nil_of_length_eq_zero h0) hne
        · simp only [Value.slice.injEq] at e
          rw [Nat.mul_one] at hxs
          refine ⟨⟨g, 0, none⟩, e.1, hB, fun i s hi => ⟨?_, ?_⟩⟩
          · have hadd : (⟨g, 0, none⟩ : Addr).add i = ⟨g, i, none⟩ := by unfold Addr.add; split <;> simp_all
            rw [hadd]
            exact row_at hb hxs (by simp [strVs, hi])
          · exact hsmall.out s (hpH.out.mem_iff.1 (get_mem hi))
      clear hc hblk hst heq hl2 hvals hkown
      go_wp2_with fail
      have hfar : ∀ k, w.heap.size + 2 ≤ k → ((((((wr.setCell ⟨w.heap.size, 0, none⟩ (.int .i64 8)).setCell ⟨w.heap.size, 1, none⟩ (.int .i64 0)).setCell ⟨w.heap.size, 2, none⟩ (.float .f64 0)).setCell ⟨w.heap.size, 3, none⟩ (.string ⟨#[]⟩)).setCell ⟨w.heap.size, 4, none⟩ (.slice AL j cL)).setCell ⟨w.heap.size, 5, none⟩ (.slice AK j cK)).heap[k]? = wr.heap[k]? := fun k hk => by
        have hk' : k ≠ w.heap.size := by omega
        rw [set_far _ _ _ hk', set_far _ _ _ hk', set_far _ _ _ hk', set_far _ _ _ hk', set_far _ _ _ hk', set_far _ _ _ hk']
      have hbf := ((((((hbel.setCell (p := ⟨w.heap.size, 0, none⟩) (by simp) (.int .i64 8)).setCell (p := ⟨w.heap.size, 1, none⟩) (by simp) (.int .i64 0)).setCell (p := ⟨w.heap.size, 2, none⟩) (by simp) (.float .f64 0)).setCell (p := ⟨w.heap.size, 3, none⟩) (by simp) (.string ⟨#[]⟩)).setCell (p := ⟨w.heap.size, 4, none⟩) (by simp) (.slice AL j cL)).setCell (p := ⟨w.heap.size, 5, none⟩) (by simp) (.slice AK j cK))
      have hgF := grown_belowAfter hg0.out hbf
      exact bodyPost_ret (v := .agg #[.int .i64 8, .int .i64 0, .float .f64 0, .string ⟨#[]⟩, .slice AL j cL, .slice AK j cK]) (by simp [results, Tryz.results35, go_sem, z0, z1, z2, z3, z4, z5]) rfl
        ⟨l2, ys, AL, cL, AK, cK, by rw [hl2H.out, hylH.out], hpH.out, by rw [hl2H.out, hylH.out], heqH.out, by rw [hl2H.out]; exact hcL1, hcL2, by rw [hylH.out]; exact hcK1, hcK2, (hkH.out.move hfar).mono (fun k hk => by omega), (hvH.out.move hfar).mono (fun k hk => by omega), hgF⟩
end Go.Proofs.YtpdcoipfpffhnaaGreat
