/-
  plain: a value as plain data. Conditions: none.
-/
import Derived.Test.YthagnngckegekaaGreatDoorPT
import Derived.OwnWalk
import Derived.Carry
import Derived.Outline
namespace Go.Proofs.YthagnngckegekaaGreatDoor
open Go.ChangeShapes Go.WideShapes Go.ChangeAt Go.RowKit
set_option linter.unusedVariables false

theorem store_float {P : Program} {w : World} {a : Addr} {m : Mode} (k : FloatKind) (b : Nat) : (store a (.float k b) m).run P w = stored P w a (.float k b) m := run_store P w a _ m rfl
attribute [local go_sem] store_float

theorem info_any : (Tryz.prog.info? 20).map (fun i => (i.zero, i.size, i.bytes)) = some (some .nilIface, 1, 16) := by kernel_rfl

/-- What plain hands back. -/
def Made (v : V) (w : World) (e : Ending) (w' : World) : Prop := ∃ x, e = .returned x ∧ PT w' w.heap.size w'.heap.size v x ∧ Below w.heap.size w w'
def PlainAt (x : V) : Prop := ∀ {ok : Nat → Prop} (A B : Option Addr) (ca cb : Nat) (w : World) (hb : Bds x ca cb) (hB : Strs ok w B x.keys) (hA : Vals ok w A x.l),
  Calls Tryz.prog 18 #[.agg #[.int .i64 x.kind, .int .i64 x.n, .float .f64 x.f, .string x.s, .slice A x.l.length ca, .slice B x.keys.length cb]] w (Made x w)

theorem below_alloc (w : World) (o : Obj) : Below w.heap.size w (w.alloc o) := (Below.refl _ _).alloc (Nat.le_refl _) _

set_option maxHeartbeats 1000000 in
theorem plain_leaf (k n : Int) (f : Nat) (s : ByteArray) (l : List V) (ks : List ByteArray) (A B : Option Addr) (ca cb : Nat) (w : World) (h : k = 1 ∨ k = 2 ∨ k = 3 ∨ k = 4 ∨ k = 5) :
    Calls Tryz.prog 18 #[.agg #[.int .i64 k, .int .i64 n, .float .f64 f, .string s, .slice A l.length ca, .slice B ks.length cb]] w (Made ⟨k, n, f, s, l, ks⟩ w) := by
  rcases h with rfl | rfl | rfl | rfl | rfl
  · go_enter Tryz.func18, Tryz.ntmps18
    go_wp2_with fail
    go_ret
    exact ⟨_, rfl, .null _ _ _ rfl, below_alloc _ _⟩
  · go_enter Tryz.func18, Tryz.ntmps18
    go_wp2_with fail
    go_ret
    exact ⟨_, rfl, .bool _ _ _ rfl, below_alloc _ _⟩
  · go_enter Tryz.func18, Tryz.ntmps18
    go_wp2_with fail
    go_ret
    exact ⟨_, rfl, .int _ _ _ rfl, below_alloc _ _⟩
  · go_enter Tryz.func18, Tryz.ntmps18
    go_wp2_with fail
    go_ret
    exact ⟨_, rfl, .float _ _ _ rfl, below_alloc _ _⟩
  · go_enter Tryz.func18, Tryz.ntmps18
    go_wp2_with fail
    go_ret
    exact ⟨_, rfl, .str _ _ _ rfl, below_alloc _ _⟩

theorem row_same {w w1 : World} {base : Nat} {e : TypeId} {size : Nat} {v : Value} {n : Nat} {xs : List Value} (h : w.ownsRow base e size v n xs) (hm : ∀ g, v.ownBlock = some g → w1.heap[g]? = w.heap[g]?) : w1.ownsRow base e size v n xs := by
  refine ⟨h.1, ?_⟩
  rcases h.2 with h2 | ⟨g, cap, cur, rfl, h1, hb, h2⟩
  · exact Or.inl h2
  · exact Or.inr ⟨g, cap, cur, rfl, h1, (hm g rfl).trans hb, h2⟩
theorem one_new (w : World) (y : Value) (t : TypeId) : ∀ j u, ([y] : List Value)[j]? = some u → (w.alloc (.cells #[y] t)).cell? ((⟨w.heap.size, 0, none⟩ : Addr).add j) = some u := by
  intro j u hu
  have hj : j = 0 := by
    have := (List.getElem?_eq_some_iff.1 hu).1
    simp at this; omega
  subst hj
  have h1 : (w.alloc (.cells #[y] t)).cell? ⟨w.heap.size, 0, none⟩ = some y := cells_new w #[y] t 0
  have h2 : y = u := by simpa using hu
  rw [← h2]
  simp [Addr.add, h1]

theorem kids_step {wr w2 w3 : World} {n0 j : Nat} {l : List V} {xs : List Value} {x : V} {y : Value} {o : Obj} (hk : Kids wr (n0 + 2) wr.heap.size (l.take j) xs) (hx : l[j]? = some x) (hp : PT w2 (wr.heap.size + 1) w2.heap.size x y) (hbr : Below wr.heap.size wr w2)
    (hgr : (w2.alloc o).grownBy w3 (some (n0 + 1))) (hs : n0 + 2 ≤ wr.heap.size) (hs2 : wr.heap.size + 1 ≤ w2.heap.size) : Kids w3 (n0 + 2) w3.heap.size (l.take (j + 1)) (xs ++ [y]) := by
  have hsz3 : w2.heap.size + 1 ≤ w3.heap.size := by have := hgr.size; rwa [alloc_size] at this
  have hblk : ∀ k, k ≠ n0 + 1 → k < w2.heap.size → w3.heap[k]? = w2.heap[k]? := fun k h1 h2 =>
    (hgr.block k (by rw [alloc_size]; omega) (by simp only [ne_eq, Option.some.injEq]; exact h1)).trans (Below.heap_alloc _ _ _ h2)
  rw [take_get hx]
  refine ((hk.move (w1 := w3) (fun k h1 h2 => ?_)).mono (Nat.le_refl _) (by omega : wr.heap.size ≤ wr.heap.size + 1)).snoc (((hp.move (w1 := w3) (fun k h1 h2 => hblk k (by omega) h2)).mono (Nat.le_refl _) (by omega))) (by omega)
  exact (hblk k (by omega) (by omega)).trans (hbr.block k h2)

set_option maxHeartbeats 1000000 in
set_option maxRecDepth 100000 in
theorem plain_arr (n : Int) (f : Nat) (s : ByteArray) (l : List V) (ks : List ByteArray) (hl : ∀ x ∈ l, PlainAt x) (hlm : l.length ≤ 1000000) {ok : Nat → Prop} (A B : Option Addr) (ca cb : Nat) (w : World) (hA : Vals ok w A l) :
    Calls Tryz.prog 18 #[.agg #[.int .i64 7, .int .i64 n, .float .f64 f, .string s, .slice A l.length ca, .slice B ks.length cb]] w (Made ⟨7, n, f, s, l, ks⟩ w) := by
  have H : Hid (∀ x ∈ l, PlainAt x) := hl
  clear hl
  obtain ⟨i0, hi, hz0, hz1, hz2⟩ := info_parts info_any
  go_enter Tryz.func18, Tryz.ntmps18
  go_wp2_with (at_make; refine wpList_make_own _ rfl _ _ 64 rfl w.heap.size 20 i0 .nilIface 1 Tryz.underlying64 hi hz0 hz1 _ _ _ l.length rfl rfl rfl ?b1 ?b2 ?b3 ?_)
  case b1 => rw [hz2]; omega
  case b2 => unfold maxLen; omega
  case b3 => simp
  intro w1 hown hgr
  try simp only [alloc_size] at hown
  have hown' := Lib.hid hown
  have hbel : Below (w.heap.size + 1) (w.alloc (valObj ⟨7, n, f, s, l, ks⟩ A ca B cb)) w1 := (Below.refl _ _).grown hgr (by simp) (fun k hk => by simp at hk)
  have hs1 : w.heap.size + 2 ≤ w1.heap.size := by have := hgr.size; have := hown.lt (w.heap.size + 1) rfl; omega
  obtain ⟨⟨b0, b1, b2, b3, b4, b5⟩, hbw⟩ := boxed hbel
  dsimp only at b0 b1 b2 b3 b4 b5
  clear hown hgr
  go_wp2_with fail
  go_loopw [3, 46] (fun o i wr => ∃ (j : Nat) (xs : List Value), j ≤ l.length ∧ i = .int .i64 j ∧ o = .slice (some ⟨w.heap.size + 1, 0, none⟩) j l.length ∧ Hid (wr.ownsRow w.heap.size 20 1 (.slice (some ⟨w.heap.size + 1, 0, none⟩) j l.length) j xs) ∧ Hid (Kids wr (w.heap.size + 2) wr.heap.size (l.take j) xs) ∧ Below (w.heap.size + 1) (w.alloc (valObj ⟨7, n, f, s, l, ks⟩ A ca B cb)) wr ∧ w.heap.size + 2 ≤ wr.heap.size) (fun _ i _ => l.length - (intOf i).toNat)
  case atStart => exact ⟨0, [], by simp, rfl, rfl, hown'.out, Kids.nil _ hs1, hbel, hs1⟩
  case round =>
    clear b0 b1 b2 b3 b4 b5 hbw hbel hown' hs1
    obtain ⟨j, xs, hj, rfl, rfl, ho, hk, hbel, hs1⟩ := hrel
    obtain ⟨⟨b0, b1, b2, b3, b4, b5⟩, hbw⟩ := boxed hbel
    dsimp only at b0 b1 b2 b3 b4 b5
    by_cases hlt : j < l.length
    · obtain ⟨x, hx⟩ := get_lt hlt
      have hxm := Lib.hid (get_mem hx)
      obtain ⟨ad, Ai, ci, Bi, di, hAe, _, ⟨e0, e1, e2, e3, e4, e5⟩, hbx, hBx, hAx⟩ := (hA.bel hbw).at_ hx
      subst hAe
      have hx' := Lib.hid hx
      clear hx hA
      go_wp2_with fail
      have hbel1 : Below wr.heap.size wr (wr.alloc (valObj x Ai ci Bi di)) := below_alloc _ _
      refine (H.out x hxm.out Ai Bi ci di _ hbx (hBx.bel hbel1) (hAx.bel hbel1)).mono ?_
      rintro e w2 ⟨y, rfl, hp, hb2⟩
      rw [alloc_size] at hb2 hp
      have hbel2 := hbel.trans ((hbel1.trans (hb2.mono (by omega))).mono (by omega))
      have hsz2 : wr.heap.size + 1 ≤ w2.heap.size := by have := hb2.size; rw [alloc_size] at this; exact this
      have hbr : Below wr.heap.size wr w2 := hbel1.trans (hb2.mono (by omega))
      have ho2 : Hid (∀ o, (w2.alloc o).ownsRow w.heap.size 20 1 (.slice (some ⟨w.heap.size + 1, 0, none⟩) j l.length) j xs) := fun o =>
        (row_same (w1 := w2) ho.out (fun g hg => by simp only [Value.ownBlock, Option.some.injEq] at hg; subst hg; exact hbr.block _ (by omega))).alloc o
      have hp' := Lib.hid hp
      have hbr' := Lib.hid hbr
      have hj1 : Hid (j + 1 ≤ l.length) := by show j + 1 ≤ _; omega
      have hform := hp.form
      clear hp hb2 b0 b1 b2 b3 b4 b5 e0 e1 e2 e3 e4 e5 ho hbel hbr hbel1 hbw
      rcases hform with rfl | ⟨ty, u, rfl⟩
      · skip
        have hyo : Hid (∀ z ∈ [Value.nilIface], z.oneCell' = true) := fun z hz => by rw [List.mem_singleton.1 hz]; rfl
        go_wp2_with (at_builtin; refine wpList_append_fits _ rfl _ _ 64 rfl w.heap.size 20 i0 1 Tryz.underlying64 hi hz1 (w.heap.size + 1) j l.length xs rfl (ho2.out _) ⟨w2.heap.size, 0, none⟩ 1 1 [Value.nilIface] rfl rfl (one_new _ _ _) hyo.out hj1.out ?_)
        intro w3 ho3 hgr
        have hsz3 : w2.heap.size + 1 ≤ w3.heap.size := by have := hgr.size; rwa [alloc_size] at this
        have hbel3 := (hbel2.trans ((below_alloc w2 _).mono (by omega))).grown hgr (by rw [alloc_size]; omega) (fun k hk => by simp only [Option.some.injEq] at hk; omega)
        have hk3 := Lib.hid (kids_step hk.out hx'.out hp'.out hbr'.out hgr hs1 hsz2)
        have ho3' := Lib.hid ho3
        clear hgr ho3 hk ho2 hbel2 hyo
        have hsz4 : w.heap.size + 2 ≤ w3.heap.size := by omega
        go_wp2_with fail
        go_roundw
        case rel => exact ⟨j + 1, xs ++ [Value.nilIface], by omega, by go_num, rfl, ho3', hk3, hbel3, hsz4⟩
        case measure => simp [intOf]; omega
      · skip
        have hyo : Hid (∀ z ∈ [Value.iface ty u], z.oneCell' = true) := fun z hz => by rw [List.mem_singleton.1 hz]; rfl
        go_wp2_with (at_builtin; refine wpList_append_fits _ rfl _ _ 64 rfl w.heap.size 20 i0 1 Tryz.underlying64 hi hz1 (w.heap.size + 1) j l.length xs rfl (ho2.out _) ⟨w2.heap.size, 0, none⟩ 1 1 [Value.iface ty u] rfl rfl (one_new _ _ _) hyo.out hj1.out ?_)
        intro w3 ho3 hgr
        have hsz3 : w2.heap.size + 1 ≤ w3.heap.size := by have := hgr.size; rwa [alloc_size] at this
        have hbel3 := (hbel2.trans ((below_alloc w2 _).mono (by omega))).grown hgr (by rw [alloc_size]; omega) (fun k hk => by simp only [Option.some.injEq] at hk; omega)
        have hk3 := Lib.hid (kids_step hk.out hx'.out hp'.out hbr'.out hgr hs1 hsz2)
        have ho3' := Lib.hid ho3
        clear hgr ho3 hk ho2 hbel2 hyo
        have hsz4 : w.heap.size + 2 ≤ w3.heap.size := by omega
        go_wp2_with fail
        go_roundw
        case rel => exact ⟨j + 1, xs ++ [Value.iface ty u], by omega, by go_num, rfl, ho3', hk3, hbel3, hsz4⟩
        case measure => simp [intOf]; omega
    · obtain rfl : j = l.length := by omega
      have hfin : Hid (PT wr w.heap.size wr.heap.size ⟨7, n, f, s, l, ks⟩ (.iface 64 (.slice (some ⟨w.heap.size + 1, 0, none⟩) l.length l.length))) := by
        have hk2 := hk.out
        rw [List.take_length] at hk2
        exact PT.of_row (v := ⟨7, n, f, s, l, ks⟩) rfl (by omega) hk2 ho.out
      clear ho hk hA
      go_wp2_with fail
      go_ret
      exact ⟨_, rfl, hfin.out, hbw⟩

theorem below_undrew {B : Nat} {w W : World} (h : Below B w.drew W) : Below B w W := ⟨h.os, h.tape, h.output, h.size, h.block⟩
theorem below_setBlock {B b : Nat} {w W : World} (h : Below B w W) (hb : B ≤ b) (o : Obj) : Below B w (Go.ChangeMaps.setBlock W b o) :=
  ⟨h.os, h.tape, h.output, by simp [Go.ChangeMaps.setBlock]; exact h.size, fun k hk => by
    simp only [Go.ChangeMaps.setBlock, Array.getElem?_setIfInBounds]
    rw [if_neg (by omega)]
    exact h.block k hk⟩
theorem setBlock_size (w : World) (b : Nat) (o : Obj) : (Go.ChangeMaps.setBlock w b o).heap.size = w.heap.size := by simp [Go.ChangeMaps.setBlock]
theorem setBlock_far (w : World) (b : Nat) (o : Obj) {k : Nat} (h : k ≠ b) : (Go.ChangeMaps.setBlock w b o).heap[k]? = w.heap[k]? := by
  simp only [Go.ChangeMaps.setBlock, Array.getElem?_setIfInBounds]
  rw [if_neg (by omega)]

theorem obj_step {wr W1 w2 : World} {n0 j : Nat} {l : List V} {ks : List ByteArray} {ps : List (ByteArray × Value)} {x : V} {y : Value} {key : ByteArray} (hb : Below (wr.heap.size + 1) W1 w2) (hW : Below wr.heap.size wr W1) (hm : HasMap wr (n0 + 1) ps) (hks : ps.map (·.1) = ks.take j) (hd : ks.Nodup) (hkey : ks[j]? = some key)
    (hk : Kids wr (n0 + 2) wr.heap.size (l.take j) (ps.map (·.2))) (hx : l[j]? = some x) (hp : PT w2 (wr.heap.size + 1) w2.heap.size x y) (hs1 : n0 + 2 ≤ wr.heap.size) (hs2 : wr.heap.size + 1 ≤ w2.heap.size) :
    ∃ o, (Instr.mapUpdate 65 (.map (some (n0 + 1))) (.string key) y).run Tryz.prog w2 = .ok () (Go.ChangeMaps.setBlock w2 (n0 + 1) o) ∧ HasMap (Go.ChangeMaps.setBlock w2 (n0 + 1) o) (n0 + 1) (ps ++ [(key, y)]) ∧ (ps ++ [(key, y)]).map (·.1) = ks.take (j + 1) ∧
      Kids (Go.ChangeMaps.setBlock w2 (n0 + 1) o) (n0 + 2) (Go.ChangeMaps.setBlock w2 (n0 + 1) o).heap.size (l.take (j + 1)) ((ps ++ [(key, y)]).map (·.2)) := by
  have hbl : ∀ k, k < wr.heap.size → w2.heap[k]? = wr.heap[k]? := fun k hk => (hb.block k (by omega)).trans (hW.block k hk)
  have hm2 : HasMap w2 (n0 + 1) ps := hm.same (hbl _ (by omega))
  have hfresh : ∀ p ∈ ps, p.1 ≠ key := by
    intro p hp e
    have h1 : p.1 ∈ ks.take j := by rw [← hks]; exact List.mem_map.2 ⟨p, hp, rfl⟩
    obtain ⟨i, hi, e2⟩ := List.getElem_of_mem h1
    have hij : i < j := by simp at hi; omega
    rw [List.getElem_take] at e2
    have h3 := (List.getElem?_eq_some_iff.1 hkey)
    obtain ⟨h4, h5⟩ := h3
    have := (List.getElem_inj hd (h₀ := by simp at hi; omega) (h₁ := h4)).1 (e2.trans (e.trans h5.symm))
    omega
  obtain ⟨o, hrun, hm3⟩ := update_new (P := Tryz.prog) Tryz.underlying65 Tryz.underlying9 hm2 y hfresh
  refine ⟨o, hrun, hm3, ?_, ?_⟩
  · rw [List.map_append, hks, take_get hkey]; rfl
  · rw [List.map_append, take_get hx, setBlock_size]
    refine ((hk.move (fun k h1 h2 => ?_)).mono (Nat.le_refl _) (by omega : wr.heap.size ≤ wr.heap.size + 1)).snoc (hp.move (fun k h1 h2 => setBlock_far _ _ _ (by omega))) hs2
    exact (setBlock_far _ _ _ (by omega)).trans (hbl k h2)

theorem map_loop_end {w wr : World} {v : V} {b : Nat} {ps : List (ByteArray × Value)} (h8 : v.kind = 8) (hlo : w.heap.size ≤ b) (hm : HasMap wr b ps) (hk : Kids wr (b + 1) wr.heap.size v.l (ps.map (·.2))) (hkeys : ps.map (·.1) = v.keys) :
    PT wr w.heap.size wr.heap.size v (.iface 65 (.map (some b))) := PT.of_map h8 hlo hk hm hkeys

set_option maxHeartbeats 1000000 in
set_option maxRecDepth 100000 in
theorem plain_obj (n : Int) (f : Nat) (s : ByteArray) (l : List V) (ks : List ByteArray) (hl : ∀ x ∈ l, PlainAt x) (hlm : l.length ≤ 1000000) (hlen : ks.length = l.length) (hd : ks.Nodup) {ok : Nat → Prop} (A B : Option Addr) (ca cb : Nat) (w : World) (hB : Strs ok w B ks) (hA : Vals ok w A l) :
    Calls Tryz.prog 18 #[.agg #[.int .i64 8, .int .i64 n, .float .f64 f, .string s, .slice A l.length ca, .slice B ks.length cb]] w (Made ⟨8, n, f, s, l, ks⟩ w) := by
  have H : Hid (∀ x ∈ l, PlainAt x) := hl
  have hlen' := Lib.hid hlen
  have hd' := Lib.hid hd
  have hkl : ks.length ≤ 1000000 := by omega
  clear hl hlen hd
  have hmm : ∀ (w : World) (k : Nat), (Instr.makeMap 65 (some (.int .i64 k))).run Tryz.prog w = .ok (.map (some w.heap.size)) (w.alloc (.map #[] 0)) := fun w k => by
    simp [Instr.makeMap, run_underlying Tryz.underlying65, asInt, newObj, Sem.run, Result.andThen, asIntOf]
    try rfl
  go_enter Tryz.func18, Tryz.ntmps18
  go_wp2_with fail
  clear hmm
  go_loopw [67] (fun i wr => ∃ (j : Nat) (ps : List (ByteArray × Value)), j ≤ l.length ∧ i = .int .i64 j ∧ Hid (HasMap wr (w.heap.size + 1) ps) ∧ Hid (ps.map (·.1) = ks.take j) ∧ Hid (Kids wr (w.heap.size + 2) wr.heap.size (l.take j) (ps.map (·.2))) ∧ Below (w.heap.size + 1) (w.alloc (valObj ⟨8, n, f, s, l, ks⟩ A ca B cb)) wr ∧ w.heap.size + 2 ≤ wr.heap.size) (fun i _ => l.length - (intOf i).toNat)
  case atStart => exact ⟨0, [], by simp, rfl, by have := HasMap.made (w.alloc (valObj ⟨8, n, f, s, l, ks⟩ A ca B cb)); rw [alloc_size] at this; exact this, by simp [Hid], Kids.nil _ (by simp), (Below.refl _ _).alloc (by simp) _, by simp⟩
  case round =>
    obtain ⟨j, ps, hj, rfl, hm, hks, hk, hbel, hs1⟩ := hrel
    obtain ⟨⟨b0, b1, b2, b3, b4, b5⟩, hbw⟩ := boxed hbel
    dsimp only at b0 b1 b2 b3 b4 b5
    by_cases hlt : j < l.length
    · obtain ⟨x, hx⟩ := get_lt hlt
      have hjk : j < ks.length := by have := hlen'.out; omega
      obtain ⟨key, hkey⟩ := get_lt hjk
      obtain ⟨adk, hBe, hkb, hck, hsz⟩ := hB.lt.at_ hkey
      have hck2 : wr.cell? (adk.add j) = some (.string key) := (hbw.cell (p := adk.add j) (by rw [add_block]; exact hkb.2)).trans hck
      have hxm := Lib.hid (get_mem hx)
      obtain ⟨ad, Ai, ci, Bi, di, hAe, _, ⟨e0, e1, e2, e3, e4, e5⟩, hbx, hBx, hAx⟩ := (hA.bel hbw).at_ hx
      subst hAe hBe
      have hx' := Lib.hid hx
      have hkey' := Lib.hid hkey
      have j0 : (0 : Int) ≤ (j : Int) := by omega
      have j1 : (j : Int) < (ks.length : Int) := by omega
      clear hx hA hck hkey hB
      go_wp2_with fail
      have hkb' : adk.block < w.heap.size := hkb.2
      have hab : (adk.add j).block = adk.block := add_block _ _
      have hbelW : Below wr.heap.size wr (wr.alloc (valObj x Ai ci Bi di)) := below_alloc _ _
      have hS1 : Hid ((fun w' => w'.cell? ⟨w.heap.size, 5, none⟩ = some (.slice (some adk) ks.length cb) ∧ w'.cell? (adk.add j) = some (.string key) ∧ w'.cell? ⟨wr.heap.size, 0, none⟩ = some (.int .i64 x.kind) ∧ w'.cell? ⟨wr.heap.size, 1, none⟩ = some (.int .i64 x.n) ∧ w'.cell? ⟨wr.heap.size, 2, none⟩ = some (.float .f64 x.f) ∧ w'.cell? ⟨wr.heap.size, 3, none⟩ = some (.string x.s) ∧ w'.cell? ⟨wr.heap.size, 4, none⟩ = some (.slice Ai x.l.length ci) ∧ w'.cell? ⟨wr.heap.size, 5, none⟩ = some (.slice Bi x.keys.length di)) (wr.alloc (valObj x Ai ci Bi di))) :=
        ⟨(hbelW.cell (p := ⟨w.heap.size, 5, none⟩) (by show w.heap.size < _; omega)).trans b5, (hbelW.cell (p := adk.add j) (by rw [hab]; omega)).trans hck2, cells_new wr _ _ 0, cells_new wr _ _ 1, cells_new wr _ _ 2, cells_new wr _ _ 3, cells_new wr _ _ 4, cells_new wr _ _ 5⟩
      have hS2 : Hid (∀ w2, Below (wr.heap.size + 1) (wr.alloc (valObj x Ai ci Bi di)) w2 → (fun w' => w'.cell? ⟨w.heap.size, 5, none⟩ = some (.slice (some adk) ks.length cb) ∧ w'.cell? (adk.add j) = some (.string key) ∧ w'.cell? ⟨wr.heap.size, 0, none⟩ = some (.int .i64 x.kind) ∧ w'.cell? ⟨wr.heap.size, 1, none⟩ = some (.int .i64 x.n) ∧ w'.cell? ⟨wr.heap.size, 2, none⟩ = some (.float .f64 x.f) ∧ w'.cell? ⟨wr.heap.size, 3, none⟩ = some (.string x.s) ∧ w'.cell? ⟨wr.heap.size, 4, none⟩ = some (.slice Ai x.l.length ci) ∧ w'.cell? ⟨wr.heap.size, 5, none⟩ = some (.slice Bi x.keys.length di)) w2) := fun w2 hb2 => by
        obtain ⟨s1, s2, s3, s4, s5, s6, s7, s8⟩ := hS1.out
        have h := fun (p : Addr) (hp : p.block < wr.heap.size + 1) => hb2.cell (p := p) hp
        exact ⟨(h _ (by show w.heap.size < _; omega)).trans s1, (h _ (by rw [hab]; omega)).trans s2, (h _ (by simp)).trans s3, (h _ (by simp)).trans s4, (h _ (by simp)).trans s5, (h _ (by simp)).trans s6, (h _ (by simp)).trans s7, (h _ (by simp)).trans s8⟩
      have hS5 : Hid (∀ w2 o, (fun w' => w'.cell? ⟨w.heap.size, 5, none⟩ = some (.slice (some adk) ks.length cb) ∧ w'.cell? (adk.add j) = some (.string key) ∧ w'.cell? ⟨wr.heap.size, 0, none⟩ = some (.int .i64 x.kind) ∧ w'.cell? ⟨wr.heap.size, 1, none⟩ = some (.int .i64 x.n) ∧ w'.cell? ⟨wr.heap.size, 2, none⟩ = some (.float .f64 x.f) ∧ w'.cell? ⟨wr.heap.size, 3, none⟩ = some (.string x.s) ∧ w'.cell? ⟨wr.heap.size, 4, none⟩ = some (.slice Ai x.l.length ci) ∧ w'.cell? ⟨wr.heap.size, 5, none⟩ = some (.slice Bi x.keys.length di)) w2 → (fun w' => w'.cell? ⟨w.heap.size, 5, none⟩ = some (.slice (some adk) ks.length cb) ∧ w'.cell? (adk.add j) = some (.string key) ∧ w'.cell? ⟨wr.heap.size, 0, none⟩ = some (.int .i64 x.kind) ∧ w'.cell? ⟨wr.heap.size, 1, none⟩ = some (.int .i64 x.n) ∧ w'.cell? ⟨wr.heap.size, 2, none⟩ = some (.float .f64 x.f) ∧ w'.cell? ⟨wr.heap.size, 3, none⟩ = some (.string x.s) ∧ w'.cell? ⟨wr.heap.size, 4, none⟩ = some (.slice Ai x.l.length ci) ∧ w'.cell? ⟨wr.heap.size, 5, none⟩ = some (.slice Bi x.keys.length di)) (Go.ChangeMaps.setBlock w2 (w.heap.size + 1) o)) := fun w2 o h => by
        obtain ⟨s1, s2, s3, s4, s5, s6, s7, s8⟩ := h
        have h := fun (p : Addr) (hp : p.block ≠ w.heap.size + 1) => cell_same (w := w2) (w1 := Go.ChangeMaps.setBlock w2 (w.heap.size + 1) o) p (setBlock_far _ _ _ hp)
        exact ⟨(h _ (by show w.heap.size ≠ _; omega)).trans s1, (h _ (by rw [hab]; omega)).trans s2, (h _ (by show wr.heap.size ≠ _; omega)).trans s3, (h _ (by show wr.heap.size ≠ _; omega)).trans s4, (h _ (by show wr.heap.size ≠ _; omega)).trans s5, (h _ (by show wr.heap.size ≠ _; omega)).trans s6, (h _ (by show wr.heap.size ≠ _; omega)).trans s7, (h _ (by show wr.heap.size ≠ _; omega)).trans s8⟩
      have hcall := Lib.hid (H.out x hxm.out Ai Bi ci di (wr.alloc (valObj x Ai ci Bi di)).drew hbx ((hBx.bel hbelW).move (fun _ _ => rfl)) ((hAx.bel hbelW).move (fun _ _ => rfl)))
      clear b0 b1 b2 b3 b4 b5 e0 e1 e2 e3 e4 e5 hck2 hab hbelW hbw hBx hAx hbx
      go_region_held3 (fun w' => w'.cell? ⟨w.heap.size, 5, none⟩ = some (.slice (some adk) ks.length cb) ∧ w'.cell? (adk.add j) = some (.string key) ∧ w'.cell? ⟨wr.heap.size, 0, none⟩ = some (.int .i64 x.kind) ∧ w'.cell? ⟨wr.heap.size, 1, none⟩ = some (.int .i64 x.n) ∧ w'.cell? ⟨wr.heap.size, 2, none⟩ = some (.float .f64 x.f) ∧ w'.cell? ⟨wr.heap.size, 3, none⟩ = some (.string x.s) ∧ w'.cell? ⟨wr.heap.size, 4, none⟩ = some (.slice Ai x.l.length ci) ∧ w'.cell? ⟨wr.heap.size, 5, none⟩ = some (.slice Bi x.keys.length di)) (first | exact hS1.out | exact hS4.out | go_keep)
        (first | (go_at_call 18; refine hcall.out.mono ?_; rintro e w2 ⟨y, rfl, hp, hb2⟩; have hb3 := below_undrew hb2; have hsz2 := hb3.size; have hS3 := hS2.out w2 (hb3.mono (by simp)); have hst := obj_step (hb3.mono (by simp)) (below_alloc _ _) hm.out hks.out hd'.out hkey'.out hk.out hx'.out (hp.mono (by simp) (Nat.le_refl _)) hs1 (by simpa using hsz2); obtain ⟨o, hrun, hm3, hks3, hk3⟩ := hst; have hS4 := Lib.hid (hS5.out w2 o hS3)))
      have hbel3 := below_setBlock (hbel.trans (((below_alloc wr (valObj x Ai ci Bi di)).trans (hb3.mono (by simp))).mono (by omega))) (Nat.le_refl (w.heap.size + 1)) o
      have hs3 : w.heap.size + 2 ≤ (Go.ChangeMaps.setBlock w2 (w.heap.size + 1) o).heap.size := by rw [setBlock_size]; simp at hsz2; omega
      have hm3' := Lib.hid hm3
      have hks3' := Lib.hid hks3
      have hk3' := Lib.hid hk3
      clear hm3 hks3 hk3 hrun hS3 hp hb2 hb3 hbel hm hks hk
      go_wp2_with fail
      go_roundw
      case rel => exact ⟨j + 1, ps ++ [(key, y)], by omega, by go_num, hm3', hks3', hk3', hbel3, hs3⟩
      case measure => simp [intOf]; omega
    · obtain rfl : j = l.length := by omega
      have hfin : Hid (PT wr w.heap.size wr.heap.size ⟨8, n, f, s, l, ks⟩ (.iface 65 (.map (some (w.heap.size + 1))))) := by
        have hk2 := hk.out
        have hks2 := hks.out
        rw [List.take_length] at hk2
        rw [← hlen'.out, List.take_length] at hks2
        exact PT.of_map (v := ⟨8, n, f, s, l, ks⟩) rfl (by omega) hk2 hm.out hks2
      clear hm hk hks hA hB
      go_wp2_with fail
      go_ret
      exact ⟨_, rfl, hfin.out, hbw⟩

theorem plain_any (v : V) : v.Ok → v.wt ≤ 1000000 → PlainAt v := by
  induction v using V.ind with
  | h v ih =>
  intro hok hwt ok A B ca cb w hb hB hA
  have hkids : ∀ x ∈ v.l, PlainAt x := fun x hx => ih x hx (hok.kids x hx) (by have := wt_kid hx; omega)
  have hlm : v.l.length ≤ 1000000 := by have := wt_len v; omega
  clear ih
  obtain ⟨k, n, f, s, l, ks⟩ := v
  cases hok with
  | null _ h => exact plain_leaf k n f s l ks A B ca cb w (Or.inl h)
  | bool _ h hn => exact plain_leaf k n f s l ks A B ca cb w (Or.inr (Or.inl h))
  | int _ h => exact plain_leaf k n f s l ks A B ca cb w (Or.inr (Or.inr (Or.inl h)))
  | float _ h hn => exact plain_leaf k n f s l ks A B ca cb w (Or.inr (Or.inr (Or.inr (Or.inl h))))
  | str _ h => exact plain_leaf k n f s l ks A B ca cb w (Or.inr (Or.inr (Or.inr (Or.inr h))))
  | arr _ h =>
    obtain rfl : k = 7 := h
    exact plain_arr n f s l ks hkids hlm A B ca cb w hA
  | obj _ h hlen hd =>
    obtain rfl : k = 8 := h
    exact plain_obj n f s l ks hkids hlm hlen hd A B ca cb w hB hA
end Go.Proofs.YthagnngckegekaaGreatDoor
