/-
  impl.keysOf, the closure that looks a key up. Conditions: none.
-/
import Derived.Test.YtpdcoipfpffhnaaGreatItems
import Derived.Test.YtpdcoipfpffhnaaGreatDeco2
namespace Go.Proofs.YtpdcoipfpffhnaaGreat
open Go.ChangeShapes Go.WideShapes Go.ChangeAt Go.RowKit
open Go.ChangeMaps (setBlock heap_setBlock_same heap_setBlock_other)
set_option linter.unusedVariables false
set_option linter.unusedSimpArgs false

theorem run_app_key (w : World) (kv : Value) (B : Nat) (ks : List ByteArray) (key : ByteArray) (ty : TypeId) (ho : Own w B kv ks) (hl : ks.length ≤ 1000000) (hB : B ≤ w.heap.size) :
    ∃ A' c' w3, (Builtin.append_ #[24, 24] ty #[kv, .slice (some ⟨w.heap.size, 0, none⟩) 1 1]).run Tryz.prog (w.alloc (.cells #[.string key] 9)) = .ok (.slice A' (ks.length + 1) c') w3 ∧ Own w3 B (.slice A' (ks.length + 1) c') (ks ++ [key]) ∧ Below B w w3 := by
  obtain ⟨i0, hi, hz0, hz1, hz2⟩ := info_parts info_strK5
  obtain ⟨v', w3, hr, h4, hgr, _, hown⟩ := run_append_own_at (P := Tryz.prog) (w.alloc (.cells #[.string key] 9)) B 24 ty 9 i0 (.string ⟨#[]⟩) 1 16 Tryz.underlying24 hi hz0 hz1 hz2 rfl (by decide) kv ks.length (strVs ks) (ho.alloc _) ⟨w.heap.size, 0, none⟩ 1 1 [.string key] rfl (fun j u hu => by
      have hj : j = 0 := by have := (List.getElem?_eq_some_iff.1 hu).1; simp at this; omega
      subst hj
      have h1 := cells_new w #[.string key] 9 0
      have h2 : Value.string key = u := by simpa using hu
      rw [← h2]
      exact h1) (fun u hu => by rw [List.mem_singleton.1 hu]; rfl) (by unfold maxLen; omega) (by omega) (by rw [alloc_size]; omega)
  obtain ⟨A', c', hv⟩ := row_slice h4
  subst hv
  refine ⟨A', c', w3, hr, ?_, ((Below.refl _ _).alloc hB _).grown hgr (by rw [alloc_size]; omega) (fun g hg => (ho.lt g hg).1)⟩
  have e1 : strVs (ks ++ [key]) = strVs ks ++ [.string key] := by simp [strVs]
  unfold Own
  rw [List.length_append, e1]
  exact h4

theorem nodup_le' (ks : List ByteArray) (es : Array MapEntry) (hn : ks.Nodup) (h : ∀ s ∈ ks, ∃ e ∈ es.toList, e.key = .string s) (hk : (es.toList.map (·.key)).Nodup) : ks.length ≤ es.size := by
  have : ∀ (ks : List ByteArray) (l : List Value), ks.Nodup → (∀ s ∈ ks, Value.string s ∈ l) → ks.length ≤ l.length := by
    intro ks
    induction ks with
    | nil => intro l _ _; simp
    | cons x r ih =>
      intro l hn hs
      obtain ⟨h1, h2⟩ := List.nodup_cons.1 hn
      obtain ⟨a, b, hab⟩ := List.append_of_mem (hs x (List.mem_cons_self ..))
      have := ih (a ++ b) h2 (fun s hs' => by
        have h3 := hs s (List.mem_cons_of_mem _ hs')
        rw [hab] at h3
        rcases List.mem_append.1 h3 with h4 | h4
        · exact List.mem_append_left _ h4
        · rcases List.mem_cons.1 h4 with h5 | h5
          · have h6 : s = x := by simpa using h5
            exact absurd (by rw [← h6]; exact hs') h1
          · exact List.mem_append_right _ h5)
      rw [hab]
      simp only [List.length_cons, List.length_append] at this ⊢
      omega
  have h1 := this ks (es.toList.map (·.key)) hn (fun s hs => by
    obtain ⟨e, he, hk⟩ := h s hs
    exact List.mem_map.2 ⟨e, he, hk⟩)
  simpa using h1

/-- The keys that have come up. -/
def KSt (w0 : World) (b : Nat) (es : Array MapEntry) (clock : Nat) (w : World) (seen : Array Nat) (A : Option Addr) (m c : Nat) : Prop := ∃ ks, ks.length = m ∧ Own w (w0.heap.size + 1) (.slice A m c) ks ∧ ks.Nodup ∧ ∀ s, s ∈ ks ↔ ∃ e ∈ es.toList, seen.contains e.born = true ∧ e.key = .string s
theorem KSt.step {w0 w W1 : World} {b : Nat} {es : Array MapEntry} {clock : Nat} {seen : Array Nat} {A : Option Addr} {m c : Nat} {x : MapEntry} {s : ByteArray} (h : KSt w0 b es clock w seen A m c) (hst : MapKept.Stamped es clock) (hsz : es.size ≤ 1000000) (hx : x ∈ es.toList) (hu : seen.contains x.born = false) (hxk : x.key = .string s) (hW : ∀ k, w0.heap.size + 1 ≤ k → W1.heap[k]? = w.heap[k]?) (hs1 : w0.heap.size + 1 ≤ W1.heap.size) (ty : TypeId) :
    ∃ A' c' w3, (Builtin.append_ #[24, 24] ty #[.slice A m c, .slice (some ⟨W1.heap.size, 0, none⟩) 1 1]).run Tryz.prog (W1.alloc (.cells #[.string s] 9)) = .ok (.slice A' (m + 1) c') w3 ∧ Hid (KSt w0 b es clock w3 (seen.push x.born) A' (m + 1) c') ∧ Below (w0.heap.size + 1) W1 w3 := by
  obtain ⟨ks, hl, ho, hn, hm⟩ := h
  have hle : ks.length ≤ es.size := by
    have h1 := nodup_le' ks es hn (fun s hs => by
      obtain ⟨e, he, _, hk⟩ := (hm s).1 hs
      exact ⟨e, he, hk⟩) hst.2.2
    exact h1
  obtain ⟨A', c', w3, hrun, ho3, hb3⟩ := run_app_key W1 (.slice A m c) (w0.heap.size + 1) ks s ty (row_same ho (fun g hg => hW g (ho.lt g hg).1)) (by omega) hs1
  rw [hl] at hrun ho3
  refine ⟨A', c', w3, hrun, ⟨ks ++ [s], by simp [hl], ho3, ?_, fun t => ?_⟩, hb3⟩
  · refine List.nodup_append.2 ⟨hn, by simp, fun a ha b hb e => ?_⟩
    obtain rfl := List.mem_singleton.1 hb
    rw [e] at ha
    obtain ⟨e2, he2, hs2, hk2⟩ := (hm b).1 ha
    have hkk : x.key = e2.key := hxk.trans hk2.symm
    have hxe : x = e2 := by
      obtain ⟨i, hi⟩ := List.getElem?_of_mem hx
      obtain ⟨j, hj⟩ := List.getElem?_of_mem he2
      have hi2 : (es.toList.map (·.key))[i]? = some x.key := by rw [List.getElem?_map, hi]; rfl
      have hj2 : (es.toList.map (·.key))[j]? = some x.key := by rw [List.getElem?_map, hj, hkk]; rfl
      have : i = j := (List.getElem?_inj (by simpa using (List.getElem?_eq_some_iff.1 hi).1) hst.2.2).1 (hi2.trans hj2.symm)
      subst this
      exact Option.some.inj (hi.symm.trans hj)
    rw [hxe, hs2] at hu
    cases hu
  · rw [List.mem_append, hm t, List.mem_singleton]
    constructor
    · rintro (⟨e, he, h1, h2⟩ | rfl)
      · exact ⟨e, he, seen_more h1, h2⟩
      · exact ⟨x, hx, seen_self _ _, hxk⟩
    · rintro ⟨e, he, h1, h2⟩
      rw [contains_push] at h1
      cases hc : seen.contains e.born with
      | true => exact Or.inl ⟨e, he, hc, h2⟩
      | false =>
        rw [hc] at h1
        simp only [Bool.false_or, beq_iff_eq] at h1
        have := born_inj hst.2.1 he hx h1
        subst this
        right
        have h3 := h2.symm.trans hxk
        simpa using h3

def KeysPost (ps : List (ByteArray × Value)) (w : World) (e : Ending) (w' : World) : Prop := ∃ A c ks, e = .returned (.slice A ks.length c) ∧ Own w' w.heap.size (.slice A ks.length c) ks ∧ ks.Nodup ∧ (∀ s, s ∈ ks ↔ s ∈ ps.map (·.1)) ∧ Below w.heap.size w w'

set_option maxHeartbeats 4000000 in
theorem keysOf_any (b : Nat) (es : Array MapEntry) (clock : Nat) (ps : List (ByteArray × Value)) (w : World) (hb : w.heap[b]? = some (.map es clock)) (hst : MapKept.Stamped es clock) (he : Ents ps es) (hsz : es.size ≤ 1000000) :
    Calls Tryz.prog 36 #[.map (some b)] w (KeysPost ps w) := by
  have hblt : b < w.heap.size := (Array.getElem?_eq_some_iff.1 hb).1
  have hb1 := Lib.hid hb
  have hst1 := Lib.hid hst
  have he1 := Lib.hid he
  have hsz1 := Lib.hid hsz
  clear hb hst he hsz
  go_enter Tryz.func36, Tryz.ntmps36
  go_wp2_with (at_range; refine wpList_range_str _ rfl _ 67 rfl _ _ Tryz.underlying67 b es clock rfl hb1.out ?_)
  go_frame
  go_loopw [3] (fun o wr => ∃ (seen : Array Nat) (c0 : Nat) (A : Option Addr) (m c : Nat), o = .slice A m c ∧ Hid (wr.heap[w.heap.size]? = some (.mapIter (some b) clock seen c0)) ∧ clock ≤ c0 ∧ Hid (KSt w b es clock wr seen A m c) ∧ Below w.heap.size w wr) (fun _ wr => (leftOf es (wr.iterSeen w.heap.size)).size)
  case atStart => exact ⟨#[], clock, none, 0, 0, rfl, heap_alloc_new _ _, Nat.le_refl _, ⟨[], rfl, World.ownsRow_nil _ _ _ _, List.nodup_nil, fun s => ⟨fun h => by simp at h, fun ⟨e, _, h, _⟩ => by simp at h⟩⟩, below_alloc _ _⟩
  case round =>
    obtain ⟨seen, c0, A, m, c, rfl, hr, hc0, hks, hbel⟩ := hrel
    have hbr : Hid (wr.heap[b]? = some (.map es clock)) := (hbel.block b hblt).trans hb1.out
    have hold : Hid (∀ x ∈ es.toList, x.born < clock) := hst1.out.1
    go_wp2_with (at_next; refine wpList_next_str _ rfl _ rfl w.heap.size b clock c0 seen es clock ps rfl hr.out hbr.out hold.out hc0 he1.out ?_ ?_)
    · intro h0
      have hfin : Hid (KeysPost ps w (.returned (.slice A m c)) wr) := by
        obtain ⟨ks, hl, ho, hn, hm⟩ := hks.out
        refine ⟨A, c, ks, by rw [hl], by rw [hl]; exact World.ownsRow_le' ho (by omega), hn, fun s => ?_, hbel⟩
        rw [hm s]
        constructor
        · rintro ⟨e, he, _, hk⟩
          obtain ⟨p, hp, e1, _⟩ := he1.out.mem he
          rw [hk] at e1
          have e2 : s = p.1 := by simpa using e1
          exact List.mem_map.2 ⟨p, hp, e2.symm⟩
        · intro hs
          obtain ⟨p, hp, rfl⟩ := List.mem_map.1 hs
          obtain ⟨e, he, e1, _⟩ := he1.out.mem' hp
          exact ⟨e, he, all_seen es seen (by simpa using h0) e he, e1⟩
      clear h0 hks
      go_wp2_with fail
      go_ret
      exact hfin.out
    · intro x s y w1 hx0 hsv hxk hxv hw1
      have hx : x ∈ (leftOf es seen).toList := by simpa using hx0
      clear hx0
      have hnw := next_world (clock := clock) (born := x.born) hr.out hw1 hbel (Nat.le_refl _)
      have hfar : ∀ k, k ≠ w.heap.size → (setBlock w1 w.heap.size (.mapIter (some b) clock (seen.push x.born) clock)).heap[k]? = wr.heap[k]? := fun k hk => (setBlock_far _ _ _ hk).trans (by rcases hw1 with rfl | rfl <;> rfl)
      have hsh := Lib.hid (left_shrinks es seen x hx)
      have hxm := Lib.hid (mem_left hx)
      have hsn := Lib.hid (iterSeen_of hr.out)
      clear hr hbr
      generalize setBlock w1 w.heap.size (.mapIter (some b) clock (seen.push x.born) clock) = W1 at hnw hfar ⊢
      obtain ⟨hr1, hbelW⟩ := hnw
      have hb3 : Hid (W1.heap[b]? = some (.map es clock)) := (hbelW.block b hblt).trans hb1.out
      have hen : (Instr.entry (.pointer (some ⟨w.heap.size, 0, none⟩))).run Tryz.prog W1 = .ok (.tuple #[.string s, y]) W1 := by
        rw [← hxk, ← hxv]
        exact run_entry_at W1 w.heap.size b clock seen es clock x hr1 hb3.out hxm.out.1 hst1.out.2.1
      have hlt1 : w.heap.size < W1.heap.size := (Array.getElem?_eq_some_iff.1 hr1).1
      obtain ⟨A3, c3, w3, hrun0, hks3, hb4⟩ := hks.out.step hst1.out hsz1.out hxm.out.1 hxm.out.2 hxk (fun k hk => hfar k (by omega)) (by omega) 24
      have hrun := Lib.hid hrun0
      have hr3 : Hid (w3.heap[w.heap.size]? = some (.mapIter (some b) clock (seen.push x.born) clock)) := (hb4.block _ (by omega)).trans hr1
      have hbel3 := hbelW.trans (hb4.mono (by omega))
      clear hr1 hx hsv hxk hxv hw1 hbel hks hfar hrun0 hb4 hbelW
      go_wp2_with (at_builtin; refine wpList_append_is rfl (.tmp 11) (.tmp 13) 24 rfl (.slice A m c) (.slice (some ⟨W1.heap.size, 0, none⟩) 1 1) rfl rfl (.slice A3 (m + 1) c3) w3 hrun.out ?_)
      go_roundw
      case rel => exact ⟨_, clock, A3, m + 1, c3, rfl, hr3, Nat.le_refl _, hks3, hbel3⟩
      case measure => rw [iterSeen_of hr3.out, hsn.out]; exact hsh.out

/-- The closure. -/
theorem look_any (s : ByteArray) (bb b : Nat) (y : Value) (ps : List (ByteArray × Value)) (w : World) (hc : w.cell? ⟨bb, 0, none⟩ = some (.map (some b))) (hm : HasMap w b ps) (hp : (s, y) ∈ ps) (hform : y = .nilIface ∨ ∃ t u, y = .iface t u) :
    Calls Tryz.prog 37 #[.string s, .pointer (some ⟨bb, 0, none⟩)] w fun e w' => e = .returned y ∧ w = w' := by
  have hl := lookup_has (P := Tryz.prog) Tryz.underlying67 Tryz.underlying9 hm hp
  clear hm hp
  go_enter Tryz.func37, Tryz.ntmps37
  go_wp2_with fail
  go_ret
  exact ⟨rfl, rfl⟩
end Go.Proofs.YtpdcoipfpffhnaaGreat
