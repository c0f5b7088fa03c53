/-
  alt.zzIndex, alt.zzSplit at a full stop. Conditions: none.
-/
import Derived.Test.YtpdcoipfpffhnaaSlc
import Derived.Test.YtpdcoipfpffhnaaWhole
import Derived.OwnWalk
import Derived.Maps.AppendAt
import Derived.WalkSpells
import Derived.Outline
namespace Go.Proofs.Ytpdcoipfpffhnaa
open Go.ChangeShapes Go.WideShapes Go.ChangeAt Go.RowKit
set_option linter.unusedVariables false

theorem below_alloc' (w : World) (o : Obj) : Below w.heap.size w (w.alloc o) := (Below.refl _ _).alloc (Nat.le_refl _) _
/-- No full stop stands in a text. -/
def NoDot (s : ByteArray) : Prop := ∀ (i : Nat) (b : UInt8), s.data.toList[i]? = some b → b ≠ 46
def NoDotTo (s : ByteArray) (k : Nat) : Prop := ∀ (j : Nat) (b : UInt8), j < k → s.data.toList[j]? = some b → b ≠ 46
def DotAt (s : ByteArray) (w : World) (e : Ending) (w' : World) : Prop :=
  ∃ r : Int, e = .returned (.int .i64 r) ∧ ((r = -1 ∧ NoDot s) ∨ ∃ i : Nat, r = i ∧ s.data.toList[i]? = some 46 ∧ NoDotTo s i) ∧ w = w'

theorem extract_one (s : ByteArray) {k : Nat} {b : UInt8} (hb : s.data.toList[k]? = some b) : (s.extract k (k + 1)).data.toList = [b] := by
  have h1 : k < s.data.toList.length := (List.getElem?_eq_some_iff.1 hb).1
  rw [Lib.extract_data]
  have : (s.data.toList.drop k).take (k + 1 - k) = [b] := by
    rw [show k + 1 - k = 1 by omega, List.drop_eq_getElem_cons h1, List.take_succ_cons, List.take_zero]
    rw [(List.getElem?_eq_some_iff.1 hb).2]
  exact this

set_option maxHeartbeats 1000000 in
theorem zzIndex_any (s : ByteArray) (w : World) (hs : s.size ≤ 1000000) :
    Calls Try.prog 94 #[.string s, .string ⟨#[46]⟩] w (DotAt s w) := by
  have hL' : Hid (s.data.toList.length = s.size) := data_size s
  go_enter Try.func94, Try.ntmps94
  go_wp2_with fail
  go_loop [5] (fun i => ∃ k : Nat, k ≤ s.size ∧ i = .int .i64 k ∧ NoDotTo s k) (fun i => s.size - (intOf i).toNat)
  case atStart => exact ⟨0, Nat.zero_le _, rfl, fun j b h => by omega⟩
  case round =>
    obtain ⟨k, hk, rfl, hg⟩ := hrel
    by_cases hlt : k + 1 ≤ s.size
    · obtain ⟨b, hb⟩ : ∃ b, s.data.toList[k]? = some b := get_lt (by rw [hL'.out]; omega)
      have hex := extract_one s hb
      have hb' := Lib.hid hb
      clear hb
      by_cases h46 : b = 46
      · have hx : ((s.extract k (k + 1)).toList == [46]) = true := by
          rw [ByteArray.toList_eq, hex, h46]; rfl
        have h46' := Lib.hid h46
        clear h46 hex
        go_wp2_with fail
        go_ret
        exact ⟨_, rfl, Or.inr ⟨k, rfl, by rw [← h46'.out]; exact hb'.out, hg⟩, rfl⟩
      · have hx : ((s.extract k (k + 1)).toList == [46]) = false := by
          rw [ByteArray.toList_eq, hex, beq_eq_false_iff_ne]; intro e; exact h46 (by simpa using e)
        have hg' : NoDotTo s (k + 1) := fun j c hj hc => by
          by_cases hjk : j < k
          · exact hg j c hjk hc
          · obtain rfl : j = k := by omega
            obtain rfl := Option.some.inj (hb'.out.symm.trans hc)
            exact h46
        have h46' := Lib.hid h46
        clear h46 hex
        go_wp2_with fail
        go_round
        case rel => exact ⟨k + 1, by omega, by go_num, hg'⟩
        case measure => simp [intOf]; omega
    · have hfin : NoDot s := fun i b hb => hg i b (by have := (List.getElem?_eq_some_iff.1 hb).1; rw [hL'.out] at this; omega) hb
      go_wp2_with fail
      go_ret
      exact ⟨_, rfl, Or.inl ⟨rfl, hfin⟩, rfl⟩

theorem info_str : (Try.prog.info? 9).map (fun i => (i.zero, i.size, i.bytes)) = some (some (.string ⟨#[]⟩), 1, 16) := by kernel_rfl
theorem news_one (w : World) (s : ByteArray) (t : TypeId) : ∀ j u, ([.string s] : List Value)[j]? = some u → (w.alloc (.cells #[.string s] t)).cell? ((⟨w.heap.size, 0, none⟩ : Addr).add j) = some u := cell_one_new _ _ _

set_option maxHeartbeats 1000000 in
theorem split_one (s : ByteArray) (w : World) (hs : s.size ≤ 1000000) (hd : NoDot s) :
    Calls Try.prog 78 #[.string s, .string ⟨#[46]⟩] w (SomeOwn (fun ys => ys = [s]) w) := by
  obtain ⟨i0, hi, hz0, hz1, hz2⟩ := info_parts info_str
  have hd' := Lib.hid hd
  clear hd
  go_enter Try.func78, Try.ntmps78
  go_wp2_with fail
  refine wp_loop_rounds 1 ?_
  rw [rounds_succ]
  go_wp2_with fail
  refine (zzIndex_any s w hs).mono ?_
  rintro e w1 ⟨r, rfl, hr, rfl⟩
  have hr1 : r = -1 := by
    rcases hr with ⟨h, _⟩ | ⟨i, _, h46, _⟩
    · exact h
    · exact absurd rfl (hd'.out i 46 h46)
  subst hr1
  clear hr
  go_wp2_with (at_builtin; refine wpList_append_own_at _ rfl _ _ 24 rfl w.heap.size 9 i0 (.string ⟨#[]⟩) 1 16 Try.underlying24 hi hz0 hz1 hz2 rfl (by decide) (.slice none 0 0) 0 [] rfl (World.ownsRow_nil _ _ _ _) ⟨w.heap.size, 0, none⟩ 1 1 [.string s] rfl rfl ?c1 ?c2 ?c3 ?c4 ?c5 ?_)
  case c1 => exact cell_one_new _ _ _
  case c2 => intro u hu; rw [List.mem_singleton.1 hu]; rfl
  case c3 => unfold maxLen; omega
  case c4 => omega
  case c5 => simp
  intro v' w' hown' hgr hne hat
  obtain ⟨gx, cx, hvx, -⟩ := hown'.form (by omega)
  subst hvx
  have hbel : Below w.heap.size w w' := (below_alloc' w _).grown hgr (by simp) (fun k hk => by simp [Value.ownBlock] at hk)
  have hown2 : Hid (Own w' w.heap.size (.slice (some ⟨gx, 0, none⟩) 1 cx) [s]) := hown'
  clear hown' hgr hne hat
  go_wp2_with fail
  go_ret
  exact ⟨_, _, rfl, rfl, hown2.out, hbel⟩

/-- Two texts with a full stop between them. -/
def dotted (a b : ByteArray) : ByteArray := ⟨(a.data.toList ++ 46 :: b.data.toList).toArray⟩
theorem dotted_list (a b : ByteArray) : (dotted a b).data.toList = a.data.toList ++ 46 :: b.data.toList := by simp [dotted]
theorem dotted_size (a b : ByteArray) : (dotted a b).size = a.size + 1 + b.size := by
  rw [← data_size, dotted_list, List.length_append, List.length_cons, data_size, data_size]; omega
theorem ext_list {a b : ByteArray} (h : a.data.toList = b.data.toList) : a = b := by
  cases a; cases b
  congr 1
  exact Array.toList_inj.1 h
theorem dotted_left (a b : ByteArray) : (dotted a b).extract 0 a.size = a := by
  apply ext_list
  rw [Lib.extract_data, dotted_list, List.drop_zero, Nat.sub_zero, ← data_size, List.take_left]
theorem dotted_right (a b : ByteArray) : (dotted a b).extract (a.size + 1) (dotted a b).size = b := by
  apply ext_list
  rw [Lib.extract_data, dotted_list, dotted_size, ← data_size a]
  have h1 : (a.data.toList ++ 46 :: b.data.toList).drop (a.data.toList.length + 1) = b.data.toList := by
    rw [List.drop_append]
    simp
  rw [h1, List.take_of_length_le (by rw [data_size]; omega)]

set_option maxRecDepth 100000 in
set_option maxHeartbeats 2000000 in
theorem split_two (a b : ByteArray) (w : World) (ha : a.size ≤ 1000) (hb : b.size ≤ 1000) (hda : NoDot a) (hdb : NoDot b) :
    Calls Try.prog 78 #[.string (dotted a b), .string ⟨#[46]⟩] w (SomeOwn (fun ys => ys = [a, b]) w) := by
  obtain ⟨i0, hi, hz0, hz1, hz2⟩ := info_parts info_str
  have hda' := Lib.hid hda
  have hdb' := Lib.hid hdb
  have hsz := dotted_size a b
  have hll := Lib.hid (dotted_list a b)
  have hsz' : (dotted a b).size ≤ 1000000 := by omega
  have hsz1 : a.size + 1 ≤ (dotted a b).size := by omega
  have hL := Lib.hid (dotted_left a b)
  have hR := Lib.hid (dotted_right a b)
  generalize dotted a b = s at *
  clear hda hdb hsz
  go_enter Try.func78, Try.ntmps78
  go_wp2_with fail
  refine wp_loop_rounds 2 ?_
  rw [rounds_succ]
  go_wp2_with fail
  refine (zzIndex_any s w hsz').mono ?_
  rintro e w1 ⟨r, rfl, hr, hw⟩
  have hr1 : r = (a.size : Int) := by
    have h1 : s.data.toList[a.size]? = some 46 := by rw [hll.out, ← data_size, List.getElem?_append_right (Nat.le_refl _)]; simp
    rcases hr with ⟨h, hn⟩ | ⟨i, rfl, h46, hn⟩
    · exact absurd rfl (hn a.size 46 h1)
    · by_cases hia : i < a.size
      · have h2 : a.data.toList[i]? = some 46 := by rw [hll.out, List.getElem?_append_left (by rw [data_size]; exact hia)] at h46; exact h46
        exact absurd rfl (hda'.out i 46 h2)
      · by_cases hai : a.size < i
        · exact absurd rfl (hn a.size 46 hai h1)
        · have : i = a.size := by omega
          rw [this]
  subst hr1
  clear hr
  subst w1
  have hr0 : ¬ ((a.size : Int) < 0) := by omega
  have hs0 : (a.size : Int) ≤ (s.size : Int) := by omega
  have hx1 := hL.out
  go_wp2_with (at_builtin; refine wpList_append_own_at _ rfl _ _ 24 rfl w.heap.size 9 i0 (.string ⟨#[]⟩) 1 16 Try.underlying24 hi hz0 hz1 hz2 rfl (by decide) (.slice none 0 0) 0 [] rfl (World.ownsRow_nil _ _ _ _) ⟨w.heap.size, 0, none⟩ 1 1 [.string a] rfl rfl ?c1 ?c2 ?c3 ?c4 ?c5 ?_)
  case c1 => exact cell_one_new _ _ _
  case c2 => intro u hu; rw [List.mem_singleton.1 hu]; rfl
  case c3 => unfold maxLen; omega
  case c4 => omega
  case c5 => simp
  intro v1 w2 hown1 hgr1 hne1 hat1
  obtain ⟨g1, c1, hvx, -⟩ := hown1.form (by omega)
  subst hvx
  have hbel1 : Below w.heap.size w w2 := (below_alloc' w _).grown hgr1 (by simp) (fun k hk => by simp [Value.ownBlock] at hk)
  have hown1' : Hid (w2.ownsRow w.heap.size 9 1 (.slice (some ⟨g1, 0, none⟩) 1 c1) 1 [.string a]) := hown1
  have hg1 := (hown1.lt g1 rfl)
  clear hown1 hgr1 hne1 hat1 hx1
  have hx2 := hR.out
  go_wp2_with fail
  clear hx2
  rw [rounds_succ]
  go_wp2_with fail
  refine (zzIndex_any b w2 (by omega)).mono ?_
  rintro e w3 ⟨r, rfl, hr, hw⟩
  have hr1 : r = -1 := by
    rcases hr with ⟨h, _⟩ | ⟨i, _, h46, _⟩
    · exact h
    · exact absurd rfl (hdb'.out i 46 h46)
  subst hr1
  clear hr
  subst w3
  go_wp2_with (at_builtin; refine wpList_append_own_at _ rfl _ _ 24 rfl w.heap.size 9 i0 (.string ⟨#[]⟩) 1 16 Try.underlying24 hi hz0 hz1 hz2 rfl (by decide) (.slice (some ⟨g1, 0, none⟩) 1 c1) 1 [.string a] rfl (hown1'.out.alloc _) ⟨w2.heap.size, 0, none⟩ 1 1 [.string b] rfl rfl ?c1 ?c2 ?c3 ?c4 ?c5 ?_)
  case c1 => exact cell_one_new _ _ _
  case c2 => intro u hu; rw [List.mem_singleton.1 hu]; rfl
  case c3 => unfold maxLen; omega
  case c4 => omega
  case c5 => simp; omega
  intro v' w' hown' hgr hne hat
  obtain ⟨gx, cx, hvx, -⟩ := hown'.form (by omega)
  subst hvx
  have hbel : Below w.heap.size w w' := (hbel1.trans ((below_alloc' w2 _).mono hbel1.size)).grown hgr (by simp; omega) (fun k hk => by simp [Value.ownBlock] at hk; omega)
  have hown2 : Hid (Own w' w.heap.size (.slice (some ⟨gx, 0, none⟩) 2 cx) [a, b]) := hown'
  clear hown' hgr hne hat hown1'
  go_wp2_with fail
  go_ret
  exact ⟨_, _, rfl, rfl, hown2.out, hbel⟩
end Go.Proofs.Ytpdcoipfpffhnaa
