/-
  Discover's callback: the bytes that it is handed are appended as a string. Conditions: none.
-/
import Derived.Test.YtlebdceidmkddaaWays
import Derived.Maps.AppendAt
import Derived.OwnWalk
import Derived.Deep.AppendLies
namespace Go.Proofs.Ytlebdceidmkddaa
open Go.ChangeShapes Go.WideShapes Go.ChangeAt Go.RowKit
set_option linter.unusedVariables false

def strVals (xs : List ByteArray) : List Value := xs.map .string
theorem strVals_len (xs : List ByteArray) : (strVals xs).length = xs.length := by simp [strVals]

/-- What the callback leaves: the list at block g is longer by one text. -/
def Called (g base : Nat) (lv : Value) (xs : List ByteArray) (s : ByteArray) (w : World) (e : Ending) (w' : World) : Prop :=
  ∃ v, e = .returned (.tuple #[.bool false, .bool false]) ∧ w'.heap[g]? = some (.cells #[v] 23 (0, 0)) ∧ w'.ownsRow base 9 1 v (xs.length + 1) (strVals xs ++ [.string s]) ∧
    (v.ownBlock = lv.ownBlock ∨ ∃ k, v.ownBlock = some k ∧ w.heap.size ≤ k) ∧ w'.os = w.os ∧ w'.tape = w.tape ∧ w'.output = w.output ∧ w.heap.size ≤ w'.heap.size ∧ ∀ k, k < w.heap.size → k ≠ g → some k ≠ lv.ownBlock → w'.heap[k]? = w.heap[k]?

theorem info_str : (Try.prog.info? 9).map (fun i => (i.zero, i.size, i.bytes)) = some (some (.string ⟨#[]⟩), 1, 16) := by kernel_rfl

set_option maxHeartbeats 1000000 in
theorem cb_any (w : World) (A : Option Addr) (n c g gb base : Nat) (lv : Value) (xs : List ByteArray) (s : ByteArray)
    (hcv : (convert 24 9 (.slice A n c)).run Try.prog w = .ok (.string s) w)
    (hg : w.heap[g]? = some (.cells #[lv] 23 (0, 0))) (hb : w.heap[gb]? = some (.cells #[.bool false] 4 (0, 0)))
    (hown : w.ownsRow base 9 1 lv xs.length (strVals xs)) (hgl : some g ≠ lv.ownBlock) (hbl : some gb ≠ lv.ownBlock) (hgb : g ≠ gb) (hlen : xs.length ≤ 1000000) (hbase : base ≤ w.heap.size) :
    Calls Try.prog 20 #[.slice A n c, .pointer (some ⟨g, 0, none⟩), .pointer (some ⟨gb, 0, none⟩)] w (Called g base lv xs s w) := by
  have c0 := blk_cell hg 0
  have c1 := blk_cell hb 0
  have fr := blk_frozen hg 0
  have hlt := blk_lt hg
  have hltb := blk_lt hb
  simp only [List.getElem?_toArray, List.getElem?_cons_zero] at c0 c1
  go_enter Try.func20, Try.ntmps20
  obtain ⟨i0, hi, hz0, hz1, hz2⟩ := info_parts info_str
  go_wp2_with (at_builtin; refine wpList_append_own_at _ rfl _ _ 23 rfl base 9 i0 (.string ⟨#[]⟩) 1 16 Try.underlying23 hi hz0 hz1 hz2 rfl (by decide) lv xs.length (strVals xs) rfl (hown.alloc _) ⟨w.heap.size, 0, none⟩ 1 1 [.string s] rfl rfl ?c1 ?c2 ?c3 ?c4 ?c5 ?_)
  case c1 => exact cell_one_new _ _ _
  case c2 => intro u hu; rw [List.mem_singleton.1 hu]; rfl
  case c3 => unfold maxLen; omega
  case c4 => omega
  case c5 => simp; omega
  intro v' w' hown' hgr hne hat
  obtain ⟨gx, cx, hvx, -⟩ := hown'.form (by omega)
  subst hvx
  have hblk : ∀ k, k < w.heap.size → some k ≠ lv.ownBlock → w'.heap[k]? = w.heap[k]? := fun k hk hk2 => (hgr.block k (by simp; omega) hk2).trans (Below.heap_alloc _ _ _ hk)
  have hg' := (hblk g hlt hgl).trans hg
  have hb' := (hblk gb hltb hbl).trans hb
  have c0' := blk_cell hg' 0
  have c1' := blk_cell hb' 0
  have fr' := blk_frozen hg' 0
  simp only [List.getElem?_toArray, List.getElem?_cons_zero] at c0' c1'
  have hsz := hgr.size
  rw [alloc_size] at hsz
  have hne' := Lib.hid hne
  have hat' := Lib.hid hat
  have hown2 := Lib.hid hown'
  have hos := Lib.hid hgr.os
  have htp := Lib.hid hgr.tape
  have hou := Lib.hid hgr.output
  have hblk' := Lib.hid hblk
  clear hne hat hown' hblk hgr c0 c1 fr hcv hown
  go_wp2_with fail
  go_ret2
  refine ⟨_, rfl, blk_set hg' 0 _, ?_, ?_, hos.out, htp.out, hou.out, ?_, ?_⟩
  · refine hown2.out.kept (row := some g) ⟨rfl, rfl, rfl, by simp [World.setCell], fun k _ hk => Below.heap_setCell w' ⟨g, 0, none⟩ _ k (fun h => hk (by rw [h]))⟩ ?_
    rcases hat'.out with h | h
    · exact Or.inr (by rw [h]; exact fun h2 => hgl h2.symm)
    · exact Or.inr (by rw [h]; intro h2; injection h2 with h2; omega)
  · rcases hat'.out with h | h
    · exact Or.inl h
    · exact Or.inr ⟨_, h, by omega⟩
  · simp [World.setCell]; omega
  · intro k hk hkg hkl
    exact (Below.heap_setCell w' ⟨g, 0, none⟩ _ k hkg).trans (hblk'.out k hk hkl)
end Go.Proofs.Ytlebdceidmkddaa
