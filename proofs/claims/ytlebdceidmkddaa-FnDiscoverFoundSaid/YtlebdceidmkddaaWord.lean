/-
  word: a string between quotation marks. Conditions: none.
-/
import Derived.Test.YtlebdceidmkddaaLetter
import Derived.Test.YtlebdceidmkddaaData
namespace Go.Proofs.Ytlebdceidmkddaa
open Go.ChangeShapes Go.WideShapes Go.ChangeAt Go.RowKit
set_option linter.unusedVariables false

/-- A string's iterator moved on. -/
def iterTo (w : World) (r : Nat) (s : ByteArray) (p : Nat) : World := { w with heap := w.heap.setIfInBounds r (.stringIter s p) }
theorem iterTo_size (w : World) (r : Nat) (s : ByteArray) (p : Nat) : (iterTo w r s p).heap.size = w.heap.size := by simp [iterTo]
theorem iterTo_ne (w : World) (r : Nat) (s : ByteArray) (p k : Nat) (h : k ≠ r) : (iterTo w r s p).heap[k]? = w.heap[k]? := by
  simp only [iterTo, Array.getElem?_setIfInBounds]
  rw [if_neg (by omega)]
theorem iterTo_eq {w : World} {r : Nat} (s : ByteArray) (p : Nat) (h : r < w.heap.size) : (iterTo w r s p).heap[r]? = some (.stringIter s p) := by
  simp only [iterTo, Array.getElem?_setIfInBounds]
  simp [h]
theorem run_next_at {P : Program} {w : World} {r : Nat} {s : ByteArray} {pos : Nat} (hr : w.heap[r]? = some (.stringIter s pos)) (h : pos < s.size) (ty : TypeId) :
    (Instr.next (.pointer (some ⟨r, 0, none⟩)) true ty).run P w = .ok (.tuple #[.bool true, .int .i64 pos, .int .i32 (Utf8.decode s pos).1]) (iterTo w r s (pos + (Utf8.decode s pos).2)) := by
  simp only [Instr.next, getObj, setObj, Sem.run_bind, Sem.run, hr, Result.andThen, h, if_true]
  simp [goInt, iterTo]
theorem run_next_over {P : Program} {w : World} {r : Nat} {s : ByteArray} {pos : Nat} (hr : w.heap[r]? = some (.stringIter s pos)) (h : ¬ pos < s.size) (ty : TypeId) :
    (Instr.next (.pointer (some ⟨r, 0, none⟩)) true ty).run P w = .ok (.tuple #[.bool false]) w := by
  simp [Instr.next, getObj, Sem.run, hr, h]
/-- Where the iterator of a world stands. -/
def posAt (r : Nat) (w : World) : Nat := match w.heap[r]? with | some (.stringIter _ p) => p | _ => 0
theorem posAt_eq {w : World} {r : Nat} {s : ByteArray} {p : Nat} (h : w.heap[r]? = some (.stringIter s p)) : posAt r w = p := by simp [posAt, h]

theorem width_le (s : ByteArray) (pos : Nat) (h : pos < s.size) : pos + (Utf8.decode s pos).2 ≤ s.size := by
  simp only [Utf8.decode]
  repeat' split
  all_goals simp_all
  all_goals omega

/-- What stands between the quotation marks. -/
def Body (l : List UInt8) : Prop := 92 ∈ l ∨ ∀ b ∈ l, 32 ≤ b.toNat ∧ b.toNat ≠ 34
def Word (m : Nat) (l : List UInt8) : Prop := ∃ body, l = 34 :: (body ++ [34]) ∧ Body body ∧ body.length ≤ m
theorem body_append {a b : List UInt8} (ha : Body a) (hb : Body b) : Body (a ++ b) := by
  rcases ha with ha | ha
  · exact Or.inl (List.mem_append_left _ ha)
  rcases hb with hb | hb
  · exact Or.inl (List.mem_append_right _ hb)
  · exact Or.inr (fun x hx => by rcases List.mem_append.1 hx with hx | hx; exact ha x hx; exact hb x hx)

set_option maxHeartbeats 2000000 in
theorem word_any (w : World) (g : Nat) (A : Option Addr) (n k : Nat) (p : Int) (s : ByteArray) (h : Ways w g A n k p) (hp : p ≤ 4611686018000000000) (hs : s.size ≤ 1000000) :
    Calls Try.prog 18 #[.pointer (some ⟨g, 0, none⟩), .string s] w (Moved (IsStr (Word (6 * s.size))) g A n k p (5 * s.size) w) := by
  go_enter Try.func18, Try.ntmps18
  go_wp2_with fail
  have hg := blk_lt h.blk
  go_loopw [5] (fun o wr => ∃ (x : ByteArray) (body : List UInt8) (pos : Nat) (q : Int), o = .string x ∧ Hid (L x = 34 :: body) ∧ Hid (Body body) ∧ body.length ≤ 6 * pos ∧ pos ≤ s.size ∧ x.size = 1 + body.length ∧ p ≤ q ∧ q ≤ p + 5 * pos ∧ Hid (wr.heap[w.heap.size]? = some (.stringIter s pos)) ∧ Hid (wr.heap[g]? = some (.cells #[.slice A n k, .int .i64 q] 32 (0, 0))) ∧ Step g w wr) (fun _ wr => s.size - posAt w.heap.size wr)
  case atStart => exact ⟨_, [], 0, p, rfl, rfl, Or.inr (by simp), by simp, by omega, rfl, by omega, by omega, World.iter_heap _ _ _, ((iter_below w s 0).block g hg).trans h.blk, Step.of (iter_below w s 0)⟩
  case round =>
    obtain ⟨x, body, pos, q, rfl, hx, hbody, hlen, hpos, hxs, hq0, hq1, hit, hblk, hst⟩ := hrel
    have hsz := hst.size
    have hlt : w.heap.size < wr.heap.size := blk_lt hit.out
    by_cases hp2 : pos < s.size
    · have hnx := fun ty => run_next_at (P := Try.prog) hit.out hp2 ty
      have hdl := decode_le s pos
      have hw1 := width_pos s pos hp2
      have hw2 := width_le s pos hp2
      have hst2 : Step g w (iterTo wr w.heap.size s (pos + (Utf8.decode s pos).2)) := ⟨hst.os, hst.tape, hst.output, by rw [iterTo_size]; exact hst.size, fun k hk hkg => (iterTo_ne _ _ _ _ _ (by omega)).trans (hst.block k hk hkg)⟩
      have hblk2 : Hid ((iterTo wr w.heap.size s (pos + (Utf8.decode s pos).2)).heap[g]? = some (.cells #[.slice A n k, .int .i64 q] 32 (0, 0))) := (iterTo_ne _ _ _ _ _ (by omega)).trans hblk.out
      have hW := h.step hst2 hblk2.out (by have := h.pos; omega)
      have hit2 : Hid ((iterTo wr w.heap.size s (pos + (Utf8.decode s pos).2)).heap[w.heap.size]? = _) := iterTo_eq s _ hlt
      obtain ⟨width, hwd⟩ : ∃ m, (Utf8.decode s pos).2 = m := ⟨_, rfl⟩
      obtain ⟨rune, hrd⟩ : ∃ m, (Utf8.decode s pos).1 = m := ⟨_, rfl⟩
      rw [hwd] at hnx hw1 hw2 hst2 hblk2 hW hit2
      rw [hrd] at hnx hdl
      have hpa := Lib.hid (posAt_eq hit.out)
      clear hwd hrd hit hblk hst
      go_wp2_with fail
      refine (letter_any _ g A n k q rune hW (by omega) (by omega) (by omega)).mono ?_
      rintro e w3 ⟨v, q3, rfl, ⟨t, rfl, ht⟩, hq4, hq5, hw3, hst3⟩
      have hts : t.size ≤ 6 := by rw [← L_len]; exact ht.2
      have hbody2 : Hid (Body (body ++ L t)) := body_append hbody.out ht.1
      have hx2 : Hid (L (x ++ t) = 34 :: (body ++ L t)) := by show L (x ++ t) = _; rw [L_cat, hx.out]; rfl
      have ht2 := Lib.hid ht
      have hst4 := hst2.trans hst3
      have hit4 : Hid (w3.heap[w.heap.size]? = some (.stringIter s (pos + width))) := (hst3.block _ (by rw [iterTo_size]; exact hlt) (by omega)).trans hit2.out
      clear ht hnx hbody hx hit2 hblk2 hst2 hst3 hW
      go_wp2_with fail
      go_roundw
      case rel => exact ⟨x ++ t, body ++ L t, pos + width, q3, rfl, hx2, hbody2, by rw [List.length_append, L_len]; omega, hw2, by rw [cat_size, List.length_append, L_len]; omega, by omega, by omega, hit4, hw3.blk, hst4⟩
      case measure => rw [posAt_eq hit4.out, hpa.out]; omega
    · have hnx := fun ty => run_next_over (P := Try.prog) hit.out hp2 ty
      have hW := h.step hst hblk.out (by have := h.pos; omega)
      clear hit hblk
      go_wp2_with fail
      go_ret
      exact ⟨_, q, rfl, ⟨_, rfl, body, by rw [L_cat, hx.out]; rfl, hbody.out, by omega⟩, hq0, by omega, hW, hst⟩
end Go.Proofs.Ytlebdceidmkddaa
