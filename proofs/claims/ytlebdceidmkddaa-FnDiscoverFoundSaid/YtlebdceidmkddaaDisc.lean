/-
  Discover and finds: a text's documents, as the automaton finds them. Conditions: none.
-/
import Derived.Test.YtlebdceidmkddaaFind
import Derived.Test.YtlebdceidmkddaaRun2
import Derived.Lib.ConvBytes
namespace Go.Proofs.Ytlebdceidmkddaa
open Go.ChangeShapes Go.WideShapes Go.ChangeAt Go.RowKit
set_option linter.unusedVariables false
set_option linter.unusedSimpArgs false

set_option maxHeartbeats 1000000 in
theorem findUp_any (w : World) (A : Option Addr) (c gl gb : Nat) (bs : List UInt8) (segs : List (List UInt8)) (hbuf : bs ≠ [] → ∃ ad, A = some ad ∧ ad.block ≠ gl ∧ ∀ i b, bs[i]? = some b → w.cell? (ad.add i) = some (.int .u8 b.toNat))
    (hl : w.heap[gl]? = some (.cells #[.slice none 0 0] 23 (0, 0))) (hb : w.heap[gb]? = some (.cells #[.bool false] 4 (0, 0))) (hgb : gl ≠ gb) (hc : bs.length ≤ c) (hc' : c ≤ 9223372036854775807) (hn : bs.length ≤ 1000000)
    (hrun : run 0 .scan [] [] bs = some segs) :
    Calls Try.prog 19 #[.slice A bs.length c, .func (.func 20) #[] #[.pointer (some ⟨gl, 0, none⟩), .pointer (some ⟨gb, 0, none⟩)]] w (Found gl segs w) := by
  go_enter Try.func19, Try.ntmps19
  go_wp2_with fail
  refine (find_any w A c gl gb bs segs hbuf hl hb hgb hc hc' hn hrun).mono ?_
  rintro e w2 ⟨lv, rfl, h⟩
  go_wp2_with fail
  go_end0
  exact ⟨lv, rfl, h⟩

/-- What Discover answers: a row of its own that holds the texts found. -/
def Discovered (segs : List (List UInt8)) (w : World) (e : Ending) (w' : World) : Prop :=
  ∃ lv, e = .returned lv ∧ w'.ownsRow w.heap.size 9 1 lv segs.length (strVals (segs.map ofL)) ∧ Below w.heap.size w w'

theorem bytes_at {w : World} {e : TypeId} {s : ByteArray} {i : Nat} {b : UInt8} (h : (L s)[i]? = some b) : (Lib.bytesWorld w e s).cell? ((⟨w.heap.size, 0, none⟩ : Addr).add i) = some (.int .u8 b.toNat) := by
  have hi : i < s.size := by rw [← L_len]; exact (List.getElem?_eq_some_iff.1 h).1
  have e1 : (⟨w.heap.size, 0, none⟩ : Addr).add i = ⟨w.heap.size, i, none⟩ := by unfold Addr.add; split <;> simp_all
  rw [e1, Lib.bytesWorld_cell w e s i hi]
  have h2 : s.data.toList[i]? = some b := h
  rw [List.getD_eq_getElem?_getD, h2]
  rfl
theorem below_bytes (B : Nat) (w : World) (e : TypeId) (s : ByteArray) (h : B ≤ w.heap.size) : Below B w (Lib.bytesWorld w e s) :=
  ⟨rfl, rfl, rfl, by rw [Lib.bytesWorld_size]; omega, fun k hk => Lib.bytesWorld_at_old w e s k (by omega)⟩
theorem step_below {B g : Nat} {w w1 w2 : World} (h : Below B w w1) (hB : B ≤ w1.heap.size) (hg : B ≤ g) (k : Step g w1 w2) : Below B w w2 :=
  h.trans ⟨k.os, k.tape, k.output, k.size, fun i hi => k.block i (by omega) (by omega)⟩

set_option maxHeartbeats 2000000 in
theorem discover_any (s : ByteArray) (segs : List (List UInt8)) (w : World) (hn : s.size ≤ 1000000) (hrun : run 0 .scan [] [] (L s) = some segs) :
    Calls Try.prog 10 #[.string s, .bool false] w (Discovered segs w) := by
  have hcv := Lib.run_convert_string_bytes (P := Try.prog) ((w.alloc (.cells #[.bool false] 4)).alloc (.cells #[.slice none 0 0] 23)) 9 24 5 s Try.underlying9 Try.underlying24 Try.underlying5
  have hold := fun j => Lib.bytesWorld_at_old ((w.alloc (.cells #[.bool false] 4)).alloc (.cells #[.slice none 0 0] 23)) 5 s j
  have hsz := Lib.bytesWorld_size ((w.alloc (.cells #[.bool false] 4)).alloc (.cells #[.slice none 0 0] 23)) 5 s
  have hby := fun i b => bytes_at (w := (w.alloc (.cells #[.bool false] 4)).alloc (.cells #[.slice none 0 0] 23)) (e := 5) (s := s) (i := i) (b := b)
  have hbel : Below w.heap.size w (Lib.bytesWorld ((w.alloc (.cells #[.bool false] 4)).alloc (.cells #[.slice none 0 0] 23)) 5 s) := (((Below.refl w.heap.size w).alloc (Nat.le_refl _) _).alloc (by simp) _).trans (below_bytes _ _ _ _ (by simp only [alloc_size]; omega))
  have hcap1 := grownCap_ge ((w.alloc (.cells #[.bool false] 4)).alloc (.cells #[.slice none 0 0] 23)) s.size 0 5
  have hcap2 := grownCap_le_maxLen ((w.alloc (.cells #[.bool false] 4)).alloc (.cells #[.slice none 0 0] 23)) s.size 0 5 (by unfold maxLen; omega)
  have hcap3 : grownCap ((w.alloc (.cells #[.bool false] 4)).alloc (.cells #[.slice none 0 0] 23)) s.size 0 5 ≤ 9223372036854775807 := Nat.le_trans hcap2 (by unfold maxLen; omega)
  generalize hW3 : Lib.bytesWorld ((w.alloc (.cells #[.bool false] 4)).alloc (.cells #[.slice none 0 0] 23)) 5 s = W3 at *
  generalize grownCap ((w.alloc (.cells #[.bool false] 4)).alloc (.cells #[.slice none 0 0] 23)) s.size 0 5 = cap at *
  simp only [alloc_size] at hsz hby
  have hl : W3.heap[w.heap.size + 1]? = some (.cells #[.slice none 0 0] 23 (0, 0)) := by rw [hold _ (by simp only [alloc_size]; omega)]; exact new_blk' (by simp only [alloc_size])
  have hb : W3.heap[w.heap.size]? = some (.cells #[.bool false] 4 (0, 0)) := by rw [hold _ (by simp only [alloc_size]; omega), Below.heap_alloc _ _ _ (by simp only [alloc_size]; omega)]; exact new_blk _ _
  have hF := findUp_any W3 (some ⟨w.heap.size + 1 + 1, 0, none⟩) cap (w.heap.size + 1) w.heap.size (L s) segs (fun _ => ⟨_, rfl, by show w.heap.size + 1 + 1 ≠ _; omega, hby⟩) hl hb (by omega) (by rw [L_len]; exact hcap1) hcap3 (by rw [L_len]; exact hn) hrun
  rw [L_len] at hF
  have hbel' := Lib.hid hbel
  clear hold hby hcap1 hcap2 hcap3 hl hb hW3 hbel hrun
  go_enter Try.func10, Try.ntmps10
  go_wp2_with fail
  refine hF.mono ?_
  rintro e w2 ⟨lv, rfl, h1, h2, h3⟩
  obtain ⟨lA, lc, hlv⟩ := own_slice h2
  subst hlv
  have hlt := blk_lt h1
  have c0 := blk_cell h1 0
  have fr := blk_frozen h1 0
  simp only [List.getElem?_toArray, List.getElem?_cons_zero] at c0
  have h2' := Lib.hid h2
  clear h2
  go_wp2_with fail
  have hcl : (w2.setCell ⟨w.heap.size + 1, 0, none⟩ (.slice lA segs.length lc)).cell? ⟨w.heap.size + 1, 0, none⟩ = some (.slice lA segs.length lc) := by rw [blk_cell (blk_set h1 0 _) 0]; rfl
  (try simp only [Exit.inBlock, Exit.then])
  refine bodyPost_ret (v := .slice lA segs.length lc) ?_ rfl ?_
  · simp [results, Try.f10, Sem.run_bind, Result.andThen, asAddr, loadVar, hcl]
    done
  have hB := step_below (step_below hbel'.out (by omega) (g := w.heap.size + 1) (by omega) h3) (by have := h3.size; omega) (by omega) (Step.set (w.heap.size + 1) 0 w2 (.slice lA segs.length lc))
  have hrow := ownsRow_setCell_below (row_mono (base' := w.heap.size + 2) h2'.out (by omega)) (a := ⟨w.heap.size + 1, 0, none⟩) (show w.heap.size + 1 < w.heap.size + 2 by omega) (.slice lA segs.length lc)
  exact ⟨_, rfl, row_mono hrow (by omega), hB⟩

theorem L_ofL (l : List UInt8) : L (ofL l) = l := by simp [L, ofL]
set_option maxHeartbeats 1000000 in
theorem finds_any (w : World) : Calls Try.prog 11 #[] w (SomeBool (fun r => r = true) w) := by
  go_enter Try.func11, Try.ntmps11
  go_wp2_with fail
  refine (discover_any ⟨#[120, 91, 55, 93, 121]⟩ [[91, 55, 93]] w (by decide) (by exact run_known)).mono ?_
  rintro e w2 ⟨lv, rfl, h1, h2⟩
  obtain ⟨g, lc, hlv, -⟩ := h1.form (by simp)
  subst hlv
  have hc := h1.cellAt 0 (by simp)
  have hc' : w2.cell? ⟨g, 0, none⟩ = some (.string ⟨#[91, 55, 93]⟩) := by rw [hc]; simp [strVals, ofL]
  have hcap := row_cap h1
  have h2' := Lib.hid h2
  clear hc h1 h2
  go_wp2_with fail
  go_ret
  exact ⟨_, rfl, by decide, h2'.out⟩
end Go.Proofs.Ytlebdceidmkddaa
