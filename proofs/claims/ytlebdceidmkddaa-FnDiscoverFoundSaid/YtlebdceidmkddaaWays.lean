/-
  The choices of a writer of texts: next, blank, digits, hex. Conditions: none.
-/
import Derived.Test.YtlebdceidmkddaaStr
namespace Go.Proofs.Ytlebdceidmkddaa
open Go.ChangeShapes Go.WideShapes Go.ChangeAt Go.RowKit
set_option linter.unusedVariables false

/-- All old blocks but g are as they were. -/
structure Step (g : Nat) (w w' : World) : Prop where
  os : w'.os = w.os
  tape : w'.tape = w.tape
  output : w'.output = w.output
  size : w.heap.size ≤ w'.heap.size
  block : ∀ k, k < w.heap.size → k ≠ g → w'.heap[k]? = w.heap[k]?
theorem Step.refl (g : Nat) (w : World) : Step g w w := ⟨rfl, rfl, rfl, Nat.le_refl _, fun _ _ _ => rfl⟩
theorem Step.trans {g : Nat} {a b c : World} (h : Step g a b) (k : Step g b c) : Step g a c :=
  ⟨k.os.trans h.os, k.tape.trans h.tape, k.output.trans h.output, Nat.le_trans h.size k.size, fun i hi hg => (k.block i (Nat.lt_of_lt_of_le hi h.size) hg).trans (h.block i hi hg)⟩
theorem Step.of {g : Nat} {w w' : World} (h : Below w.heap.size w w') : Step g w w' := ⟨h.os, h.tape, h.output, h.size, fun k hk _ => h.block k hk⟩
theorem Step.set (g j : Nat) (w : World) (v : Value) : Step g w (w.setCell ⟨g, j, none⟩ v) :=
  ⟨rfl, rfl, rfl, by simp [World.setCell], fun k _ hg => Below.heap_setCell w ⟨g, j, none⟩ v k hg⟩
theorem Step.drewN {g : Nat} {w w' : World} (h : Step g w w') (n : Nat) : Step g w (w'.drewN n) := ⟨h.os, h.tape, h.output, h.size, h.block⟩
theorem Step.below {g : Nat} {w w1 w2 : World} (h : Below g w w1) (hg : g ≤ w1.heap.size) (k : Step g w1 w2) : Below g w w2 :=
  h.trans ⟨k.os, k.tape, k.output, k.size, fun i hi => k.block i (by omega) (by omega)⟩

theorem Step.cell {g : Nat} {w w' : World} {a : Addr} {v : Value} (h : Step g w w') (hc : w.cell? a = some v) (hne : a.block ≠ g) : w'.cell? a = some v :=
  (cell_same a (h.block _ (World.block_lt_of_cell? w a hc) hne)).trans hc

/-- A writer's choices at block g. -/
structure Ways (w : World) (g : Nat) (A : Option Addr) (n c : Nat) (at_ : Int) : Prop where
  blk : w.heap[g]? = some (.cells #[.slice A n c, .int .i64 at_] 32 (0, 0))
  row : 0 < n → ∃ ad, A = some ad ∧ ad.block ≠ g ∧ ∀ i, i < n → ∃ x : Int, w.cell? (ad.add i) = some (.int .u8 x) ∧ 0 ≤ x ∧ x ≤ 255
  cap : n ≤ c
  len : n ≤ 140737488351232
  pos : 0 ≤ at_

theorem blk_lt {w : World} {g : Nat} {o : Obj} (h : w.heap[g]? = some o) : g < w.heap.size := (Array.getElem?_eq_some_iff.1 h).1
theorem blk_cell {w : World} {g : Nat} {t : TypeId} {cs : Array Value} {fr : Nat × Nat} (h : w.heap[g]? = some (.cells cs t fr)) (i : Nat) : w.cell? ⟨g, i, none⟩ = cs[i]? := by simp [World.cell?, h]
theorem blk_frozen {w : World} {g : Nat} {t : TypeId} {cs : Array Value} (h : w.heap[g]? = some (.cells cs t (0, 0))) (i : Nat) : w.frozen? ⟨g, i, none⟩ = false := by simp [World.frozen?, h]
theorem blk_set {w : World} {g : Nat} {t : TypeId} {cs : Array Value} {fr : Nat × Nat} (h : w.heap[g]? = some (.cells cs t fr)) (i : Nat) (u : Value) : (w.setCell ⟨g, i, none⟩ u).heap[g]? = some (.cells (cs.setIfInBounds i u) t fr) := by
  simp [World.setCell, Array.getElem?_modify, h]

theorem Ways.step {w w' : World} {g : Nat} {A : Option Addr} {n c : Nat} {p q : Int} (h : Ways w g A n c p) (hs : Step g w w') (hb : w'.heap[g]? = some (.cells #[.slice A n c, .int .i64 q] 32 (0, 0))) (hq : 0 ≤ q) : Ways w' g A n c q := by
  refine ⟨hb, fun hn => ?_, h.cap, h.len, hq⟩
  obtain ⟨ad, e, hne, hc⟩ := h.row hn
  refine ⟨ad, e, hne, fun i hi => ?_⟩
  obtain ⟨x, hx, h0, h1⟩ := hc i hi
  refine ⟨x, (cell_same _ ?_).trans hx, h0, h1⟩
  have hlt := World.block_lt_of_cell? w _ hx
  exact hs.block _ hlt (by rw [add_block]; exact hne)
theorem Ways.bel {w w' : World} {g : Nat} {A : Option Addr} {n c : Nat} {p : Int} (h : Ways w g A n c p) (hb : Below w.heap.size w w') : Ways w' g A n c p :=
  h.step (Step.of hb) ((hb.block g (blk_lt h.blk)).trans h.blk) h.pos

/-- What a call of a writer's method leaves: an answer of which P holds, the choices moved on by d at the most. -/
def Moved (P : Value → Prop) (g : Nat) (A : Option Addr) (n c : Nat) (p : Int) (d : Int) (w : World) (e : Ending) (w' : World) : Prop :=
  ∃ v q, e = .returned v ∧ P v ∧ p ≤ q ∧ q ≤ p + d ∧ Ways w' g A n c q ∧ Step g w w'

def IsInt (lo hi : Int) (v : Value) : Prop := ∃ r : Int, v = .int .i64 r ∧ lo ≤ r ∧ r < hi
def IsStr (P : List UInt8 → Prop) (v : Value) : Prop := ∃ s : ByteArray, v = .string s ∧ P (L s)

set_option maxHeartbeats 1000000 in
theorem next_any (w : World) (g : Nat) (A : Option Addr) (n c : Nat) (p m : Int) (h : Ways w g A n c p) (hp : p ≤ 4611686018427387904) (hm : 1 ≤ m) (hm' : m ≤ 1000) :
    Calls Try.prog 24 #[.pointer (some ⟨g, 0, none⟩), .int .i64 m] w (Moved (IsInt 0 m) g A n c p 1 w) := by
  have hpos := h.pos
  have hcap := h.cap
  have hlen := h.len
  have c0 := blk_cell h.blk 0
  have c1 := blk_cell h.blk 1
  have fr := blk_frozen h.blk 1
  simp only [List.getElem?_toArray, List.getElem?_cons_zero, List.getElem?_cons_succ] at c0 c1
  by_cases hn : 0 < n
  · obtain ⟨ad, rfl, hne, hc⟩ := h.row hn
    have hi0 : 0 ≤ p % (n : Int) := Int.emod_nonneg _ (by omega)
    have hi1 : p % (n : Int) < (n : Int) := Int.emod_lt_of_pos _ (by omega)
    obtain ⟨x, hx, hx0, hx1⟩ := hc (p % (n : Int)).toNat (by omega)
    have h' := Lib.hid h
    clear hc h
    have hn1 : (1 : Int) ≤ (n : Int) := by omega
    go_enter Try.func24, Try.ntmps24
    go_wp2_with fail
    go_quiet (fail)
    go_wp2_with fail
    go_ret
    have hst : ∀ nq, Step g w ((w.drewN nq).setCell ⟨g, 1, none⟩ (.int .i64 (p + 1))) := fun nq => ((Step.refl g w).drewN nq).trans (Step.set g 1 _ _)
    refine ⟨_, p + 1, rfl, ⟨_, rfl, Int.emod_nonneg _ (by omega), Int.emod_lt_of_pos _ (by omega)⟩, by omega, by omega, h'.out.step (hst _) ?_ (by omega), hst _⟩
    exact blk_set (w := w.drewN _) h'.out.blk 1 _
  · obtain rfl : n = 0 := by omega
    go_enter Try.func24, Try.ntmps24
    go_wp2_with fail
    go_ret
    exact ⟨_, p, rfl, ⟨0, rfl, by omega, by omega⟩, by omega, by omega, h, Step.refl _ _⟩

theorem run_byte_string (c : Int) (T : TypeId) (W0 : World) : (convert 24 9 (.slice (some ⟨W0.heap.size, 0, none⟩) 1 1)).run Try.prog (W0.alloc (.cells #[.int .u8 c] T)) = .ok (.string ⟨#[UInt8.ofNat c.toNat]⟩) (W0.alloc (.cells #[.int .u8 c] T)) := by
  rw [run_convert_bytes_string _ _ _ 5 _ _ _ Try.underlying24 Try.underlying5 Try.underlying9]
  rw [run_bytesToString _ _ _ _ [c]]
  · rfl
  · have hc : (W0.alloc (.cells #[.int .u8 c] T)).cell? ⟨W0.heap.size, 0, none⟩ = some (.int .u8 c) := cells_new W0 #[.int .u8 c] T 0
    exact run_loadCells_list (W0.alloc (.cells #[.int .u8 c] T)) ⟨W0.heap.size, 0, none⟩ [.int .u8 c] (fun j v hj => by
      cases j with
      | zero => simp at hj; subst hj; simp [Addr.add]
      | succ j => simp at hj)

set_option maxHeartbeats 1000000 in
theorem wblank_any (w : World) (g : Nat) (A : Option Addr) (n c : Nat) (p : Int) (h : Ways w g A n c p) (hp : p ≤ 4611686018427387904) :
    Calls Try.prog 16 #[.pointer (some ⟨g, 0, none⟩)] w (Moved (IsStr (fun l => (∀ b ∈ l, blankB b) ∧ l.length ≤ 2)) g A n c p 1 w) := by
  go_enter Try.func16, Try.ntmps16
  go_wp2_with fail
  refine (next_any w g A n c p 8 h hp (by omega) (by omega)).mono ?_
  rintro e w2 ⟨v, q, rfl, ⟨r, rfl, h0, h1⟩, hq0, hq1, hw2, hst⟩
  have hr : r = 0 ∨ r = 1 ∨ r = 2 ∨ r = 3 ∨ r = 4 ∨ r = 5 ∨ r = 6 ∨ r = 7 := by omega
  clear h h0 h1
  have hix0 : ∀ (w : World), (Instr.index 50 (.agg #[.string ⟨#[]⟩, .string ⟨#[]⟩, .string ⟨#[]⟩, .string ⟨#[32]⟩, .string ⟨#[10]⟩, .string ⟨#[9]⟩, .string ⟨#[13, 10]⟩, .string ⟨#[32, 32]⟩]) (.int .i64 0)).run Try.prog w = .ok (.string ⟨#[]⟩) w := fun _ => by kernel_rfl
  have hix1 : ∀ (w : World), (Instr.index 50 (.agg #[.string ⟨#[]⟩, .string ⟨#[]⟩, .string ⟨#[]⟩, .string ⟨#[32]⟩, .string ⟨#[10]⟩, .string ⟨#[9]⟩, .string ⟨#[13, 10]⟩, .string ⟨#[32, 32]⟩]) (.int .i64 1)).run Try.prog w = .ok (.string ⟨#[]⟩) w := fun _ => by kernel_rfl
  have hix2 : ∀ (w : World), (Instr.index 50 (.agg #[.string ⟨#[]⟩, .string ⟨#[]⟩, .string ⟨#[]⟩, .string ⟨#[32]⟩, .string ⟨#[10]⟩, .string ⟨#[9]⟩, .string ⟨#[13, 10]⟩, .string ⟨#[32, 32]⟩]) (.int .i64 2)).run Try.prog w = .ok (.string ⟨#[]⟩) w := fun _ => by kernel_rfl
  have hix3 : ∀ (w : World), (Instr.index 50 (.agg #[.string ⟨#[]⟩, .string ⟨#[]⟩, .string ⟨#[]⟩, .string ⟨#[32]⟩, .string ⟨#[10]⟩, .string ⟨#[9]⟩, .string ⟨#[13, 10]⟩, .string ⟨#[32, 32]⟩]) (.int .i64 3)).run Try.prog w = .ok (.string ⟨#[32]⟩) w := fun _ => by kernel_rfl
  have hix4 : ∀ (w : World), (Instr.index 50 (.agg #[.string ⟨#[]⟩, .string ⟨#[]⟩, .string ⟨#[]⟩, .string ⟨#[32]⟩, .string ⟨#[10]⟩, .string ⟨#[9]⟩, .string ⟨#[13, 10]⟩, .string ⟨#[32, 32]⟩]) (.int .i64 4)).run Try.prog w = .ok (.string ⟨#[10]⟩) w := fun _ => by kernel_rfl
  have hix5 : ∀ (w : World), (Instr.index 50 (.agg #[.string ⟨#[]⟩, .string ⟨#[]⟩, .string ⟨#[]⟩, .string ⟨#[32]⟩, .string ⟨#[10]⟩, .string ⟨#[9]⟩, .string ⟨#[13, 10]⟩, .string ⟨#[32, 32]⟩]) (.int .i64 5)).run Try.prog w = .ok (.string ⟨#[9]⟩) w := fun _ => by kernel_rfl
  have hix6 : ∀ (w : World), (Instr.index 50 (.agg #[.string ⟨#[]⟩, .string ⟨#[]⟩, .string ⟨#[]⟩, .string ⟨#[32]⟩, .string ⟨#[10]⟩, .string ⟨#[9]⟩, .string ⟨#[13, 10]⟩, .string ⟨#[32, 32]⟩]) (.int .i64 6)).run Try.prog w = .ok (.string ⟨#[13, 10]⟩) w := fun _ => by kernel_rfl
  have hix7 : ∀ (w : World), (Instr.index 50 (.agg #[.string ⟨#[]⟩, .string ⟨#[]⟩, .string ⟨#[]⟩, .string ⟨#[32]⟩, .string ⟨#[10]⟩, .string ⟨#[9]⟩, .string ⟨#[13, 10]⟩, .string ⟨#[32, 32]⟩]) (.int .i64 7)).run Try.prog w = .ok (.string ⟨#[32, 32]⟩) w := fun _ => by kernel_rfl
  rcases hr with rfl | rfl | rfl | rfl | rfl | rfl | rfl | rfl
  all_goals
    go_wp2_with fail
    go_ret
    refine ⟨_, q, rfl, ⟨_, rfl, ?_, ?_⟩, hq0, hq1, hw2, hst⟩
    · simp [L, blankB]
    · simp [L]

theorem pow_split (j : Nat) (h : j < 19) : 10 ^ (19 - j) = 10 * 10 ^ (19 - (j + 1)) := by
  rw [show 19 - j = (19 - (j + 1)) + 1 by omega, Nat.pow_succ, Nat.mul_comm]

theorem L_cat1 (c : UInt8) (x : ByteArray) : L (({ data := #[c] } : ByteArray) ++ x) = c :: L x := by simp [L]
theorem cat1 (c : UInt8) (x : ByteArray) : (({ data := #[c] } : ByteArray) ++ x).size = 1 + x.size := by rw [← L_len, L_cat1]; simp [L_len]; omega
theorem digit_byte (d : Int) (h0 : 0 ≤ d) (h1 : d < 10) : 48 ≤ (UInt8.ofNat (48 + d).toNat).toNat ∧ (UInt8.ofNat (48 + d).toNat).toNat ≤ 57 := by
  simp; omega

set_option maxHeartbeats 1000000 in
theorem digits_any (n : Int) (w : World) (hn : I64 n) :
    Calls Try.prog 17 #[.int .i64 n] w (SomeStr (fun r => (L r) ≠ [] ∧ (∀ b ∈ L r, b.toNat = 45 ∨ 48 ≤ b.toNat ∧ b.toNat ≤ 57) ∧ r.size ≤ 20) w) := by
  by_cases hz : n = 0
  · subst hz
    go_enter Try.func17, Try.ntmps17
    go_wp2_with fail
    go_ret
    exact ⟨_, rfl, ⟨by simp [L], by simp [L], by decide⟩, Below.refl _ _⟩
  have hzb : (n == 0) = false := by rw [beq_eq_false_iff_ne]; exact hz
  obtain ⟨hn1, hn2⟩ := hn
  have hz' := Lib.hid hz
  clear hz
  go_enter Try.func17, Try.ntmps17
  go_wp2_with fail
  go_loopw [3, 4] (fun s i wr => ∃ (x : ByteArray) (m : Int), s = .string x ∧ i = .int .i64 m ∧ -9223372036854775808 ≤ m ∧ m ≤ 9223372036854775807 ∧ x.size ≤ 19 ∧ Hid (m.natAbs < 10 ^ (19 - x.size)) ∧ Hid (m = 0 → L x ≠ []) ∧ Hid (∀ b ∈ L x, 48 ≤ b.toNat ∧ b.toNat ≤ 57) ∧ Below w.heap.size w wr) (fun _ i _ => (intOf i).natAbs)
  case atStart => exact ⟨_, n, rfl, rfl, hn1, hn2, by decide, by show n.natAbs < 10 ^ 19; omega, fun h => absurd h hz'.out, fun b hb => absurd hb (by simp [L]), Below.refl _ _⟩
  case round =>
    obtain ⟨x, m, rfl, rfl, hm1, hm2, hx, hpw, hne, hd, hbw⟩ := hrel
    by_cases hm : m = 0
    · subst hm
      have hne' := hne.out rfl
      have hd' := hd.out
      have hd2 := Lib.hid hd'
      have hne2 := Lib.hid hne'
      clear hne' hd' hne hd
      go_wp2_with fail
      · go_ret
        refine ⟨_, rfl, ⟨by simp [L], ?_, by rw [← L_len, show L (({ data := #[45] } : ByteArray) ++ x) = 45 :: L x by simp [L]]; simp [L_len]; omega⟩, hbw⟩
        intro b hb
        rw [show L (({ data := #[45] } : ByteArray) ++ x) = 45 :: L x by simp [L]] at hb
        rcases List.mem_cons.1 hb with rfl | hb
        · exact Or.inl rfl
        · exact Or.inr (hd2.out b hb)
      · go_ret
        exact ⟨_, rfl, ⟨hne2.out, fun b hb => Or.inr (hd2.out b hb), by omega⟩, hbw⟩
    · have hmb : (m != 0) = true := by rw [bne_iff_ne]; exact hm
      have hcv := fun c => run_byte_string c 5
      have hx19 : x.size < 19 := by
        rcases Nat.lt_or_ge x.size 19 with h | h
        · exact h
        · have := hpw.out; rw [show 19 - x.size = 0 by omega] at this; simp at this; omega
      have hpw2 := hpw.out
      rw [pow_split _ hx19] at hpw2
      have hpw3 := Lib.hid hpw2
      clear hpw2 hpw
      by_cases hm0 : 0 ≤ m
      · have hdg := Lib.hid (digit_byte (m % 10) (by omega) (by omega))
        go_wp2_with fail
        go_roundw
        case rel =>
          refine ⟨_, _, rfl, rfl, by omega, by omega, ?_, ?_, fun _ => by simp [L], fun b hb => ?_, hbw.alloc hbw.size _⟩
          · rw [cat1]; omega
          · show _ < _
            rw [cat1, Nat.add_comm 1]; have := hpw3.out; omega
          · rw [L_cat1] at hb
            rcases List.mem_cons.1 hb with rfl | hb
            · exact hdg.out
            · exact hd.out b hb
        case measure => simp [intOf]; omega
      · obtain ⟨d, hd0, hd9, e1, e2⟩ : ∃ d : Int, 0 ≤ d ∧ d ≤ 9 ∧ m.tmod 10 = -d ∧ m.tdiv 10 = -((-m) / 10) := by
          refine ⟨(-m) % 10, Int.emod_nonneg _ (by omega), by omega, ?_, ?_⟩
          · rw [show m = -(-m) by omega, Int.neg_tmod, Int.tmod_eq_emod_of_nonneg (by omega)]; simp
          · rw [show m = -(-m) by omega, Int.neg_tdiv, Int.tdiv_eq_ediv_of_nonneg (by omega)]; simp
        have hdg := Lib.hid (digit_byte d hd0 (by omega))
        go_wp2_with fail
        all_goals
          go_roundw
          case rel =>
            refine ⟨_, _, rfl, rfl, by omega, by omega, ?_, ?_, fun _ => by simp [L], fun b hb => ?_, hbw.alloc hbw.size _⟩
            · rw [cat1]; omega
            · show _ < _
              rw [cat1, Nat.add_comm 1]; have := hpw3.out; omega
            · rw [L_cat1] at hb
              rcases List.mem_cons.1 hb with rfl | hb
              · first | exact hdg.out | (have h0 : d = 0 := by omega
                                         simp [h0])
              · exact hd.out b hb
          case measure => simp [intOf]; omega
end Go.Proofs.Ytlebdceidmkddaa
