/-
  deep, has, utf8, data: what small asks. Conditions: none.
-/
import Derived.Test.YtlebdceidmkddaaHeft
import Derived.Test.YtlebdceidmkddaaBits
namespace Go.Proofs.Ytlebdceidmkddaa
open Go.ChangeShapes Go.WideShapes Go.ChangeAt Go.RowKit
set_option linter.unusedVariables false

theorem heft_pos (v : V) : 1 ≤ v.heft := by rw [V.heft_eq]; omega
theorem hefts_take_le (l : List V) (k : Nat) : V.hefts (l.take k) ≤ V.hefts l := by
  have := hefts_append (l.take k) (l.drop k)
  rw [List.take_append_drop] at this
  omega
theorem heft_le_hefts {l : List V} {k : Nat} {x : V} (h : l[k]? = some x) : V.hefts (l.take k) + x.heft ≤ V.hefts l := by
  have := hefts_take_le l (k + 1)
  rw [hefts_snoc h] at this
  exact this

set_option maxHeartbeats 400000 in
theorem deep_any (v : V) : ∀ {ok : Nat → Prop} (A B : Option Addr) (ca cb : Nat) (w : World) (hb : Bds v ca cb) (hB : Strs ok w B v.keys) (hA : Vals ok w A v.l) (hm : (v.heft : Int) ≤ 1000000),
    Calls Try.prog 13 #[.agg #[.int .i64 v.kind, .int .i64 v.n, .float .f64 v.f, .string v.s, .slice A v.l.length ca, .slice B v.keys.length cb]] w fun e w' =>
      ∃ r : Int, e = .returned (.int .i64 r) ∧ 0 ≤ r ∧ r ≤ v.heft ∧ Below w.heap.size w w' := by
  induction v using V.ind with
  | h v ih =>
  intro ok A B ca cb w hb hB hA hm
  obtain ⟨_, _, _, hs, _, _, _, _, hla, hlb⟩ := hb
  have hh := V.heft_eq v
  have hvh : 1 + (V.hefts v.l : Int) ≤ v.heft := by omega
  have hh := Lib.hid hh
  go_enter Try.func13, Try.ntmps13
  have IH := Lib.hid ih
  clear ih
  go_wp2_with fail
  go_loopw [3, 4] (fun n i wr => ∃ (k : Nat) (q : Int), k ≤ v.l.length ∧ i = .int .i64 k ∧ n = .int .i64 q ∧ 0 ≤ q ∧ q ≤ V.hefts v.l ∧ Below (w.heap.size + 1) (w.alloc (valObj v A ca B cb)) wr) (fun _ i _ => v.l.length - (intOf i).toNat)
  case atStart => exact ⟨0, 0, Nat.zero_le _, rfl, rfl, by omega, by omega, Below.refl _ _⟩
  case round =>
    obtain ⟨k, q, hk, rfl, rfl, hq0, hq1, hbel⟩ := hrel
    obtain ⟨⟨b0, b1, b2, b3, b4, b5⟩, hbw⟩ := boxed hbel
    by_cases hlt : k < v.l.length
    · obtain ⟨x, hx⟩ := get_lt hlt
      have hxm := Lib.hid (get_mem hx)
      have hss := Lib.hid (heft_le_hefts hx)
      obtain ⟨ad, Ai, ci, Bi, di, rfl, _, ⟨e0, e1, e2, e3, e4, e5⟩, hbx, hBx, hAx⟩ := (hA.bel hbw).at_ hx
      clear hx hA
      go_wp2_with fail
      have hle := below_boxed_size hbel
      refine (IH.out x hxm.out Ai Bi ci di wr hbx hBx hAx (by have := hss.out; omega)).mono ?_
      rintro e w2 ⟨r, rfl, hr0, hr1, hb2⟩
      have hbel2 := hbel.trans (hb2.mono hle)
      have hss' := hss.out
      clear b0 b1 b2 b3 b4 b5 e0 e1 e2 e3 e4 e5
      go_wp2_with fail
      go_roundw
      case rel => exact ⟨k + 1, _, by omega, by go_num, rfl, by split <;> omega, by split <;> omega, hbel2⟩
      case measure => simp [intOf]; omega
    · clear hB hA
      go_wp2_with fail
      all_goals
        go_ret
        exact ⟨_, rfl, by omega, by omega, hbw⟩

def hasS (xs : List ByteArray) (s : ByteArray) : Bool := xs.any (fun x => x.toList == s.toList)
theorem hasS_snoc {xs : List ByteArray} {k : Nat} {x s : ByteArray} (h : xs[k]? = some x) : hasS (xs.take (k + 1)) s = (hasS (xs.take k) s || x.toList == s.toList) := by
  rw [take_get h]; simp [hasS]

set_option maxHeartbeats 400000 in
theorem has_any {ok : Nat → Prop} (A : Option Addr) (xs : List ByteArray) (m c : Nat) (s : ByteArray) (w : World) (hA : Strs ok w A xs) (hl : xs.length ≤ 140737488351232) (hm : m = xs.length) :
    Calls Try.prog 23 #[.slice A m c, .string s] w fun e w' => e = .returned (.bool (hasS xs s)) ∧ w = w' := by
  subst hm
  go_enter Try.func23, Try.ntmps23
  go_wp2
  go_loop [5] (fun i => ∃ k : Nat, k ≤ xs.length ∧ i = .int .i64 k ∧ Hid (hasS (xs.take k) s = false)) (fun i => xs.length - (intOf i).toNat)
  case atStart => exact ⟨0, Nat.zero_le _, rfl, by simp [Hid, hasS]⟩
  case round =>
    obtain ⟨k, hk, rfl, hh⟩ := hrel
    by_cases hlt : k < xs.length
    · obtain ⟨x, hx⟩ := get_lt hlt
      obtain ⟨ad, rfl, _, hc, _⟩ := hA.at_ hx
      have hst := Lib.hid (hasS_snoc (s := s) hx)
      have hxm := Lib.hid (get_mem hx)
      clear hA hx
      cases heq : (x.toList == s.toList) with
      | true =>
        have hfin : Hid (hasS xs s = true) := by
          show xs.any _ = true
          rw [List.any_eq_true]
          exact ⟨x, hxm.out, heq⟩
        go_wp2
        go_ret
        refine ⟨?_, rfl⟩
        rw [hfin.out]; rfl
      | false =>
        have hst' : Hid (hasS (xs.take (k + 1)) s = false) := by
          show _ = false
          rw [hst.out, hh.out, heq]; rfl
        clear hst hh hxm
        go_wp2
        go_round
        case rel => exact ⟨k + 1, by omega, by go_num, hst'⟩
        case measure => simp [intOf]; omega
    · have hfin : Hid (hasS xs s = false) := by have := hh.out; rwa [take_all hlt] at this
      clear hh
      go_wp2
      go_ret
      refine ⟨?_, rfl⟩
      rw [hfin.out]; rfl

theorem width_pos (s : ByteArray) (pos : Nat) (h : pos < s.size) : 1 ≤ (Utf8.decode s pos).2 := by
  by_cases ha : (s[pos]'h).toNat < 128
  · rw [decode_ascii s pos h ha]
    exact Nat.le_refl _
  · exact (decode_high s pos h (by omega)).2
theorem iter_below (w : World) (s : ByteArray) (pos : Nat) : Below w.heap.size w (w.iter s pos) := (Below.refl _ _).alloc (Nat.le_refl _) _

set_option maxHeartbeats 400000 in
theorem utf8_any (s : ByteArray) (w : World) :
    Calls Try.prog 22 #[.string s] w fun e w' => ∃ b : Bool, e = .returned (.bool b) ∧ Below w.heap.size w w' := by
  go_enter Try.func22, Try.ntmps22
  go_wp2
  go_loopw [] (fun wr => ∃ pos : Nat, wr = w.iter s pos) (fun wr => s.size - wr.iterPos w.heap.size)
  case atStart => exact ⟨0, rfl⟩
  case round =>
    obtain ⟨pos, rfl⟩ := hrel
    by_cases hp : pos < s.size
    · have hnx : ∀ ty, (Instr.next (.pointer (some ⟨w.heap.size, 0, none⟩)) true ty).run Try.prog (w.iter s pos) = _ := fun ty => run_next_any w s pos ty hp
      have hwd := width_pos s pos hp
      by_cases hc : (Utf8.decode s pos).1 = 65533
      · have hc' := Lib.hid hc
        have hcb : (((Utf8.decode s pos).1 : Int) == 65533) = true := by rw [hc]; rfl
        clear hc
        go_wp2
        go_ret
        exact ⟨_, rfl, iter_below _ _ _⟩
      · have hcb : (((Utf8.decode s pos).1 : Int) == 65533) = false := by rw [beq_eq_false_iff_ne]; omega
        clear hc
        go_wp2
        go_roundw
        case rel => exact ⟨_, rfl⟩
        case measure => simp; omega
    · have hnx : ∀ ty, (Instr.next (.pointer (some ⟨w.heap.size, 0, none⟩)) true ty).run Try.prog (w.iter s pos) = _ := fun ty => run_next_end w s pos ty hp
      go_wp2
      go_ret
      exact ⟨_, rfl, iter_below _ _ _⟩

/- What data says of the kinds. -/
mutual
def V.Good : V → Prop
  | ⟨k, _, _, _, l, _⟩ => (k = 1 ∨ k = 2 ∨ k = 3 ∨ k = 5 ∨ k = 7 ∨ k = 8) ∧ V.Goods l
def V.Goods : List V → Prop
  | [] => True
  | v :: r => v.Good ∧ V.Goods r
end
theorem V.good_eq (v : V) : v.Good ↔ (v.kind = 1 ∨ v.kind = 2 ∨ v.kind = 3 ∨ v.kind = 5 ∨ v.kind = 7 ∨ v.kind = 8) ∧ V.Goods v.l := by cases v; simp [V.Good]
theorem goods_snoc {l : List V} {k : Nat} {v : V} (h : l[k]? = some v) (h1 : V.Goods (l.take k)) (h2 : v.Good) : V.Goods (l.take (k + 1)) := by
  have app : ∀ (a b : List V), V.Goods a → V.Goods b → V.Goods (a ++ b) := fun a b ha hb => by
    induction a with
    | nil => exact hb
    | cons x r ih => simp only [V.Goods] at ha; simp only [List.cons_append, V.Goods]; exact ⟨ha.1, ih ha.2⟩
  rw [take_get h]
  exact app _ _ h1 (by simp [V.Goods, h2])
theorem goods_mem {l : List V} (h : V.Goods l) : ∀ v ∈ l, v.Good := by
  induction l with
  | nil => simp
  | cons x r ih => simp only [V.Goods] at h; intro v hv; rcases List.mem_cons.1 hv with rfl | hv; exact h.1; exact ih h.2 v hv


end Go.Proofs.Ytlebdceidmkddaa
