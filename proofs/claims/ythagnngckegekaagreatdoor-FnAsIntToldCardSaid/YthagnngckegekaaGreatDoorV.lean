/-
  The tree that an impl.Value reads as, and when cells of memory hold it. Conditions: none.
-/
import Derived.WalkKit
import Derived.ProofKit
import Derived.OpenShut
import Derived.Lib.Hide
namespace Go.Proofs.YthagnngckegekaaGreatDoor
open Go.RowKit
set_option linter.unusedVariables false

/-- impl.Value as a tree. -/
structure V where
  kind : Int
  n : Int
  f : Nat
  s : ByteArray
  l : List V
  keys : List ByteArray

theorem V.ind {P : V → Prop} (h : ∀ v : V, (∀ x ∈ v.l, P x) → P v) : ∀ v, P v := by
  intro v
  exact V.rec (motive_1 := P) (motive_2 := fun l => ∀ x ∈ l, P x) (fun k n f s l ks ih => h _ ih) (by simp) (fun a r iha ihr x hx => by
    rcases List.mem_cons.1 hx with rfl | hx
    · exact iha
    · exact ihr x hx) v

/-- Whatever fits an int. -/
def I64 (n : Int) : Prop := -9223372036854775808 ≤ n ∧ n ≤ 9223372036854775807

/-- A []string is read. -/
def Strs (ok : Nat → Prop) (w : World) (A : Option Addr) (xs : List ByteArray) : Prop :=
  xs ≠ [] → ∃ ad, A = some ad ∧ ok ad.block ∧ ∀ i s, xs[i]? = some s → w.cell? (ad.add i) = some (.string s) ∧ s.size ≤ 140737488351232

/-- The cells of an impl.Value hold a tree; ok: the blocks that are met beneath. -/
inductive Rep (ok : Nat → Prop) (w : World) : V → List Value → Prop
  | mk (k n : Int) (f : Nat) (s : ByteArray) (l : List V) (ks : List ByteArray) (A B : Option Addr) (ca cb : Nat) (cells : Nat → List Value)
     (hk : I64 k) (hn : I64 n) (hf : f < 18446744073709551616) (hs : s.size ≤ 140737488351232)
     (hca : l.length ≤ ca) (hca' : ca ≤ 9223372036854775807) (hcb : ks.length ≤ cb) (hcb' : cb ≤ 9223372036854775807)
     (hla : l.length ≤ 140737488351232) (hlb : ks.length ≤ 140737488351232)
     (hB : Strs ok w B ks)
     (hA : l ≠ [] → ∃ ad, A = some ad ∧ ok ad.block ∧ ∀ i, i < l.length → ∀ j u, (cells i)[j]? = some u → w.cell? (ad.add (i * 6 + j)) = some u)
     (hl : ∀ i v, l[i]? = some v → Rep ok w v (cells i)) :
     Rep ok w ⟨k, n, f, s, l, ks⟩ [.int .i64 k, .int .i64 n, .float .f64 f, .string s, .slice A l.length ca, .slice B ks.length cb]

/-- A []impl.Value is read. -/
def Vals (ok : Nat → Prop) (w : World) (A : Option Addr) (l : List V) : Prop :=
  l ≠ [] → ∃ ad, A = some ad ∧ ok ad.block ∧ ∀ i v, l[i]? = some v → ∃ cs, Rep ok w v cs ∧ ∀ j u, cs[j]? = some u → w.cell? (ad.add (i * 6 + j)) = some u

/-- The bounds of a tree's own fields. -/
structure Bds (v : V) (ca cb : Nat) : Prop where
  k : I64 v.kind
  n : I64 v.n
  f : v.f < 18446744073709551616
  s : v.s.size ≤ 140737488351232
  a : v.l.length ≤ ca
  a' : ca ≤ 9223372036854775807
  b : v.keys.length ≤ cb
  b' : cb ≤ 9223372036854775807
  la : v.l.length ≤ 140737488351232
  lb : v.keys.length ≤ 140737488351232

def valCells (v : V) (A : Option Addr) (ca : Nat) (B : Option Addr) (cb : Nat) : List Value :=
  [.int .i64 v.kind, .int .i64 v.n, .float .f64 v.f, .string v.s, .slice A v.l.length ca, .slice B v.keys.length cb]

theorem Rep.inv {ok : Nat → Prop} {w : World} {v : V} {cs : List Value} (h : Rep ok w v cs) :
    ∃ A ca B cb, cs = [.int .i64 v.kind, .int .i64 v.n, .float .f64 v.f, .string v.s, .slice A v.l.length ca, .slice B v.keys.length cb] ∧ Bds v ca cb ∧ Strs ok w B v.keys ∧ Vals ok w A v.l := by
  cases h with
  | mk k n f s l ks A B ca cb cells hk hn hf hs hca hca' hcb hcb' hla hlb hB hA hl =>
    refine ⟨A, ca, B, cb, rfl, ⟨hk, hn, hf, hs, hca, hca', hcb, hcb', hla, hlb⟩, hB, fun hne => ?_⟩
    obtain ⟨ad, e, ho, hc⟩ := hA hne
    refine ⟨ad, e, ho, fun i v hv => ⟨cells i, hl i v hv, hc i ?_⟩⟩
    exact (List.getElem?_eq_some_iff.1 hv).1

theorem Rep.intro {ok : Nat → Prop} {w : World} {v : V} {A B : Option Addr} {ca cb : Nat} (hb : Bds v ca cb) (hB : Strs ok w B v.keys) (hA : Vals ok w A v.l) :
    Rep ok w v [.int .i64 v.kind, .int .i64 v.n, .float .f64 v.f, .string v.s, .slice A v.l.length ca, .slice B v.keys.length cb] := by
  cases v with
  | mk k n f s l ks =>
    by_cases hne : l = []
    · subst hne
      exact Rep.mk k n f s [] ks A B ca cb (fun _ => []) hb.k hb.n hb.f hb.s hb.a hb.a' hb.b hb.b' hb.la hb.lb hB (fun h => absurd rfl h) (fun i v hv => by simp at hv)
    · obtain ⟨ad, e, ho, hc⟩ := hA hne
      have hx : ∀ i, ∃ cs : List Value, ∀ v, l[i]? = some v → Rep ok w v cs ∧ ∀ j u, cs[j]? = some u → w.cell? (ad.add (i * 6 + j)) = some u := fun i => by
        by_cases h : ∃ v, l[i]? = some v
        · obtain ⟨v, hv⟩ := h
          obtain ⟨cs, h1, h2⟩ := hc i v hv
          exact ⟨cs, fun v' hv' => by obtain rfl := Option.some.inj (hv.symm.trans hv'); exact ⟨h1, h2⟩⟩
        · exact ⟨[], fun v hv => absurd ⟨v, hv⟩ h⟩
      have key := fun i => Classical.choose_spec (hx i)
      let cells : Nat → List Value := fun i => Classical.choose (hx i)
      exact Rep.mk k n f s l ks A B ca cb cells hb.k hb.n hb.f hb.s hb.a hb.a' hb.b hb.b' hb.la hb.lb hB
        (fun _ => ⟨ad, e, ho, fun i hi => (key i _ (List.getElem?_eq_getElem hi)).2⟩) (fun i v hv => (key i v hv).1)

/-! ### What moves -/
theorem cell_same {w w1 : World} (a : Addr) (h : w1.heap[a.block]? = w.heap[a.block]?) : w1.cell? a = w.cell? a := World.cell?_of_block (w := w) h
theorem add_block (a : Addr) (i : Nat) : (a.add i).block = a.block := by unfold Addr.add; split <;> rfl
theorem Strs.move {ok : Nat → Prop} {w w1 : World} {A : Option Addr} {xs : List ByteArray} (h : Strs ok w A xs) (hm : ∀ k, ok k → w1.heap[k]? = w.heap[k]?) : Strs ok w1 A xs := fun hne => by
  obtain ⟨ad, e, ho, hc⟩ := h hne
  exact ⟨ad, e, ho, fun i s hi => ⟨(cell_same _ (by rw [add_block]; exact hm _ ho)).trans (hc i s hi).1, (hc i s hi).2⟩⟩
theorem Rep.move {ok : Nat → Prop} {w w1 : World} {v : V} {cs : List Value} (h : Rep ok w v cs) (hm : ∀ k, ok k → w1.heap[k]? = w.heap[k]?) : Rep ok w1 v cs := by
  induction h with
  | mk k n f s l ks A B ca cb cells hk hn hf hs hca hca' hcb hcb' hla hlb hB hA hl ih =>
    refine Rep.mk k n f s l ks A B ca cb cells hk hn hf hs hca hca' hcb hcb' hla hlb (hB.move hm) (fun hne => ?_) ih
    obtain ⟨ad, e, ho, hc⟩ := hA hne
    exact ⟨ad, e, ho, fun i hi j u hj => (cell_same _ (by rw [add_block]; exact hm _ ho)).trans (hc i hi j u hj)⟩
theorem Vals.move {ok : Nat → Prop} {w w1 : World} {A : Option Addr} {l : List V} (h : Vals ok w A l) (hm : ∀ k, ok k → w1.heap[k]? = w.heap[k]?) : Vals ok w1 A l := fun hne => by
  obtain ⟨ad, e, ho, hc⟩ := h hne
  refine ⟨ad, e, ho, fun i v hv => ?_⟩
  obtain ⟨cs, hr, hcs⟩ := hc i v hv
  exact ⟨cs, hr.move hm, fun j u hj => (cell_same _ (by rw [add_block]; exact hm _ ho)).trans (hcs j u hj)⟩
theorem Strs.mono {ok ok' : Nat → Prop} {w : World} {A : Option Addr} {xs : List ByteArray} (h : Strs ok w A xs) (hm : ∀ k, ok k → ok' k) : Strs ok' w A xs := fun hne => by
  obtain ⟨ad, e, ho, hc⟩ := h hne
  exact ⟨ad, e, hm _ ho, hc⟩
theorem Rep.mono {ok ok' : Nat → Prop} {w : World} {v : V} {cs : List Value} (h : Rep ok w v cs) (hm : ∀ k, ok k → ok' k) : Rep ok' w v cs := by
  induction h with
  | mk k n f s l ks A B ca cb cells hk hn hf hs hca hca' hcb hcb' hla hlb hB hA hl ih =>
    refine Rep.mk k n f s l ks A B ca cb cells hk hn hf hs hca hca' hcb hcb' hla hlb (hB.mono hm) (fun hne => ?_) ih
    obtain ⟨ad, e, ho, hc⟩ := hA hne
    exact ⟨ad, e, hm _ ho, hc⟩
theorem Vals.mono {ok ok' : Nat → Prop} {w : World} {A : Option Addr} {l : List V} (h : Vals ok w A l) (hm : ∀ k, ok k → ok' k) : Vals ok' w A l := fun hne => by
  obtain ⟨ad, e, ho, hc⟩ := h hne
  refine ⟨ad, e, hm _ ho, fun i v hv => ?_⟩
  obtain ⟨cs, hr, hcs⟩ := hc i v hv
  exact ⟨cs, hr.mono hm, hcs⟩
/-- What is met lies in the heap. -/
theorem Strs.lt {ok : Nat → Prop} {w : World} {A : Option Addr} {xs : List ByteArray} (h : Strs ok w A xs) : Strs (fun k => ok k ∧ k < w.heap.size) w A xs := fun hne => by
  obtain ⟨ad, e, ho, hc⟩ := h hne
  refine ⟨ad, e, ⟨ho, ?_⟩, hc⟩
  cases xs with
  | nil => exact absurd rfl hne
  | cons x r =>
    have := World.block_lt_of_cell? w _ (hc 0 x rfl).1
    rwa [add_block] at this
theorem Rep.ne {ok : Nat → Prop} {w : World} {v : V} {cs : List Value} (h : Rep ok w v cs) : ∃ u, cs[0]? = some u := by
  cases h; exact ⟨_, rfl⟩
theorem Rep.len {ok : Nat → Prop} {w : World} {v : V} {cs : List Value} (h : Rep ok w v cs) : cs.length = 6 := by
  cases h; rfl
theorem Rep.lt {ok : Nat → Prop} {w : World} {v : V} {cs : List Value} (h : Rep ok w v cs) : Rep (fun k => ok k ∧ k < w.heap.size) w v cs := by
  induction h with
  | mk k n f s l ks A B ca cb cells hk hn hf hs hca hca' hcb hcb' hla hlb hB hA hl ih =>
    refine Rep.mk k n f s l ks A B ca cb cells hk hn hf hs hca hca' hcb hcb' hla hlb hB.lt (fun hne => ?_) ih
    obtain ⟨ad, e, ho, hc⟩ := hA hne
    refine ⟨ad, e, ⟨ho, ?_⟩, hc⟩
    cases l with
    | nil => exact absurd rfl hne
    | cons x r =>
      obtain ⟨u, hu⟩ := (hl 0 x rfl).ne
      have := World.block_lt_of_cell? w _ (hc 0 (by simp) 0 u hu)
      rwa [add_block] at this
theorem Vals.lt {ok : Nat → Prop} {w : World} {A : Option Addr} {l : List V} (h : Vals ok w A l) : Vals (fun k => ok k ∧ k < w.heap.size) w A l := fun hne => by
  obtain ⟨ad, e, ho, hc⟩ := h hne
  refine ⟨ad, e, ⟨ho, ?_⟩, fun i v hv => ?_⟩
  · cases l with
    | nil => exact absurd rfl hne
    | cons x r =>
      obtain ⟨cs, hr, hcs⟩ := hc 0 x rfl
      obtain ⟨u, hu⟩ := hr.ne
      have := World.block_lt_of_cell? w _ (hcs 0 u hu)
      rwa [add_block] at this
  · obtain ⟨cs, hr, hcs⟩ := hc i v hv
    exact ⟨cs, hr.lt, hcs⟩
theorem Rep.bel {ok : Nat → Prop} {w w1 : World} {v : V} {cs : List Value} (h : Rep ok w v cs) (hb : Below w.heap.size w w1) : Rep ok w1 v cs :=
  (h.lt.move (fun k hk => hb.block k hk.2)).mono (fun _ hk => hk.1)
theorem Vals.bel {ok : Nat → Prop} {w w1 : World} {A : Option Addr} {l : List V} (h : Vals ok w A l) (hb : Below w.heap.size w w1) : Vals ok w1 A l :=
  (h.lt.move (fun k hk => hb.block k hk.2)).mono (fun _ hk => hk.1)
theorem Strs.bel {ok : Nat → Prop} {w w1 : World} {A : Option Addr} {xs : List ByteArray} (h : Strs ok w A xs) (hb : Below w.heap.size w w1) : Strs ok w1 A xs :=
  (h.lt.move (fun k hk => hb.block k hk.2)).mono (fun _ hk => hk.1)

/-! ### An element, as the walk spells its cells -/
theorem add_fieldN (ad : Addr) (m j : Nat) (hj : 0 < j) : ad.add (m + j) = ⟨(ad.add m).block, (ad.add m).off + j, none⟩ := by
  unfold Addr.add
  by_cases h : m = 0
  · subst h; simp; omega
  · rw [if_neg (by omega), if_neg h]; simp [Nat.add_assoc]

/-- The six cells of an impl.Value at an address. -/
structure At (w : World) (p : Addr) (v : V) (A : Option Addr) (ca : Nat) (B : Option Addr) (cb : Nat) : Prop where
  c0 : w.cell? p = some (.int .i64 v.kind)
  c1 : w.cell? ⟨p.block, p.off + 1, none⟩ = some (.int .i64 v.n)
  c2 : w.cell? ⟨p.block, p.off + 2, none⟩ = some (.float .f64 v.f)
  c3 : w.cell? ⟨p.block, p.off + 3, none⟩ = some (.string v.s)
  c4 : w.cell? ⟨p.block, p.off + 4, none⟩ = some (.slice A v.l.length ca)
  c5 : w.cell? ⟨p.block, p.off + 5, none⟩ = some (.slice B v.keys.length cb)

theorem Vals.at_ {ok : Nat → Prop} {w : World} {A : Option Addr} {l : List V} (h : Vals ok w A l) {i : Nat} {v : V} (hv : l[i]? = some v) :
    ∃ ad Ai ci Bi di, A = some ad ∧ ok ad.block ∧ At w (ad.add (i * 6)) v Ai ci Bi di ∧ Bds v ci di ∧ Strs ok w Bi v.keys ∧ Vals ok w Ai v.l := by
  have hne : l ≠ [] := by rintro rfl; simp at hv
  obtain ⟨ad, e, ho, hc⟩ := h hne
  obtain ⟨cs, hr, hcs⟩ := hc i v hv
  obtain ⟨Ai, ci, Bi, di, rfl, hb, hB, hA⟩ := hr.inv
  refine ⟨ad, Ai, ci, Bi, di, e, ho, ⟨hcs 0 _ rfl, ?_, ?_, ?_, ?_, ?_⟩, hb, hB, hA⟩
  · rw [← add_fieldN _ _ 1 (by omega)]; exact hcs 1 _ rfl
  · rw [← add_fieldN _ _ 2 (by omega)]; exact hcs 2 _ rfl
  · rw [← add_fieldN _ _ 3 (by omega)]; exact hcs 3 _ rfl
  · rw [← add_fieldN _ _ 4 (by omega)]; exact hcs 4 _ rfl
  · rw [← add_fieldN _ _ 5 (by omega)]; exact hcs 5 _ rfl

theorem Strs.at_ {ok : Nat → Prop} {w : World} {A : Option Addr} {xs : List ByteArray} (h : Strs ok w A xs) {i : Nat} {s : ByteArray} (hv : xs[i]? = some s) :
    ∃ ad, A = some ad ∧ ok ad.block ∧ w.cell? (ad.add i) = some (.string s) ∧ s.size ≤ 140737488351232 := by
  have hne : xs ≠ [] := by rintro rfl; simp at hv
  obtain ⟨ad, e, ho, hc⟩ := h hne
  exact ⟨ad, e, ho, hc i s hv⟩

/-- The first elements alone. -/
theorem Strs.take {ok : Nat → Prop} {w : World} {A : Option Addr} {xs : List ByteArray} (h : Strs ok w A xs) (k : Nat) : Strs ok w A (xs.take k) := fun hne => by
  obtain ⟨ad, e, ho, hc⟩ := h (by rintro rfl; simp at hne)
  refine ⟨ad, e, ho, fun i s hi => hc i s ?_⟩
  by_cases hik : i < k
  · rwa [List.getElem?_take_of_lt hik] at hi
  · rw [List.getElem?_eq_none (by simp; omega)] at hi; simp at hi

end Go.Proofs.YthagnngckegekaaGreatDoor
