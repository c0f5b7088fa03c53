/-
  differing: what it hands back. Conditions: none.
-/
import Derived.Test.YtpdcoipfpffhnaaDifK
import Derived.Test.YtpdcoipfpffhnaaDiffers
namespace Go.Proofs.Ytpdcoipfpffhnaa
open Go.ChangeShapes Go.WideShapes Go.ChangeAt Go.RowKit
set_option linter.unusedVariables false
set_option linter.unusedSimpArgs false

/-- All places at which two values differ, behind a place. -/
def WantPost (a b : V) (p : List Step) (w : World) (e : Ending) (w' : World) : Prop := ∃ A c m ws, e = .returned (.slice A m c) ∧ ws.length = m ∧ WantOwn w' 0 (.slice A m c) ws ∧ (∀ r, r ∈ ws ↔ ∃ q, r = p ++ q ∧ Dif a b q) ∧ m + 1 ≤ a.wt + b.wt ∧ Below w.heap.size w w'

def Call3 (x y : V) (p : List Step) : Prop := ∀ (ok : Nat → Prop) (A B A' B' : Option Addr) (ca cb ca' cb' : Nat) (v : Value) (w : World) (hb : Bds x ca cb) (hB : Strs ok w B x.keys) (hA : Vals ok w A x.l) (hb' : Bds y ca' cb') (hB' : Strs ok w B' y.keys) (hA' : Vals ok w A' y.l) (hp : FrOwn w 0 v (p.map some)),
  Calls Try.prog 17 #[.agg #[.int .i64 x.kind, .int .i64 x.n, .float .f64 x.f, .string x.s, .slice A x.l.length ca, .slice B x.keys.length cb], .agg #[.int .i64 y.kind, .int .i64 y.n, .float .f64 y.f, .string y.s, .slice A' y.l.length ca', .slice B' y.keys.length cb'], v] w (WantPost x y p w)

def ArrInv (l l' : List V) (p : List Step) (B : Nat) (wr : World) (v : Value) (m j : Nat) : Prop := ∃ ws, ws.length = m ∧ WantOwn wr B v ws ∧ (∀ r, r ∈ ws ↔ ∃ i x y q, i < j ∧ r = p ++ .idx i :: q ∧ l[i]? = some x ∧ l'[i]? = some y ∧ Dif x y q) ∧ m ≤ V.wts (l.take j) + V.wts (l'.take j)

theorem wts_take_le (l : List V) (j : Nat) : V.wts (l.take j) ≤ V.wts l := by
  have h := wts_append (l.take j) (l.drop j)
  rw [List.take_append_drop] at h
  omega
theorem WantOwn.le {w : World} {B B' : Nat} {v : Value} {ws : List (List Step)} (h : WantOwn w B v ws) (hB : B' ≤ B) : WantOwn w B' v ws := by
  obtain ⟨vs, h1, h2, h3⟩ := h
  exact ⟨vs, h1, World.ownsRow_le' h2 hB, h3⟩
theorem ArrInv.zero (l l' : List V) (p : List Step) (B : Nat) (w : World) : ArrInv l l' p B w (.slice none 0 0) 0 0 :=
  ⟨[], rfl, WantOwn.nil _ _, fun r => ⟨fun h => by simp at h, fun ⟨i, x, y, q, h, _⟩ => by omega⟩, by omega⟩

/-- One more element. -/
theorem arrs_step {l l' : List V} {p : List Step} {B : Nat} {wr w2 : World} {v v2 : Value} {m m2 j : Nat} {x y : V} (hinv : ArrInv l l' p B wr v m j) (hb : Below wr.heap.size wr w2) (hx : l[j]? = some x) (hy : l'[j]? = some y)
    {ws2 : List (List Step)} (hm2 : ws2.length = m2) (ho2 : WantOwn w2 0 v2 ws2) (hq : ∀ r, r ∈ ws2 ↔ ∃ q, r = (p ++ [.idx j]) ++ q ∧ Dif x y q) (hle : m2 + 1 ≤ x.wt + y.wt) (hbd : V.wts l + V.wts l' ≤ 1000000) (hB : B ≤ wr.heap.size) (ty : TypeId) :
    ∃ A c w3, (Builtin.append_ #[36, 36] ty #[v, v2]).run Try.prog w2 = .ok (.slice A (m + m2) c) w3 ∧ Hid (ArrInv l l' p B w3 (.slice A (m + m2) c) (m + m2) (j + 1)) ∧ Below B w2 w3 := by
  obtain ⟨ws, hm, ho, hr, hml⟩ := hinv
  have hw1 := wts_snoc hx
  have hw2 := wts_snoc hy
  have h1 := wts_take_le l (j + 1)
  have h2 := wts_take_le l' (j + 1)
  obtain ⟨A, c, w3, hrun, ho3, hb3⟩ := run_app_rows w2 v v2 B 0 ws ws2 ty (ho.bel hb) ho2 (by omega) (Nat.le_trans hB hb.size)
  rw [hm, hm2] at hrun ho3
  refine ⟨A, c, w3, hrun, ⟨ws ++ ws2, by simp [hm, hm2], ho3, fun r => ?_, by omega⟩, hb3⟩
  rw [List.mem_append, hr r, hq r]
  constructor
  · rintro (⟨i, x', y', q, hi, e, e1, e2, hd⟩ | ⟨q, e, hd⟩)
    · exact ⟨i, x', y', q, by omega, e, e1, e2, hd⟩
    · exact ⟨j, x, y, q, by omega, by rw [e]; simp, hx, hy, hd⟩
  · rintro ⟨i, x', y', q, hi, e, e1, e2, hd⟩
    by_cases hij : i < j
    · exact Or.inl ⟨i, x', y', q, hij, e, e1, e2, hd⟩
    · obtain rfl : i = j := by omega
      obtain rfl := Option.some.inj (hx.symm.trans e1)
      obtain rfl := Option.some.inj (hy.symm.trans e2)
      exact Or.inr ⟨q, by rw [e]; simp, hd⟩

/-- All elements that both have; then the lengths. -/
theorem arrs_done {a b : V} {p : List Step} {B : Nat} {w : World} {v : Value} {m : Nat} (ha : a.kind = 7) (hb : b.kind = 7) (h : ArrInv a.l b.l p B w v m (min a.l.length b.l.length)) (hlen : a.l.length = b.l.length) :
    ∃ ws, ws.length = m ∧ WantOwn w 0 v ws ∧ (∀ r, r ∈ ws ↔ ∃ q, r = p ++ q ∧ Dif a b q) ∧ m + 1 ≤ a.wt + b.wt := by
  obtain ⟨ws, hm, ho, hr, hml⟩ := h
  have h1 := wts_take_le a.l (min a.l.length b.l.length)
  have h2 := wts_take_le b.l (min a.l.length b.l.length)
  have h3 := V.wt_eq a
  have h4 := V.wt_eq b
  refine ⟨ws, hm, ho.le (Nat.zero_le _), fun r => ?_, by omega⟩
  rw [hr r]
  constructor
  · rintro ⟨i, x, y, q, hi, rfl, hx, hy, hd⟩
    exact ⟨.idx i :: q, rfl, .arr_in a b i x y q ha hb hx hy hd⟩
  · rintro ⟨q, rfl, hd⟩
    rcases (dif_arr ha hb).1 hd with ⟨i, x, y, q, rfl, hx, hy, hq⟩ | ⟨hne, _⟩
    · have i1 := (List.getElem?_eq_some_iff.1 hx).1
      have i2 := (List.getElem?_eq_some_iff.1 hy).1
      exact ⟨i, x, y, q, by omega, rfl, hx, hy, hq⟩
    · exact absurd hlen hne
theorem arrs_more {a b : V} {p : List Step} {B : Nat} {wr w2 : World} {v x : Value} {m : Nat} (ha : a.kind = 7) (hb : b.kind = 7) (h : ArrInv a.l b.l p B wr v m (min a.l.length b.l.length)) (hlen : a.l.length ≠ b.l.length) (hbel : Below wr.heap.size wr w2) (hx : FrOwn w2 0 x ((p ++ [Step.idx (min a.l.length b.l.length)]).map some)) (hbd : V.wts a.l + V.wts b.l + 1 ≤ 1000000) (hB : B ≤ wr.heap.size) (ty : TypeId) (o : Obj) (ho' : o = .cells #[x] 41) :
    ∃ A c w3, (Builtin.append_ #[36, 36] ty #[v, .slice (some ⟨w2.heap.size, 0, none⟩) 1 1]).run Try.prog (w2.alloc o) = .ok (.slice A (m + 1) c) w3 ∧ Hid (∃ ws, ws.length = m + 1 ∧ WantOwn w3 0 (.slice A (m + 1) c) ws ∧ (∀ r, r ∈ ws ↔ ∃ q, r = p ++ q ∧ Dif a b q) ∧ m + 1 + 1 ≤ a.wt + b.wt) ∧ Below B w2 w3 := by
  obtain ⟨ws, hm, ho, hr, hml⟩ := h
  have h1 := wts_take_le a.l (min a.l.length b.l.length)
  have h2 := wts_take_le b.l (min a.l.length b.l.length)
  have h3 := V.wt_eq a
  have h4 := V.wt_eq b
  have hbo : Below w2.heap.size w2 (w2.alloc o) := below_alloc _ _
  obtain ⟨A, c, w3, hrun, ho3, hb3⟩ := run_app_rows (w2.alloc o) v (.slice (some ⟨w2.heap.size, 0, none⟩) 1 1) B 0 ws [p ++ [Step.idx (min a.l.length b.l.length)]] ty (ho.bel (hbel.trans (hbo.mono hbel.size))) (wantOne w2 x _ o ho' hx) (by simp; omega) (by rw [alloc_size]; have := hbel.size; omega)
  rw [hm] at hrun ho3
  refine ⟨A, c, w3, hrun, ⟨ws ++ [p ++ [Step.idx (min a.l.length b.l.length)]], by simp [hm], ho3.le (Nat.zero_le _), fun r => ?_, by omega⟩, (hbo.mono (Nat.le_trans hB hbel.size)).trans hb3⟩
  rw [List.mem_append, hr r, List.mem_singleton]
  constructor
  · rintro (⟨i, x, y, q, hi, rfl, hx, hy, hd⟩ | rfl)
    · exact ⟨.idx i :: q, rfl, .arr_in a b i x y q ha hb hx hy hd⟩
    · exact ⟨[.idx (min a.l.length b.l.length)], rfl, .arr_len a b ha hb hlen⟩
  · rintro ⟨q, rfl, hd⟩
    rcases (dif_arr ha hb).1 hd with ⟨i, x, y, q, rfl, hx, hy, hq⟩ | ⟨hne, rfl⟩
    · have i1 := (List.getElem?_eq_some_iff.1 hx).1
      have i2 := (List.getElem?_eq_some_iff.1 hy).1
      exact Or.inl ⟨i, x, y, q, by omega, rfl, hx, hy, hq⟩
    · exact Or.inr rfl

/-! ### Over keys -/
/-- The weight of what a key has in an object. -/
def kw : List ByteArray → List V → ByteArray → Nat
  | k :: r, x :: t, s => (if k = s then x.wt else 0) + kw r t s
  | _, _, _ => 0
def kws (a : V) (ks : List ByteArray) : Nat := (ks.map (kw a.keys a.l)).sum
theorem sum_one (k : ByteArray) (n : Nat) : ∀ ks : List ByteArray, ks.Nodup → (ks.map (fun s => if k = s then n else 0)).sum ≤ n
  | [], _ => by simp
  | s :: r, h => by
    obtain ⟨h1, h2⟩ := List.nodup_cons.1 h
    rw [List.map_cons, List.sum_cons]
    by_cases e : k = s
    · subst e
      rw [if_pos rfl]
      have : (r.map (fun s => if k = s then n else 0)).sum = 0 := by
        have h0 : ∀ s ∈ r, (if k = s then n else 0) = 0 := fun s hs => if_neg (fun (e : k = s) => h1 (by rw [e]; exact hs))
        rw [List.map_congr_left h0]
        clear h h1 h2 h0
        induction r with
        | nil => rfl
        | cons y r ih => simpa using ih
      omega
    · rw [if_neg e]
      have := sum_one k n r h2
      omega
theorem sum_add (f g : ByteArray → Nat) : ∀ ks : List ByteArray, (ks.map (fun s => f s + g s)).sum = (ks.map f).sum + (ks.map g).sum
  | [] => rfl
  | s :: r => by
    simp only [List.map_cons, List.sum_cons, sum_add f g r]
    omega
theorem kw_sum : ∀ (keys : List ByteArray) (l : List V) (ks : List ByteArray), ks.Nodup → (ks.map (kw keys l)).sum ≤ V.wts l
  | [], l, ks, h0 => by
    have : (ks.map (kw [] l)).sum = 0 := by
      clear h0
      induction ks with
      | nil => rfl
      | cons y r ih => simpa [kw] using ih
    omega
  | k :: r, [], ks, h0 => by
    have : (ks.map (kw (k :: r) [])).sum = 0 := by
      clear h0
      induction ks with
      | nil => rfl
      | cons y r ih => simpa [kw] using ih
    omega
  | k :: r, x :: t, ks, h => by
    have h1 := sum_one k x.wt ks h
    have h2 := kw_sum r t ks h
    have h3 := sum_add (fun s => if k = s then x.wt else 0) (kw r t) ks
    have h4 : ks.map (kw (k :: r) (x :: t)) = ks.map (fun s => (if k = s then x.wt else 0) + kw r t s) := rfl
    rw [h4, h3]
    simp only [V.wts]
    omega
theorem kw_get : ∀ (keys : List ByteArray) (l : List V) (i : Nat) (s : ByteArray) (x : V), keys[i]? = some s → l[i]? = some x → x.wt ≤ kw keys l s
  | [], _, i, s, x, h, _ => by simp at h
  | _ :: _, [], i, s, x, _, h => by simp at h
  | k :: r, y :: t, 0, s, x, h1, h2 => by
    simp at h1 h2
    subst h1 h2
    simp [kw]
  | k :: r, y :: t, i + 1, s, x, h1, h2 => by
    have := kw_get r t i s x (by simpa using h1) (by simpa using h2)
    simp only [kw]
    omega
/-- What a key has weighs at most that, and null 1. -/
theorem kw_member {v : V} (hd : v.keys.Nodup) (hl : v.keys.length = v.l.length) (k : ByteArray) : (k ∈ v.keys → (v.member k).wt ≤ kw v.keys v.l k) ∧ (k ∉ v.keys → v.member k = V.null) := by
  constructor
  · intro hk
    obtain ⟨i, hi⟩ := List.getElem?_of_mem hk
    have hil := (List.getElem?_eq_some_iff.1 hi).1
    obtain ⟨x, hx⟩ : ∃ x, v.l[i]? = some x := get_lt (by omega)
    rw [member_some hd hl hi hx]
    exact kw_get _ _ i k x hi hx
  · intro hk
    exact member_none (fun s hs (e : s = k) => hk (by rw [← e]; exact hs))
theorem null_wt : V.null.wt = 1 := by rw [V.wt_eq]; rfl
theorem kw_two {a b : V} (ha : a.keys.Nodup) (hal : a.keys.length = a.l.length) (hb : b.keys.Nodup) (hbl : b.keys.length = b.l.length) {k : ByteArray} (hk : k ∈ a.keys ∨ k ∈ b.keys) : (a.member k).wt + (b.member k).wt ≤ kw a.keys a.l k + kw b.keys b.l k + 1 := by
  obtain ⟨a1, a2⟩ := kw_member ha hal k
  obtain ⟨b1, b2⟩ := kw_member hb hbl k
  have hn := null_wt
  by_cases h1 : k ∈ a.keys
  · have e1 := a1 h1
    by_cases h2 : k ∈ b.keys
    · have e2 := b1 h2; omega
    · rw [b2 h2]; omega
  · rw [a2 h1]
    have h2 : k ∈ b.keys := by rcases hk with h | h; exact absurd h h1; exact h
    have e2 := b1 h2; omega
theorem kws_snoc {v : V} {ks : List ByteArray} {j : Nat} {k : ByteArray} (h : ks[j]? = some k) : kws v (ks.take (j + 1)) = kws v (ks.take j) + kw v.keys v.l k := by
  unfold kws
  rw [take_get h, List.map_append, List.sum_append]
  simp
theorem kws_le (v : V) {ks : List ByteArray} (h : ks.Nodup) (j : Nat) : kws v (ks.take j) ≤ V.wts v.l := kw_sum _ _ _ (List.Sublist.nodup (List.take_sublist j ks) h)

def ObjInv (a b : V) (ks : List ByteArray) (p : List Step) (B : Nat) (wr : World) (v : Value) (m j : Nat) : Prop := ∃ ws, ws.length = m ∧ WantOwn wr B v ws ∧ (∀ r, r ∈ ws ↔ ∃ i k q, i < j ∧ ks[i]? = some k ∧ r = p ++ .key k :: q ∧ Dif (a.member k) (b.member k) q) ∧ m ≤ kws a (ks.take j) + kws b (ks.take j)
theorem ObjInv.zero (a b : V) (ks : List ByteArray) (p : List Step) (B : Nat) (w : World) : ObjInv a b ks p B w (.slice none 0 0) 0 0 :=
  ⟨[], rfl, WantOwn.nil _ _, fun r => ⟨fun h => by simp at h, fun ⟨i, k, q, h, _⟩ => by omega⟩, by omega⟩
structure Two (a b : V) (ks : List ByteArray) : Prop where
  a8 : a.kind = 8
  b8 : b.kind = 8
  ad : a.keys.Nodup
  al : a.keys.length = a.l.length
  bd : b.keys.Nodup
  bl : b.keys.length = b.l.length
  nd : ks.Nodup
  mem : ∀ s, s ∈ ks ↔ (s ∈ a.keys ∨ s ∈ b.keys)
theorem objs_step {a b : V} {ks : List ByteArray} {p : List Step} {B : Nat} {wr w2 : World} {v v2 : Value} {m m2 j : Nat} {k : ByteArray} (ht : Two a b ks) (hinv : ObjInv a b ks p B wr v m j) (hb : Below wr.heap.size wr w2) (hk : ks[j]? = some k)
    {ws2 : List (List Step)} (hm2 : ws2.length = m2) (ho2 : WantOwn w2 0 v2 ws2) (hq : ∀ r, r ∈ ws2 ↔ ∃ q, r = (p ++ [.key k]) ++ q ∧ Dif (a.member k) (b.member k) q) (hle : m2 + 1 ≤ (a.member k).wt + (b.member k).wt) (hbd : V.wts a.l + V.wts b.l ≤ 1000000) (hB : B ≤ wr.heap.size) (ty : TypeId) :
    ∃ A c w3, (Builtin.append_ #[36, 36] ty #[v, v2]).run Try.prog w2 = .ok (.slice A (m + m2) c) w3 ∧ Hid (ObjInv a b ks p B w3 (.slice A (m + m2) c) (m + m2) (j + 1)) ∧ Below B w2 w3 := by
  obtain ⟨ws, hm, ho, hr, hml⟩ := hinv
  have hw1 := kws_snoc (v := a) hk
  have hw2 := kws_snoc (v := b) hk
  have h1 := kws_le a ht.nd (j + 1)
  have h2 := kws_le b ht.nd (j + 1)
  have h3 := kw_two ht.ad ht.al ht.bd ht.bl ((ht.mem k).1 (get_mem hk))
  obtain ⟨A, c, w3, hrun, ho3, hb3⟩ := run_app_rows w2 v v2 B 0 ws ws2 ty (ho.bel hb) ho2 (by omega) (Nat.le_trans hB hb.size)
  rw [hm, hm2] at hrun ho3
  refine ⟨A, c, w3, hrun, ⟨ws ++ ws2, by simp [hm, hm2], ho3, fun r => ?_, by omega⟩, hb3⟩
  rw [List.mem_append, hr r, hq r]
  constructor
  · rintro (⟨i, k', q, hi, e, e1, hd⟩ | ⟨q, e, hd⟩)
    · exact ⟨i, k', q, by omega, e, e1, hd⟩
    · exact ⟨j, k, q, by omega, hk, by rw [e]; simp, hd⟩
  · rintro ⟨i, k', q, hi, e, e1, hd⟩
    by_cases hij : i < j
    · exact Or.inl ⟨i, k', q, hij, e, e1, hd⟩
    · obtain rfl : i = j := by omega
      obtain rfl := Option.some.inj (hk.symm.trans e)
      exact Or.inr ⟨q, by rw [e1]; simp, hd⟩
theorem objs_done {a b : V} {ks : List ByteArray} {p : List Step} {B : Nat} {w : World} {v : Value} {m : Nat} (ht : Two a b ks) (h : ObjInv a b ks p B w v m ks.length) :
    ∃ ws, ws.length = m ∧ WantOwn w 0 v ws ∧ (∀ r, r ∈ ws ↔ ∃ q, r = p ++ q ∧ Dif a b q) ∧ m + 1 ≤ a.wt + b.wt := by
  obtain ⟨ws, hm, ho, hr, hml⟩ := h
  have h1 := kws_le a ht.nd ks.length
  have h2 := kws_le b ht.nd ks.length
  have h3 := V.wt_eq a
  have h4 := V.wt_eq b
  refine ⟨ws, hm, ho.le (Nat.zero_le _), fun r => ?_, by omega⟩
  rw [hr r]
  constructor
  · rintro ⟨i, k, q, hi, hk, rfl, hd⟩
    exact ⟨.key k :: q, rfl, .obj a b k q ht.a8 ht.b8 ((ht.mem k).1 (get_mem hk)) hd⟩
  · rintro ⟨q, rfl, hd⟩
    obtain ⟨k, q, rfl, hk, hq⟩ := (dif_obj ht.a8 ht.b8).1 hd
    obtain ⟨i, hi⟩ := List.getElem?_of_mem ((ht.mem k).2 hk)
    exact ⟨i, k, q, (List.getElem?_eq_some_iff.1 hi).1, hi, rfl, hq⟩
end Go.Proofs.Ytpdcoipfpffhnaa
