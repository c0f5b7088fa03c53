/-
  AsInt: the conversion asked, once it is known what alt.Int answers. Conditions: none.
-/
import Derived.Test.YthagnngckegekaaGreatDoorAInt2
import Derived.Test.YthagnngckegekaaGreatDoorLight
import Derived.Test.YthagnngckegekaaGreatDoorRight
import Derived.Test.YthagnngckegekaaGreatDoorPlain
import Derived.OwnWalk
namespace Go.Proofs.YthagnngckegekaaGreatDoor
open Go.ChangeShapes Go.WideShapes Go.ChangeAt Go.RowKit
set_option linter.unusedVariables false
set_option linter.unusedSimpArgs false

set_option maxHeartbeats 1000000 in
theorem simple_any (v : V) (n : Int) {ok : Nat → Prop} (A B : Option Addr) (ca cb : Nat) (w : World) (hb : Bds v ca cb) (hB : Strs ok w B v.keys) (hA : Vals ok w A v.l) (hok : v.Ok) (hwt : v.wt ≤ 1000000) (hn : n ≤ 2) :
    Calls Tryz.prog 16 #[.agg #[.int .i64 v.kind, .int .i64 v.n, .float .f64 v.f, .string v.s, .slice A v.l.length ca, .slice B v.keys.length cb], .int .i64 n] w (SomeBool (fun r => r = true) w) := by
  have R : Hid (RightAt v) := right_any v hok hwt
  go_enter Tryz.func16, Tryz.ntmps16
  go_wp2_with fail
  have hbel : Below (w.heap.size + 1) (w.alloc (valObj v A ca B cb)) (w.alloc (valObj v A ca B cb)) := Below.refl _ _
  have hA0 := hA.bel (boxed hbel).2
  have hB0 := hB.bel (boxed hbel).2
  refine (R.out A B ca cb _ hb hB0 hA0).mono ?_
  rintro e w2 ⟨r, rfl, rfl, hb2⟩
  replace hbel : Below (w.heap.size + 1) (w.alloc (valObj v A ca B cb)) w2 := hbel.trans (hb2.mono (by simp))
  obtain ⟨⟨b0, b1, b2, b3, b4, b5⟩, hbw⟩ := boxed hbel
  clear hb2 hA0 hB0
  go_wp2_with fail
  have hle := below_boxed_size hbel
  refine (big_any v A B ca cb w2 hb (hB.bel hbw) (hA.bel hbw) hok).mono ?_
  rintro e w3 ⟨r, rfl, rfl, hb3⟩
  have hbw3 : Below w.heap.size w w3 := below_call hbw (by omega) hb3
  clear b0 b1 b2 b3 b4 b5
  go_wp2_with fail
  go_ret
  exact ⟨true, rfl, rfl, hbw3⟩
/-- A row of numbers in memory. -/
def Ints (w : World) (A : Option Addr) (ds : List Int) : Prop := ds ≠ [] → ∃ ad, A = some ad ∧ ∀ (i : Nat) (z : Int), ds[i]? = some z → w.cell? (ad.add i) = some (.int .i64 z)
theorem Ints.bel {w w1 : World} {A : Option Addr} {ds : List Int} (h : Ints w A ds) (hb : Below w.heap.size w w1) : Ints w1 A ds := fun hne => by
  obtain ⟨ad, h1, h2⟩ := h hne
  exact ⟨ad, h1, fun i z hz => (hb.cell (p := ad.add i) (World.block_lt_of_cell? w _ (h2 i z hz))).trans (h2 i z hz)⟩
theorem Ints.at_ {w : World} {A : Option Addr} {ds : List Int} (h : Ints w A ds) {i : Nat} {z : Int} (hz : ds[i]? = some z) : ∃ ad, A = some ad ∧ w.cell? (ad.add i) = some (.int .i64 z) := by
  obtain ⟨ad, h1, h2⟩ := h (fun e => by rw [e] at hz; simp at hz)
  exact ⟨ad, h1, h2 i z hz⟩

def intVs (ds : List Int) : List Value := ds.map (Value.int .i64)
theorem info_i64 : (Tryz.prog.info? 2).map (fun i => (i.zero, i.size, i.bytes)) = some (some (.int .i64 0), 1, 8) := by kernel_rfl

def AsPost (r : Int) (w : World) (e : Ending) (w' : World) : Prop := e = .returned (.tuple #[.int .i64 r, .bool false]) ∧ Below w.heap.size w w'

theorem row_form {w : World} {B size n : Nat} {e : TypeId} {v : Value} {xs : List Value} (h : w.ownsRow B e size v n xs) : (v = .slice none 0 0 ∧ n = 0) ∨ ∃ g c cur, v = .slice (some ⟨g, 0, none⟩) n c ∧ B ≤ g ∧ w.heap[g]? = some (.cells cur e (0, 0)) ∧ cur.toList.take (n * size) = xs := by
  rcases h.2 with h2 | ⟨g, cap, cur, h1, h2, h3, h4, h5, h6, h7⟩
  · exact Or.inl h2
  · exact Or.inr ⟨g, cap, cur, h1, h2, h3, h7⟩
theorem own_base {w : World} {B size n : Nat} {e : TypeId} {v : Value} {xs : List Value} (h : w.ownsRow B e size v n xs) : ∀ k, v.ownBlock = some k → B ≤ k := fun k hk => by
  rcases row_form h with ⟨rfl, _⟩ | ⟨g, c, cur, rfl, h1, _⟩
  · simp [Value.ownBlock] at hk
  · simp only [Value.ownBlock, Option.some.injEq] at hk
    omega
theorem row_at {w : World} {g : Nat} {cur : Array Value} {n i : Nat} {x : Value} {e : TypeId} {xs : List Value} (hb : w.heap[g]? = some (.cells cur e (0, 0))) (ht : cur.toList.take n = xs) (hx : xs[i]? = some x) : w.cell? ⟨g, i, none⟩ = some x := by
  have hx2 : cur.toList[i]? = some x := by
    rw [← ht] at hx
    rw [List.getElem?_take] at hx
    split at hx
    · exact hx
    · cases hx
  simp only [World.cell?, hb]
  simpa using hx2
theorem ds_of {w : World} {B : Nat} {ds : List Int} {v : Value} (hl : ds.length ≤ 2) (h : w.ownsRow B 2 1 v ds.length (intVs ds)) : DS w ds v := by
  rcases row_form h with ⟨rfl, h0⟩ | ⟨g, c, cur, rfl, _, hb, ht⟩
  · obtain rfl : ds = [] := List.eq_nil_of_length_eq_zero h0
    exact .none _ _
  · match ds, hl, hb, ht with
    | [], _, _, _ => exact .none _ _
    | [a], _, hb, ht => exact .one g c a (row_at hb ht rfl)
    | [a, b], _, hb, ht => exact .two g c a b (row_at hb ht rfl) (row_at hb ht rfl)
    | a :: b :: d :: r, hl, _, _ => simp at hl
theorem ds_bel {w w1 : World} {ds : List Int} {v : Value} (h : DS w ds v) (hb : Below w.heap.size w w1) : DS w1 ds v := by
  cases h with
  | none => exact .none _ _
  | one g c a h => exact .one g c a ((hb.cell (p := ⟨g, 0, none⟩) (Lib.lt_of_cell h)).trans h)
  | two g c a b h h' => exact .two g c a b ((hb.cell (p := ⟨g, 0, none⟩) (Lib.lt_of_cell h)).trans h) ((hb.cell (p := ⟨g, 1, none⟩) (World.block_lt_of_cell? w ⟨g, 1, none⟩ h')).trans h')
theorem intVs_snoc {ds : List Int} {j : Nat} {z : Int} (h : ds[j]? = some z) : intVs (ds.take j) ++ [.int .i64 z] = intVs (ds.take (j + 1)) := by
  rw [take_get h]
  simp [intVs]

set_option maxHeartbeats 1000000 in
theorem asInt_any (v : V) (hok : v.Ok) (hwt : v.wt ≤ 1000000) (ds : List Int) (hds : ds.length ≤ 2) (r : Int) {ok : Nat → Prop} (A B D : Option Addr) (ca cb cd : Nat) (w : World) (hb : Bds v ca cb) (hB : Strs ok w B v.keys) (hA : Vals ok w A v.l) (hD : Ints w D ds)
    (hcall : ∀ (x d : Value) (w1 : World) (lo hi : Nat), PT w1 lo hi v x → DS w1 ds d → Below w.heap.size w w1 → Calls Tryz.prog 17 #[x, d] w1 (IntOf r w1)) :
    Calls Tryz.prog 7 #[.agg #[.int .i64 v.kind, .int .i64 v.n, .float .f64 v.f, .string v.s, .slice A v.l.length ca, .slice B v.keys.length cb], .slice D ds.length cd] w (AsPost r w) := by
  have H := Lib.hid hcall
  have hokH := Lib.hid hok
  clear hcall hok
  obtain ⟨i0, hi, hz0, hz1, hz2⟩ := info_parts info_i64
  go_enter Tryz.func7, Tryz.ntmps7
  go_wp2_with fail
  have hbel : Below (w.heap.size + 1) (w.alloc (valObj v A ca B cb)) (w.alloc (valObj v A ca B cb)) := Below.refl _ _
  have hA0 := hA.bel (boxed hbel).2
  have hB0 := hB.bel (boxed hbel).2
  refine (simple_any v ds.length A B ca cb _ hb hB0 hA0 hokH.out hwt (by omega)).mono ?_
  rintro e w2 ⟨rr, rfl, rfl, hb2⟩
  replace hbel : Below (w.heap.size + 1) (w.alloc (valObj v A ca B cb)) w2 := hbel.trans (hb2.mono (by simp))
  obtain ⟨⟨b0, b1, b2, b3, b4, b5⟩, hbw⟩ := boxed hbel
  clear hb2 hA0 hB0
  go_wp2_with fail
  go_loopw [6, 8, 16] (fun o _ i wr => ∃ j : Nat, j ≤ ds.length ∧ i = .int .i64 j ∧ (∃ Ao co, o = .slice Ao j co) ∧ Hid (wr.ownsRow (w.heap.size + 1) 2 1 o j (intVs (ds.take j))) ∧ Below (w.heap.size + 1) (w.alloc (valObj v A ca B cb)) wr) (fun _ _ i _ => ds.length - (intOf i).toNat)
  case atStart => exact ⟨0, Nat.zero_le _, rfl, ⟨_, _, rfl⟩, World.ownsRow_nil _ _ _ _, hbel⟩
  case round =>
    clear b0 b1 b2 b3 b4 b5 hbw hbel
    obtain ⟨j, hj, rfl, ⟨Ao, co, rfl⟩, ho, hbel⟩ := hrel
    obtain ⟨⟨b0, b1, b2, b3, b4, b5⟩, hbw⟩ := boxed hbel
    by_cases hlt : j < ds.length
    · obtain ⟨z, hz⟩ := get_lt hlt
      obtain ⟨ad, hDe, hc⟩ := (hD.bel hbw).at_ hz
      subst hDe
      have hz' := Lib.hid hz
      have hle := below_boxed_size hbel
      clear hz
      go_wp2_with (at_builtin; refine wpList_append_own_at _ rfl _ _ 39 rfl (w.heap.size + 1) 2 i0 (.int .i64 0) 1 8 Tryz.underlying39 hi hz0 hz1 hz2 rfl (by decide) (.slice Ao j co) j (intVs (ds.take j)) rfl (ho.out.alloc _) ⟨wr.heap.size, 0, none⟩ 1 1 [.int .i64 z] rfl rfl ?c1 ?c2 ?c3 ?c4 ?c5 ?_)
      case c1 => exact cell_one_new _ _ _
      case c2 => intro u hu; rw [List.mem_singleton.1 hu]; rfl
      case c3 => unfold maxLen; omega
      case c4 => omega
      case c5 => simp; omega
      intro v' w' hown' hgr hne hat
      obtain ⟨gx, cx, hvx, -⟩ := hown'.form (by omega)
      subst hvx
      rw [intVs_snoc hz'.out] at hown'
      have hbel3 := (hbel.trans ((below_alloc wr _).mono hle)).grown hgr (by rw [alloc_size]; omega) (own_base ho.out)
      have ho3 := Lib.hid hown'
      clear hgr hown' hne hat ho hbel hbw b0 b1 b2 b3 b4 b5 hz'
      go_wp2_with fail
      go_roundw
      case rel => exact ⟨j + 1, by omega, by go_num, ⟨_, _, rfl⟩, ho3, hbel3⟩
      case measure => simp [intOf]; omega
    · obtain rfl : j = ds.length := by omega
      have hDS : Hid (∀ W, Below wr.heap.size wr W → DS W ds (.slice Ao ds.length co)) := fun W hW => (ds_of hds (by
        have := ho.out
        rwa [List.take_length] at this)) |> fun h => ds_bel h hW
      have hle := below_boxed_size hbel
      clear ho hlt hj
      go_wp2_with fail
      refine (plain_any v hokH.out hwt A B ca cb wr hb (hB.bel hbw) (hA.bel hbw)).mono ?_
      rintro e w3 ⟨x, rfl, hp, hb3⟩
      have hbw3 := hbw.trans (hb3.mono hbw.size)
      have hc := Lib.hid (H.out x (.slice Ao ds.length co) w3 _ _ hp (hDS.out w3 hb3) hbw3)
      clear hp hb3 hDS b0 b1 b2 b3 b4 b5 hbel
      go_wp2_with fail
      refine hc.out.mono ?_
      rintro e w4 ⟨rfl, hb4⟩
      have hbw4 := hbw3.trans (hb4.mono hbw3.size)
      go_wp2_with fail
      go_ret2
      exact ⟨rfl, hbw4⟩
end Go.Proofs.YthagnngckegekaaGreatDoor
