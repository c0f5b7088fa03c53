/-
  alt.diff at two arrays. Conditions: none.
-/
import Derived.Test.YtpdcoipfpffhnaaDiffL
namespace Go.Proofs.Ytpdcoipfpffhnaa
open Go.ChangeShapes Go.WideShapes Go.ChangeAt Go.RowKit
set_option linter.unusedVariables false
attribute [local go_sem] tay_bool tam_bool tan_bool tay_int tam_int tan_int tay_int8 tam_int8 tan_int8 tay_int16 tam_int16 tan_int16 tay_int32 tam_int32 tan_int32 tay_int64 tam_int64 tan_int64 tay_uint tam_uint tan_uint tay_uint8 tam_uint8 tan_uint8 tay_uint16 tam_uint16 tan_uint16 tay_uint32 tam_uint32 tan_uint32 tay_uint64 tam_uint64 tan_uint64 tay_float32 tam_float32 tan_float32 tay_float64 tam_float64 tan_float64 tay_string tam_string tan_string tay_sl tam_sl tan_sl tay_mp tam_mp tan_mp tay_fil tam_fil tan_fil tay_gint tam_gint tan_gint tay_gfl tam_gfl tan_gfl
theorem set_blk {w : World} {g : Nat} {t : TypeId} {cs : Array Value} {fr : Nat × Nat} (h : w.heap[g]? = some (.cells cs t fr)) (i : Nat) (u : Value) : (w.setCell ⟨g, i, none⟩ u).heap[g]? = some (.cells (cs.setIfInBounds i u) t fr) := by
  simp [World.setCell, Array.getElem?_modify, h]
theorem told_cons {s : Step} {p : List Step} (hp : p ≠ []) : told (s :: p) = s.val :: told p := by rw [told_ne hp]; rfl
theorem row_cells {w : World} {B : Nat} {e : TypeId} {g n c : Nat} {xs : List Value} (h : w.ownsRow B e 1 (.slice (some ⟨g, 0, none⟩) n c) n xs) : g < w.heap.size ∧ B ≤ g ∧ c ≤ maxLen ∧ (∀ i u, xs[i]? = some u → w.cell? ⟨g, i, none⟩ = some u) ∧ (∀ i, w.frozen? ⟨g, i, none⟩ = false) := by
  rcases h.2 with ⟨e1, _⟩ | ⟨g', c', cur, e1, hB, hb, h1, h2, h3, h4⟩
  · cases e1
  · simp only [Value.slice.injEq, Option.some.injEq, Addr.mk.injEq, and_true, true_and] at e1
    obtain ⟨rfl, rfl⟩ := e1
    refine ⟨(Array.getElem?_eq_some_iff.1 hb).1, hB, h2, fun i u hu => ?_, fun i => ?_⟩
    · rw [Nat.mul_one] at h4
      exact row_at hb h4 hu
    · simp [World.frozen?, hb]

theorem slice_told {w w4 : World} {B g2 c2 h d : Nat} {s : Step} {w2 : World} {o : Obj} (hrow : w2.ownsRow B 20 1 (.slice (some ⟨h, 0, none⟩) 1 d) 1 [.nilIface]) (hB : w.heap.size ≤ B)
    (hown : w4.ownsRow w.heap.size 68 1 (.slice (some ⟨g2, 0, none⟩) 1 c2) 1 [.slice (some ⟨h, 0, none⟩) 1 d]) (hgr : ((w2.setCell ⟨h, 0, none⟩ s.val).alloc o).grownBy w4 none)
    (hat : (Value.slice (some ⟨g2, 0, none⟩) 1 c2).ownBlock = none ∨ (Value.slice (some ⟨g2, 0, none⟩) 1 c2).ownBlock = some (w2.heap.size + 1)) : OneP w4 w.heap.size g2 c2 [s] := by
  obtain ⟨hlt, hBh, _⟩ := row_cells hrow
  have hg : g2 = w2.heap.size + 1 := by
    rcases hat with h | h
    · simp [Value.ownBlock] at h
    · simpa [Value.ownBlock] using h
  refine ⟨h, d, by omega, hown, ?_⟩
  rcases hrow.2 with ⟨e1, _⟩ | ⟨g', c', cur, e1, hB', hb, h1, h2, h3, h4⟩
  · cases e1
  · simp only [Value.slice.injEq, Option.some.injEq, Addr.mk.injEq, and_true, true_and] at e1
    obtain ⟨rfl, rfl⟩ := e1
    refine ⟨rfl, Or.inr ⟨h, d, cur.setIfInBounds 0 s.val, rfl, by omega, ?_, h1, h2, by simpa using h3, ?_⟩⟩
    · rw [hgr.block _ (by simp; omega) (by simp), Below.heap_alloc _ _ _ (by simpa using hlt)]
      exact set_blk hb 0 _
    · cases hc : cur.toList with
      | nil => rw [hc] at h4; simp at h4
      | cons z zs =>
        show (cur.setIfInBounds 0 s.val).toList.take 1 = [s.val]
        rw [Array.toList_setIfInBounds, hc]
        rfl

theorem setCell_size (w : World) (a : Addr) (u : Value) : (w.setCell a u).heap.size = w.heap.size := by simp [World.setCell]
theorem below_set {B : Nat} {w0 w : World} (h : Below B w0 w) {a : Addr} (ha : B ≤ a.block) (u : Value) : Below B w0 (w.setCell a u) :=
  h.trans ⟨rfl, rfl, rfl, by rw [setCell_size]; exact Nat.le_refl _, fun k hk => by
    simp only [World.setCell, Array.getElem?_modify]
    rw [if_neg (by omega)]⟩

theorem cell_set_new (w : World) (a : Addr) (z x : Value) (t : TypeId) : ∀ j u, [x][j]? = some u → ((w.setCell a z).alloc (.cells #[x] t)).cell? ((⟨w.heap.size, 0, none⟩ : Addr).add j) = some u := by
  have h := cell_one_new (w.setCell a z) x t
  rw [setCell_size] at h
  exact h
theorem news_old {w : World} {h : Nat} {xs : List Value} {z : Value} {t : TypeId} (hc : ∀ i u, xs[i]? = some u → w.cell? ⟨h, i, none⟩ = some u) : ∀ j u, xs[j]? = some u → (w.alloc (.cells #[z] t)).cell? ((⟨h, 0, none⟩ : Addr).add j) = some u := by
  intro j u hu
  have e1 : (⟨h, 0, none⟩ : Addr).add j = ⟨h, j, none⟩ := by unfold Addr.add; split <;> simp_all
  rw [e1]
  have h1 := hc j u hu
  have hlt : h < w.heap.size := by
    by_cases hh : h < w.heap.size
    · exact hh
    · have : w.heap[h]? = none := Array.getElem?_eq_none (by omega)
      simp [World.cell?, this] at h1
  rw [(below_alloc w _).cell (p := ⟨h, j, none⟩) hlt]
  exact h1
/-- Behind the append of a path of one step that was just built. -/
theorem built_told {w wr w' : World} {g c : Nat} {o : Obj} {D : List Step → Prop} {p : List Step} {z : Value} (hz : told p = [z]) (hbel : Below w.heap.size w wr) (hD : D p) (hown : w'.ownsRow w.heap.size 68 1 (.slice (some ⟨g, 0, none⟩) 1 c) 1 [.slice (some ⟨wr.heap.size, 0, none⟩) 1 1])
    (hgr : ((wr.alloc (.cells #[z] 20)).alloc o).grownBy w' none) (hat : (Value.slice (some ⟨g, 0, none⟩) 1 c).ownBlock = none ∨ (Value.slice (some ⟨g, 0, none⟩) 1 c).ownBlock = some (wr.heap.size + 1 + 1)) : Told D w (.returned (.slice (some ⟨g, 0, none⟩) 1 c)) w' := by
  have hg : g = wr.heap.size + 1 + 1 := by
    rcases hat with h | h
    · simp [Value.ownBlock] at h
    · simpa [Value.ownBlock] using h
  have hle := hbel.size
  refine ⟨(hbel.trans ((below_two wr _ _).mono hle)).grown hgr (by simp; omega) (fun k hk => by simp at hk), Or.inr ⟨g, c, p, rfl, hD, wr.heap.size, 1, by omega, by rw [hz]; exact hown, ?_⟩⟩
  rw [hz]
  refine row_same (row_built wr z 20 hle) (fun k hk => ?_)
  have hk' : k = wr.heap.size := by simpa [Value.ownBlock] using hk.symm
  subst hk'
  rw [hgr.block _ (by simp; omega) (by simp)]
  exact Below.heap_alloc _ _ _ (by simp)

/-- Behind the append of a path to a step of its own. -/
theorem cons_told {w w3 w4 : World} {g2 c2 gx cx : Nat} {s : Step} {p : List Step} {o : Obj} (hp : p ≠ [])
    (hrow : w3.ownsRow w.heap.size 20 1 (.slice (some ⟨gx, 0, none⟩) (1 + (told p).length) cx) (1 + (told p).length) ([s.val] ++ told p))
    (hown : w4.ownsRow w.heap.size 68 1 (.slice (some ⟨g2, 0, none⟩) 1 c2) 1 [.slice (some ⟨gx, 0, none⟩) (1 + (told p).length) cx]) (hgr : (w3.alloc o).grownBy w4 none)
    (hat : (Value.slice (some ⟨g2, 0, none⟩) 1 c2).ownBlock = none ∨ (Value.slice (some ⟨g2, 0, none⟩) 1 c2).ownBlock = some (w3.heap.size + 1)) : OneP w4 w.heap.size g2 c2 (s :: p) := by
  obtain ⟨hlt, hBh, _⟩ := row_cells hrow
  have hg : g2 = w3.heap.size + 1 := by
    rcases hat with h | h
    · simp [Value.ownBlock] at h
    · simpa [Value.ownBlock] using h
  have e1 : (told (s :: p)).length = 1 + (told p).length := by rw [told_cons hp, List.length_cons]; omega
  refine ⟨gx, cx, by omega, by rw [e1]; exact hown, ?_⟩
  rw [e1, told_cons hp]
  refine row_same hrow (fun k hk => ?_)
  have hk' : k = gx := by simpa [Value.ownBlock] using hk.symm
  subst hk'
  rw [hgr.block _ (by simp; omega) (by simp)]
  exact Below.heap_alloc _ _ _ hlt

theorem ignoreIndex_nil (i : Int) (w : World) : Calls Try.prog 79 #[.int .i64 i, .slice none 0 0] w fun e w' => e = .returned (.bool false) ∧ w = w' := by
  go_enter Try.func79, Try.ntmps79
  go_wp2_with fail
  refine wp_loop_rounds 1 ?_
  rw [rounds_succ]
  go_wp2_with fail
  go_ret
  exact ⟨rfl, rfl⟩
theorem ignoreKey_nil (k : ByteArray) (w : World) : Calls Try.prog 80 #[.string k, .slice none 0 0] w fun e w' => e = .returned (.bool false) ∧ w = w' := by
  go_enter Try.func80, Try.ntmps80
  go_wp2_with fail
  refine wp_loop_rounds 1 ?_
  rw [rounds_succ]
  go_wp2_with fail
  go_ret
  exact ⟨rfl, rfl⟩

set_option maxRecDepth 100000 in
set_option maxHeartbeats 8000000 in
theorem diff_arr (w : World) (g g' c c' : Nat) (cur cur' : Array Value) (xs ys : List Value) (n m : Nat) (hb : w.heap[g]? = some (.cells cur 20 (0, 0))) (hb' : w.heap[g']? = some (.cells cur' 20 (0, 0)))
    (ht : cur.toList.take n = xs) (ht' : cur'.toList.take m = ys) (hn : xs.length = n) (hn' : ys.length = m) (hlm : n ≤ 1000000) (hlm' : m ≤ 1000000)
    (D : List Step → Prop) (Di : Nat → List Step → Prop) (hD : ∀ i q, i < n → i < m → Di i q → D (.idx i :: q)) (hD2 : n ≠ m → D [.idx (min n m)]) (hDn : (∀ i, i < n → ∀ q, ¬ Di i q) → n = m → ∀ p, ¬ D p)
    (hDl : ∀ i q, Di i q → q.length ≤ 1000000)
    (hcall : ∀ (i : Nat) x y, xs[i]? = some x → ys[i]? = some y → ∀ wr, Below w.heap.size w wr → Calls Try.prog 69 #[x, y, .bool true, .slice none 0 0] wr (Told (Di i) wr)) :
    Calls Try.prog 69 #[.iface 67 (.slice (some ⟨g, 0, none⟩) n c), .iface 67 (.slice (some ⟨g', 0, none⟩) m c'), .bool true, .slice none 0 0] w (Told D w) := by
  have hglt : g < w.heap.size := (Array.getElem?_eq_some_iff.1 hb).1
  have hglt' : g' < w.heap.size := (Array.getElem?_eq_some_iff.1 hb').1
  have hb1 := Lib.hid hb
  have hb2 := Lib.hid hb'
  have ht1 := Lib.hid ht
  have ht2 := Lib.hid ht'
  have hn1 := Lib.hid hn
  have hn2 := Lib.hid hn'
  have H := Lib.hid hcall
  have hD' := Lib.hid hD
  have hD2' := Lib.hid hD2
  have hDn' := Lib.hid hDn
  have hDl' := Lib.hid hDl
  obtain ⟨i0, hi, hz0, hz1, hz2⟩ := info_parts info_path
  obtain ⟨i1, hi1, hz01, hz11, hz21⟩ := info_parts info_any
  clear hb hb' ht ht' hcall hn hn' hD hD2 hDn hDl
  go_enter Try.func69, Try.ntmps69
  go_wp2_with fail
  refine wp_loop_rounds 1 ?_
  rw [rounds_succ]
  go_wp2_with fail
  go_loopw [8, 238] (fun o i wr => ∃ j : Nat, j ≤ n ∧ i = .int .i64 j ∧ o = .slice none 0 0 ∧ Hid (∀ k, k < j → ∀ q, ¬ Di k q) ∧ Hid (n ≤ m ∨ j ≤ m) ∧ Below w.heap.size w wr) (fun _ i _ => n - (intOf i).toNat)
  case atStart => exact ⟨0, Nat.zero_le _, rfl, rfl, fun k hk => by omega, Or.inr (Nat.zero_le _), Below.refl _ _⟩
  case round =>
    obtain ⟨j, hj, rfl, rfl, hg, hjm, hbel⟩ := hrel
    have hsz := hbel.size
    by_cases hlt : j < n
    · by_cases hlm2 : m ≤ j
      · have hjm' : j = m := by have := hjm.out; omega
        have hDj : Hid (D [.idx j]) := by
          have h := hD2'.out (by omega)
          rw [show min n m = j by omega] at h
          exact h
        obtain ⟨x, hx⟩ : ∃ x, xs[j]? = some x := get_lt (by rw [hn1.out]; exact hlt)
        have q1 := row_at ((hbel.block g hglt).trans hb1.out) ht1.out hx
        have hml : (m : Int) ≤ (j : Int) := by omega
        clear hx hjm'
        go_wp2_with fail
        refine (ignoreIndex_nil j wr).mono ?_
        rintro e w' ⟨rfl, rfl⟩
        go_wp2_with (at_builtin; refine wpList_append_own_at _ rfl _ _ 66 rfl w.heap.size 68 i0 (.slice none 0 0) 1 24 Try.underlying66 hi hz0 hz1 hz2 rfl (by decide) (.slice none 0 0) 0 [] rfl (World.ownsRow_nil _ _ _ _) ⟨wr.heap.size + 1, 0, none⟩ 1 1 [.slice (some ⟨wr.heap.size, 0, none⟩) 1 1] rfl rfl ?c1 ?c2 ?c3 ?c4 ?c5 ?_)
        case c1 => exact cell_two_new _ _ _ _
        case c2 => intro u hu; rw [List.mem_singleton.1 hu]; rfl
        case c3 => unfold maxLen; omega
        case c4 => omega
        case c5 => simp; omega
        intro v' w' hown hgr hne hat
        obtain ⟨gx, cx, hvx, -⟩ := hown.form (by omega)
        subst hvx
        have hown := Lib.hid hown
        have hgr := Lib.hid hgr
        have hat := Lib.hid hat
        clear hne
        go_wp2_with fail
        go_ret
        exact built_told rfl hbel hDj.out hown.out hgr.out hat.out
      · have hlt' : j < m := by omega
        obtain ⟨x, hx⟩ : ∃ x, xs[j]? = some x := get_lt (by rw [hn1.out]; exact hlt)
        obtain ⟨y, hy⟩ : ∃ y, ys[j]? = some y := get_lt (by rw [hn2.out]; exact hlt')
        have q1 := row_at ((hbel.block g hglt).trans hb1.out) ht1.out hx
        have q2 := row_at ((hbel.block g' hglt').trans hb2.out) ht2.out hy
        have hx' := Lib.hid hx
        have hy' := Lib.hid hy
        clear hx hy
        have hm1 : ((-1 : Int) == (j : Int)) = false := beq_eq_false_iff_ne.2 (by omega)
        go_wp2_with fail
        refine (ignoreIndex_nil j wr).mono ?_
        rintro e w' ⟨rfl, rfl⟩
        go_wp2_with fail
        refine (H.out j x y hx'.out hy'.out wr hbel).mono ?_
        rintro e w2 ⟨hb2', hcase⟩
        have hbel2 := hbel.trans (hb2'.mono hbel.size)
        have hsz2 := hb2'.size
        clear q1 q2 hm1
        rcases hcase with ⟨rfl, hno⟩ | ⟨g1, c1, p, rfl, hp, hone⟩
        · have hg' : Hid (∀ k, k < j + 1 → ∀ q, ¬ Di k q) := fun k hk => by
            by_cases hkj : k < j
            · exact hg.out k hkj
            · obtain rfl : k = j := by omega
              exact hno
          clear hg hno
          go_wp2_with fail
          refine wp_loop_rounds 1 ?_
          rw [rounds_succ]
          go_wp2_with fail
          go_roundw
          case rel => exact ⟨j + 1, by omega, by go_num, rfl, hg', Or.inr (by omega), hbel2⟩
          case measure => simp [intOf]; omega
        · have hDj : Hid (D (.idx j :: p)) := hD'.out j p hlt hlt' hp
          have hpl : p.length ≤ 1000000 := hDl'.out j p hp
          obtain ⟨h1, d1, hne1, hro, hri⟩ := hone
          obtain ⟨g1lt, hBg, hc1, hcell1, _⟩ := row_cells hro
          have k1 := hcell1 0 _ rfl
          obtain ⟨h1lt, hBh, hd1, hcell2, hfz⟩ := row_cells hri
          have hri' := Lib.hid hri
          have hfz0 := hfz 0
          have hcell2' := Lib.hid hcell2
          clear hg hp hro hri hcell1 hcell2 hfz hjm
          by_cases hp0 : p = []
          · subst hp0
            have k2 : w2.cell? ⟨h1, 0, none⟩ = some .nilIface := hcell2'.out 0 _ rfl
            replace k1 : w2.cell? ⟨g1, 0, none⟩ = some (.slice (some ⟨h1, 0, none⟩) 1 d1) := k1
            go_wp2_with fail
            refine wp_loop_rounds 1 ?_
            rw [rounds_succ]
            go_wp2_with (at_builtin; refine wpList_append_own_at _ rfl _ _ 66 rfl w.heap.size 68 i0 (.slice none 0 0) 1 24 Try.underlying66 hi hz0 hz1 hz2 rfl (by decide) (.slice none 0 0) 0 [] rfl (World.ownsRow_nil _ _ _ _) ⟨w2.heap.size, 0, none⟩ 1 1 [.slice (some ⟨h1, 0, none⟩) 1 d1] rfl rfl ?c1 ?c2 ?c3 ?c4 ?c5 ?_)
            case c1 => exact cell_set_new _ _ _ _ _
            case c2 => intro u hu; rw [List.mem_singleton.1 hu]; rfl
            case c3 => unfold maxLen; omega
            case c4 => omega
            case c5 => simp; omega
            intro v' w' hown hgr hne hat
            obtain ⟨gx, cx, hvx, -⟩ := hown.form (by omega)
            subst hvx
            have hown := Lib.hid hown
            have hgr := Lib.hid hgr
            have hat := Lib.hid hat
            clear hne
            go_wp2_with fail
            go_ret
            refine ⟨((below_set hbel2 (by show w.heap.size ≤ h1; omega) _).alloc (by rw [setCell_size]; omega) _).grown hgr.out (by rw [alloc_size, setCell_size]; omega) (fun k hk => by cases hk), Or.inr ⟨gx, cx, _, rfl, hDj.out, slice_told (s := .idx j) hri'.out (by omega) hown.out hgr.out ?_⟩⟩
            simpa [alloc_size, setCell_size, Value.ownBlock] using hat.out
          · have htl : (told p).length ≤ 1000001 := by have := told_len p; omega
            have htp := told_pos p
            have htne := Lib.hid (told_ne hp0)
            by_cases hl1 : (told p).length = 1
            · obtain ⟨ty, u, hk2⟩ : ∃ ty u, w2.cell? ⟨h1, 0, none⟩ = some (.iface ty u) := by
                cases p with
                | nil => exact absurd rfl hp0
                | cons s r => cases s <;> exact ⟨_, _, hcell2'.out 0 _ rfl⟩
              have hl2 : (((told p).length : Int) == 1) = true := by rw [beq_iff_eq]; omega
              clear hl1
              go_wp2_with fail
              refine wp_loop_rounds 1 ?_
              rw [rounds_succ]
              go_wp2_with (at_builtin; refine wpList_append_own_at _ rfl _ _ 68 rfl w.heap.size 20 i1 .nilIface 1 16 Try.underlying68 hi1 hz01 hz11 hz21 rfl (by decide) (.slice (some ⟨w2.heap.size, 0, none⟩) 1 1) 1 [.iface 3 (.int .i64 j)] rfl (row_built w2 _ _ (by omega)) ⟨h1, 0, none⟩ (told p).length d1 (told p) rfl (by simp) ?n1 told_one ?n3 ?n4 ?n5 ?_)
              case n1 => exact news_old hcell2'.out
              case n3 => unfold maxLen; omega
              case n4 => omega
              case n5 => simp; omega
              intro v3 w3 hown3 hgr3 hne3 hat3
              obtain ⟨gy, cy, hvy, -⟩ := hown3.form (by omega)
              subst hvy
              have hown3 := Lib.hid hown3
              have hsz3 : w2.heap.size + 1 ≤ w3.heap.size := by have := hgr3.size; rw [alloc_size] at this; exact this
              have hbel3 := (hbel2.trans ((below_alloc w2 _).mono (by omega))).grown hgr3 (by rw [alloc_size]; omega) (fun k hk => by simp [Value.ownBlock] at hk; omega)
              clear hne3 hat3 hgr3 k1
              go_wp2_with (at_builtin; refine wpList_append_own_at _ rfl _ _ 66 rfl w.heap.size 68 i0 (.slice none 0 0) 1 24 Try.underlying66 hi hz0 hz1 hz2 rfl (by decide) (.slice none 0 0) 0 [] rfl (World.ownsRow_nil _ _ _ _) ⟨w3.heap.size, 0, none⟩ 1 1 [.slice (some ⟨gy, 0, none⟩) (1 + (told p).length) cy] rfl rfl ?c1 ?c2 ?c3 ?c4 ?c5 ?_)
              case c1 => exact cell_one_new _ _ _
              case c2 => intro u hu; rw [List.mem_singleton.1 hu]; rfl
              case c3 => unfold maxLen; omega
              case c4 => omega
              case c5 => simp; omega
              intro v' w' hown hgr hne hat
              obtain ⟨gx, cx, hvx, -⟩ := hown.form (by omega)
              subst hvx
              have hown := Lib.hid hown
              have hgr := Lib.hid hgr
              have hat := Lib.hid hat
              clear hne
              go_wp2_with fail
              go_ret
              refine ⟨(hbel3.trans ((below_alloc w3 _).mono (by omega))).grown hgr.out (by rw [alloc_size]; omega) (fun k hk => by cases hk), Or.inr ⟨gx, cx, _, rfl, hDj.out, cons_told (s := .idx j) hp0 hown3.out hown.out hgr.out ?_⟩⟩
              simpa [alloc_size, setCell_size, Value.ownBlock] using hat.out
            · have hl2 : (((told p).length : Int) == 1) = false := by rw [beq_eq_false_iff_ne]; omega
              go_wp2_with fail
              refine wp_loop_rounds 1 ?_
              rw [rounds_succ]
              go_wp2_with (at_builtin; refine wpList_append_own_at _ rfl _ _ 68 rfl w.heap.size 20 i1 .nilIface 1 16 Try.underlying68 hi1 hz01 hz11 hz21 rfl (by decide) (.slice (some ⟨w2.heap.size, 0, none⟩) 1 1) 1 [.iface 3 (.int .i64 j)] rfl (row_built w2 _ _ (by omega)) ⟨h1, 0, none⟩ (told p).length d1 (told p) rfl (by simp) ?n1 told_one ?n3 ?n4 ?n5 ?_)
              case n1 => exact news_old hcell2'.out
              case n3 => unfold maxLen; omega
              case n4 => omega
              case n5 => simp; omega
              intro v3 w3 hown3 hgr3 hne3 hat3
              obtain ⟨gy, cy, hvy, -⟩ := hown3.form (by omega)
              subst hvy
              have hown3 := Lib.hid hown3
              have hsz3 : w2.heap.size + 1 ≤ w3.heap.size := by have := hgr3.size; rw [alloc_size] at this; exact this
              have hbel3 := (hbel2.trans ((below_alloc w2 _).mono (by omega))).grown hgr3 (by rw [alloc_size]; omega) (fun k hk => by simp [Value.ownBlock] at hk; omega)
              clear hne3 hat3 hgr3 k1
              go_wp2_with (at_builtin; refine wpList_append_own_at _ rfl _ _ 66 rfl w.heap.size 68 i0 (.slice none 0 0) 1 24 Try.underlying66 hi hz0 hz1 hz2 rfl (by decide) (.slice none 0 0) 0 [] rfl (World.ownsRow_nil _ _ _ _) ⟨w3.heap.size, 0, none⟩ 1 1 [.slice (some ⟨gy, 0, none⟩) (1 + (told p).length) cy] rfl rfl ?c1 ?c2 ?c3 ?c4 ?c5 ?_)
              case c1 => exact cell_one_new _ _ _
              case c2 => intro u hu; rw [List.mem_singleton.1 hu]; rfl
              case c3 => unfold maxLen; omega
              case c4 => omega
              case c5 => simp; omega
              intro v' w' hown hgr hne hat
              obtain ⟨gx, cx, hvx, -⟩ := hown.form (by omega)
              subst hvx
              have hown := Lib.hid hown
              have hgr := Lib.hid hgr
              have hat := Lib.hid hat
              clear hne
              go_wp2_with fail
              go_ret
              refine ⟨(hbel3.trans ((below_alloc w3 _).mono (by omega))).grown hgr.out (by rw [alloc_size]; omega) (fun k hk => by cases hk), Or.inr ⟨gx, cx, _, rfl, hDj.out, cons_told (s := .idx j) hp0 hown3.out hown.out hgr.out ?_⟩⟩
              simpa [alloc_size, setCell_size, Value.ownBlock] using hat.out
    · have hjn : j = n := by omega
      by_cases hnm : n = m
      · have hfin : Hid (∀ p, ¬ D p) := hDn'.out (fun i hi => hg.out i (by omega)) hnm
        have hnm' : ((n : Int) != (m : Int)) = false := by rw [hnm]; simp
        clear hnm hg
        go_wp2_with fail
        go_ret
        exact ⟨hbel, Or.inl ⟨rfl, hfin.out⟩⟩
      · have hDj : Hid (D [.idx n]) := by
          have h := hD2'.out hnm
          rw [show min n m = n by have := hjm.out; omega] at h
          exact h
        have hnm' : ((n : Int) != (m : Int)) = true := bne_iff_ne.2 (by omega)
        clear hnm hg
        go_wp2_with fail
        refine (ignoreIndex_nil n wr).mono ?_
        rintro e w' ⟨rfl, rfl⟩
        go_wp2_with (at_builtin; refine wpList_append_own_at _ rfl _ _ 66 rfl w.heap.size 68 i0 (.slice none 0 0) 1 24 Try.underlying66 hi hz0 hz1 hz2 rfl (by decide) (.slice none 0 0) 0 [] rfl (World.ownsRow_nil _ _ _ _) ⟨wr.heap.size + 1, 0, none⟩ 1 1 [.slice (some ⟨wr.heap.size, 0, none⟩) 1 1] rfl rfl ?c1 ?c2 ?c3 ?c4 ?c5 ?_)
        case c1 => exact cell_two_new _ _ _ _
        case c2 => intro u hu; rw [List.mem_singleton.1 hu]; rfl
        case c3 => unfold maxLen; omega
        case c4 => omega
        case c5 => simp; omega
        intro v' w' hown hgr hne hat
        obtain ⟨gx, cx, hvx, -⟩ := hown.form (by omega)
        subst hvx
        have hown := Lib.hid hown
        have hgr := Lib.hid hgr
        have hat := Lib.hid hat
        clear hne
        go_wp2_with fail
        go_ret
        exact built_told rfl hbel hDj.out hown.out hgr.out hat.out
end Go.Proofs.Ytpdcoipfpffhnaa
