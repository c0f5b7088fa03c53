/-
  The tables that are laid ahead of the call. Conditions: none.
-/
import Derived.Test.YthagnngckegekaaGreatDoorFa
import Derived.Test.YthagnngckegekaaGreatDoorRows
import Derived.OpenShut
import Derived.Stop.LaidErr
import Derived.Deep.Strs
import Derived.ChangeSlices
namespace Go.Proofs.YthagnngckegekaaGreatDoor
open Go.ChangeShapes Go.WideShapes Go.ChangeAt Go.RowKit Go.Deep
set_option linter.unusedVariables false
set_option linter.unusedSimpArgs false

abbrev Trd (W : World) (fuel : Nat) (t : TypeId) (cs : List Value) (x : DataW Unit × List MemPlace) : Prop := DataW.trod (fun _ => ()) Tryz.prog W 0 (fun _ => true) false fuel t cs = some x

theorem laid_head {n : String} {d : DataW Unit} {r : List (String × DataW Unit)} {W : World} {g : Nat} {t : TypeId} (h : laidMet Tryz.prog ((n, d) :: r) W) (hg : Tryz.prog.globalNamed n = some g) (ht : (Tryz.prog.globals[g]?).map (·.type) = some t) :
    ∃ cs fuel p, (∀ k : Nat, W.cell? ⟨g, k, none⟩ = cs[k]?) ∧ Trd W fuel t cs (d, p) ∧ (0 < cs.length → ∃ c u, W.heap[g]? = some (.cells c u (0, 0))) := by
  obtain ⟨ps, ⟨g0, t0, cs0, f0, p0, q0, hg0, ht0, hv0, hd0, _, e0⟩, _, hrows⟩ := h
  obtain rfl := Option.some.inj (hg.symm.trans hg0)
  obtain rfl := Option.some.inj (ht.symm.trans ht0)
  subst e0
  refine ⟨cs0.toList, f0, p0, fun k => by rw [World.var?_cell hg0 hv0 k]; simp, hd0, fun hl => ?_⟩
  refine (hrows g 0 ?_).1
  apply List.mem_append_left
  apply List.mem_append_left
  simp only [MemPlace.row, List.mem_map, List.mem_range]
  exact ⟨0, by simpa using hl, rfl⟩

theorem u64_nat {n : Int} (h : (Lit.int .u64 n).wf = true) : ∃ x : Nat, x < 18446744073709551616 ∧ n = (x : Int) := by
  have : 0 ≤ n ∧ n ≤ 18446744073709551615 := by
    simp [Lit.wf, IntKind.min, IntKind.max, IntKind.bits, IntKind.signed] at h
    omega
  exact ⟨n.toNat, by omega, by omega⟩

set_option maxRecDepth 20000 in
theorem ten_of {r : List (String × DataW Unit)} {W : World} {d : DataW Unit} (h : laidMet Tryz.prog (("internal/strconv.pow10Tab", d) :: r) W) : TenTab W := by
  obtain ⟨cs, fuel, p, hc, hd, -⟩ := laid_head (g := 9) (t := 165) h (by kernel_rfl) (by kernel_rfl)
  obtain ⟨xs, m, _, _, hl, hlen, hel⟩ := DataW.trod_array Tryz.underlying165 hd
  have c2 : Tryz.prog.cellsOf 164 = 2 := by kernel_rfl
  have c1 : Tryz.prog.cellsOf 51 = 1 := by kernel_rfl
  intro i hi
  have hE := hel (i / 2) (by omega)
  rw [c2, List.getElem?_eq_getElem (by omega)] at hE
  obtain ⟨y0, y1, n, _, _, h0, h1⟩ := trod_struct2 Tryz.underlying164 hE
  obtain ⟨z0, e0, _, w0⟩ := DataW.trod_int Tryz.underlying51 h0
  obtain ⟨z1, e1, _, w1⟩ := DataW.trod_int Tryz.underlying51 h1
  rw [c1] at e0 e1
  rw [hc i]
  rcases Nat.mod_two_eq_zero_or_one i with hm | hm
  · obtain ⟨x, hx, rfl⟩ := u64_nat w0
    refine ⟨x, hx, ?_⟩
    have := congrArg (·[0]?) e0
    simp [List.getElem?_take, List.getElem?_drop] at this
    rw [← this]
    congr 1
    omega
  · obtain ⟨x, hx, rfl⟩ := u64_nat w1
    refine ⟨x, hx, ?_⟩
    have := congrArg (·[0]?) e1
    simp [List.getElem?_take, List.getElem?_drop] at this
    rw [← this]
    congr 1
    omega

theorem trd_float0 {P : Program} {W : World} {t : TypeId} {k : FloatKind} {fuel : Nat} {cs : List Value} {x : DataW Unit × List MemPlace} (ht : P.underlying t = some (.float k)) (h : DataW.trod (fun _ => ()) P W 0 (fun _ => true) false fuel t cs = some x) : ∃ f : Nat, cs = [.float k f] := by
  cases fuel with
  | zero => simp [DataW.trod] at h
  | succ n =>
    unfold DataW.trod at h
    rw [ht] at h
    split at h <;> simp_all
theorem trd_float {W : World} {fuel : Nat} {cs : List Value} {x : DataW Unit × List MemPlace} (h : Trd W fuel 22 cs x) : ∃ f : Nat, cs = [.float .f64 f] := trd_float0 Tryz.underlying22 h

set_option maxRecDepth 20000 in
theorem ften_of {r : List (String × DataW Unit)} {W : World} (h : laidMet Tryz.prog (("internal/strconv.float64pow10", Rows.laid_internal_strconv_float64pow10) :: r) W) : FtenTab W := by
  obtain ⟨cs, fuel, p, hc, hd, -⟩ := laid_head (g := 8) (t := 157) h (by kernel_rfl) (by kernel_rfl)
  rcases DataW.trod_slice Tryz.underlying157 hd with ⟨_, e⟩ | ⟨a, len, cap, elems, rest, n, _, rfl, e, hb, hl, hm, hlen, hel, _, _⟩
  · cases e
  · have c1 : Tryz.prog.cellsOf 22 = 1 := by kernel_rfl
    have e1 := (DataW.slice.inj (Prod.mk.inj e).1).1
    have e2 : elems.length = 23 := by
      have := congrArg List.length e1
      rw [List.length_map] at this
      rw [← this]
      rfl
    obtain rfl : len = 23 := by omega
    refine ⟨a, cap, hc 0, fun k hk => ?_⟩
    have h1 := hel k hk
    rw [c1, Nat.mul_one, List.getElem?_eq_getElem (by omega)] at h1
    obtain ⟨l, hl1, hl2⟩ := Option.bind_eq_some_iff.1 h1
    obtain ⟨f, rfl⟩ := trd_float hl2
    exact ⟨f, cell_of_cells?_one hl1⟩
theorem trd_iface0 {P : Program} {W : World} {t : TypeId} {ms : Array (String × TypeId)} {fuel : Nat} {cs : List Value} {x : DataW Unit × List MemPlace} (ht : P.underlying t = some (.interface ms)) (h : DataW.trod (fun _ => ()) P W 0 (fun _ => true) false fuel t cs = some x) : ∃ ev, cs = [ev] ∧ (ev = .nilIface ∨ ∃ te pe, ev = .iface te pe) := by
  cases fuel with
  | zero => simp [DataW.trod] at h
  | succ n =>
    unfold DataW.trod at h
    rw [ht] at h
    split at h <;> simp_all
theorem err_of {n : String} {d : DataW Unit} {g : Nat} {r : List (String × DataW Unit)} {W : World} (h : laidMet Tryz.prog ((n, d) :: r) W) (hg : Tryz.prog.globalNamed n = some g) (ht : (Tryz.prog.globals[g]?).map (·.type) = some 54) :
    ∃ ev, W.cell? ⟨g, 0, none⟩ = some ev ∧ (ev = .nilIface ∨ ∃ te pe, ev = .iface te pe) := by
  obtain ⟨cs, fuel, p, hc, hd, -⟩ := laid_head h hg ht
  obtain ⟨ev, rfl, he⟩ := trd_iface0 Tryz.underlying54 hd
  exact ⟨ev, hc 0, he⟩
theorem opt_of {r : List (String × DataW Unit)} {W : World} (h : laidMet Tryz.prog (("internal/strconv.optimize", Rows.laid_internal_strconv_optimize) :: r) W) : W.cell? ⟨4, 0, none⟩ = some (.bool true) := by
  obtain ⟨cs, fuel, p, hc, hd, -⟩ := laid_head (g := 4) (t := 4) h (by kernel_rfl) (by kernel_rfl)
  obtain ⟨b, rfl, e⟩ := DataW.trod_bool Tryz.underlying4 hd
  have e1 : (DataW.lit (.bool true) : DataW Unit) = .lit (.bool b) := (Prod.mk.inj e).1
  cases e1
  exact hc 0
theorem info_of {n : String} {g : Nat} {r : List (String × DataW Unit)} {W : World} {a b c : Int} (h : laidMet Tryz.prog ((n, .agg [.lit (.int .u64 a), .lit (.int .u64 b), .lit (.int .i64 c)]) :: r) W) (hg : Tryz.prog.globalNamed n = some g) (ht : (Tryz.prog.globals[g]?).map (·.type) = some 121) :
    W.cell? ⟨g, 0, none⟩ = some (.int .u64 a) ∧ W.cell? ⟨g, 1, none⟩ = some (.int .u64 b) ∧ W.cell? ⟨g, 2, none⟩ = some (.int .i64 c) ∧ ∃ ca ta, W.heap[g]? = some (.cells ca ta (0, 0)) := by
  obtain ⟨cs, fuel, p, hc, hd, hh⟩ := laid_head h hg ht
  obtain ⟨y0, y1, y2, m, e, hl, h0, h1, h2⟩ := trod_struct3 Tryz.underlying121 hd
  have c3 : Tryz.prog.cellsOf 121 = 3 := by kernel_rfl
  have cu : Tryz.prog.cellsOf 48 = 1 := by kernel_rfl
  have ci : Tryz.prog.cellsOf 3 = 1 := by kernel_rfl
  obtain ⟨z0, e0, x0, -⟩ := DataW.trod_int Tryz.underlying48 h0
  obtain ⟨z1, e1, x1, -⟩ := DataW.trod_int Tryz.underlying48 h1
  obtain ⟨z2, e2, x2, -⟩ := DataW.trod_int Tryz.underlying3 h2
  rw [cu] at e0 e1
  rw [ci] at e2
  subst x0 x1 x2
  have e3 := (DataW.agg.inj (Prod.mk.inj e).1)
  simp at e3
  obtain ⟨rfl, rfl, rfl⟩ := e3
  have k0 := congrArg (·[0]?) e0
  have k1 := congrArg (·[0]?) e1
  have k2 := congrArg (·[0]?) e2
  simp [List.getElem?_take, List.getElem?_drop] at k0 k1 k2
  exact ⟨(hc 0).trans k0, (hc 1).trans k1, (hc 2).trans k2, hh (by rw [hl, c3]; decide)⟩

set_option maxRecDepth 20000 in
theorem pow_of {r : List (String × DataW Unit)} {W : World} (h : laidMet Tryz.prog (("internal/strconv.powtab", Rows.laid_internal_strconv_powtab) :: r) W) : ∃ ad c, W.cell? ⟨7, 0, none⟩ = some (.slice (some ad) 9 c) ∧ ∀ k p : Nat, powL[k]? = some p → W.cell? (ad.add k) = some (.int .i64 (p : Int)) := by
  obtain ⟨cs, fuel, p, hc, hd, -⟩ := laid_head (g := 7) (t := 27) h (by kernel_rfl) (by kernel_rfl)
  rcases DataW.trod_slice Tryz.underlying27 hd with ⟨_, e⟩ | ⟨a, len, cap, elems, rest, n, _, rfl, e, hb, hl, hm, hlen, hel, _, _⟩
  · cases e
  · have c1 : Tryz.prog.cellsOf 3 = 1 := by kernel_rfl
    have e1 : powL.map (fun z : Nat => (DataW.lit (.int .i64 (z : Int)) : DataW Unit)) = elems.map (·.1) := (DataW.slice.inj (Prod.mk.inj e).1).1
    have e2 : elems.length = 9 := by
      have := congrArg List.length e1
      rw [List.length_map, List.length_map] at this
      rw [← this]
      rfl
    obtain rfl : len = 9 := by omega
    refine ⟨a, cap, hc 0, fun k p hp => ?_⟩
    have hk : k < 9 := (List.getElem?_eq_some_iff.1 hp).1
    have h1 := hel k hk
    rw [c1, Nat.mul_one, List.getElem?_eq_getElem (by omega)] at h1
    obtain ⟨l, hl1, hl2⟩ := Option.bind_eq_some_iff.1 h1
    obtain ⟨z, rfl, hx, -⟩ := DataW.trod_int Tryz.underlying3 hl2
    have h3 := congrArg (·[k]?) e1
    simp only [List.getElem?_map, hp, Option.map_some] at h3
    rw [List.getElem?_eq_getElem (by omega), hx] at h3
    have hz : (p : Int) = z := by
      have := Option.some.inj h3
      cases this
      rfl
    rw [hz]
    exact cell_of_cells?_one hl1

set_option maxRecDepth 20000 in
theorem cheat_of {r : List (String × DataW Unit)} {W : World} (h : laidMet Tryz.prog (("internal/strconv.leftcheats", Rows.laid_internal_strconv_leftcheats) :: r) W) : CheatTab W := by
  obtain ⟨cs, fuel, p, hc, hd, -⟩ := laid_head (g := 11) (t := 175) h (by kernel_rfl) (by kernel_rfl)
  rcases DataW.trod_slice Tryz.underlying175 hd with ⟨_, e⟩ | ⟨a, len, cap, elems, rest, n, _, rfl, e, hb, hl, hm, hlen, hel, _, _⟩
  · cases e
  · have c2 : Tryz.prog.cellsOf 174 = 2 := by kernel_rfl
    have ci : Tryz.prog.cellsOf 3 = 1 := by kernel_rfl
    have cst : Tryz.prog.cellsOf 9 = 1 := by kernel_rfl
    have e1 : Pinned.cheatRows.map (fun x => (DataW.agg [.lit (.int .i64 x.1), .lit (.string x.2)] : DataW Unit)) = elems.map (·.1) := (DataW.slice.inj (Prod.mk.inj e).1).1
    have e2 : elems.length = 61 := by
      have := congrArg List.length e1
      rw [List.length_map, List.length_map] at this
      rw [← this]
      rfl
    obtain rfl : len = 61 := by omega
    refine ⟨a, cap, hc 0, fun k hk => ?_⟩
    have h1 := hel k hk
    rw [c2, List.getElem?_eq_getElem (by omega)] at h1
    obtain ⟨l, hl1, hl2⟩ := Option.bind_eq_some_iff.1 h1
    obtain ⟨y0, y1, m, ex, hll, h0, h2⟩ := trod_struct2 Tryz.underlying174 hl2
    obtain ⟨z, ez, x0, -⟩ := DataW.trod_int Tryz.underlying3 h0
    obtain ⟨s, es, x1, -⟩ := DataW.trod_string Tryz.underlying9 h2
    rw [ci] at ez
    rw [cst] at es
    subst x0 x1
    have hr : Pinned.cheatRows[k]? = some (cheatD k, cheatS k) := by
      have hlt : k < Pinned.cheatRows.length := hk
      rw [List.getElem?_eq_getElem hlt]
      unfold cheatD cheatS
      rw [List.getD_eq_getElem?_getD, List.getElem?_eq_getElem hlt]
      rfl
    have h3 := congrArg (·[k]?) e1
    simp only [List.getElem?_map, hr, Option.map_some] at h3
    rw [List.getElem?_eq_getElem (by omega), ex] at h3
    have h4 := DataW.agg.inj (Option.some.inj h3)
    simp at h4
    obtain ⟨rfl, h5⟩ := h4
    have k0 := congrArg (·[0]?) ez
    have k1 := congrArg (·[0]?) es
    simp [List.getElem?_take, List.getElem?_drop] at k0 k1
    exact ⟨cells_at hl1 0 _ k0, s, cells_at hl1 1 _ k1, h5.symm⟩
set_option maxRecDepth 100000 in
theorem ints_param {W : World} {r : Reach} {base fu : Nat} {sp : Nat → Bool} {hd : Bool} {H : Type} {enc : TypeId × Value → H} {v : Value} {x : DataW H × List MemPlace} (h : Value.okWide Tryz.prog W r base 27 v) (ht : DataW.trod enc Tryz.prog W 0 sp hd fu 27 v.cells.toList = some x) :
    ∃ (ds : List Int) (D : Option Addr) (cd : Nat), v = .slice D ds.length cd ∧ Ints W D ds := by
  obtain ⟨a, l, c, rfl⟩ : ∃ a l c, v = .slice a l c := by
    exact okWide_slice Tryz.underlying27 h
  rcases open_ints Tryz.underlying27 Tryz.underlying3 (by kernel_rfl) ht with ⟨e, _⟩ | ⟨ad, len, cap, zs, e, _, h1, h2, hz, _, hc, _⟩
  · have e' : [Value.slice a l c] = [.slice none 0 0] := e
    cases e'
    exact ⟨[], none, 0, rfl, fun h => absurd rfl h⟩
  · have e' : [Value.slice a l c] = [.slice (some ad) len cap] := e
    have e1 : a = some ad ∧ l = len ∧ c = cap := by simpa using e'
    obtain ⟨rfl, rfl, rfl⟩ := e1
    have hle : l ≤ zs.length := by rw [hz]; split <;> omega
    refine ⟨zs.take l, some ad, c, by rw [List.length_take, Nat.min_eq_left hle], fun _ => ⟨ad, rfl, fun i z hi => ?_⟩⟩
    rw [List.getElem?_take] at hi
    split at hi
    · have hlt := (List.getElem?_eq_some_iff.1 hi).1
      rw [hc i hlt, List.getD, hi]
      rfl
    · cases hi

end Go.Proofs.YthagnngckegekaaGreatDoor
