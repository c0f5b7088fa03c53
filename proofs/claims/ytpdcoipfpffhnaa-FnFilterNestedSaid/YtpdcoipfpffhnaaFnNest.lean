/-
  What FnFilterNested answers. Conditions: none.
-/
import Derived.Test.YtpdcoipfpffhnaaFilters
import Derived.Test.YtpdcoipfpffhnaaPData
import Derived.Outline
namespace Go.Proofs.Ytpdcoipfpffhnaa
open Go.ChangeShapes Go.WideShapes Go.ChangeAt Go.RowKit
set_option linter.unusedVariables false

theorem noDot_app {a b : ByteArray} (h : NoDot (a ++ b)) : NoDot a ∧ NoDot b := by
  have e : (a ++ b).data.toList = a.data.toList ++ b.data.toList := by simp [ByteArray.data_append]
  constructor
  · intro i c hc
    exact h i c (by rw [e, List.getElem?_append_left (List.getElem?_eq_some_iff.1 hc).1]; exact hc)
  · intro i c hc
    exact h (a.data.toList.length + i) c (by rw [e, List.getElem?_append_right (by omega), Nat.add_sub_cancel_left]; exact hc)
theorem dotted_app (a b : ByteArray) : a ++ ⟨#[46]⟩ ++ b = dotted a b := by
  apply ext_list
  rw [dotted_list]
  simp [ByteArray.data_append]

/- The law. -/
set_option maxRecDepth 100000 in
set_option maxHeartbeats 8000000 in
theorem fnNest_any (a b : ByteArray) (x v : V) (A B A' B' : Option Addr) (ca cb ca' cb' : Nat) (w : World) (has : a.size ≤ 140737488351232) (hbs : b.size ≤ 140737488351232) (hb : Bds x ca cb) (hB : Strs any w B x.keys) (hA : Vals any w A x.l) (hb' : Bds v ca' cb') (hB' : Strs any w B' v.keys) (hA' : Vals any w A' v.l) :
    Calls Try.prog 4 #[.string a, .string b, .agg #[.int .i64 x.kind, .int .i64 x.n, .float .f64 x.f, .string x.s, .slice A x.l.length ca, .slice B x.keys.length cb], .agg #[.int .i64 v.kind, .int .i64 v.n, .float .f64 v.f, .string v.s, .slice A' v.l.length ca', .slice B' v.keys.length cb']] w (SomeBool (fun r => r = true) w) := by
  go_enter Try.func4, Try.ntmps4
  have hbel0 : Below (w.heap.size + 2) ((w.alloc (valObj x A ca B cb)).alloc (valObj v A' ca' B' cb')) ((w.alloc (valObj x A ca B cb)).alloc (valObj v A' ca' B' cb')) := Below.refl _ _
  have hbw0 := below2 w (valObj x A ca B cb) (valObj v A' ca' B' cb')
  by_cases ha0 : a.size ≤ 2147483647
  rotate_left
  · go_wp2_with fail
    go_ret
    exact ⟨true, rfl, rfl, hbw0⟩
  by_cases hb0 : b.size ≤ 2147483647
  rotate_left
  · go_wp2_with fail
    go_ret
    exact ⟨true, rfl, rfl, hbw0⟩
  go_wp2_with fail
  refine (zzFits1_any x A B ca cb _ hb (hB.bel hbw0)).mono ?_
  rintro e w1 ⟨r, rfl, _, hb1⟩
  have hbel1 := hbel0.trans (hb1.mono (by rw [alloc_size, alloc_size]; omega))
  obtain ⟨⟨b0, b1, b2, b3, b4, b5⟩, ⟨d0, d1, d2, d3, d4, d5⟩, hbw1⟩ := boxed2 hbel1
  clear hbel0 hbw0 hb1
  cases r with
  | false =>
    go_wp2_with fail
    go_ret
    exact ⟨true, rfl, rfl, hbw1⟩
  | true =>
  go_wp2_with fail
  refine (zzFits1_any v A' B' ca' cb' _ hb' (hB'.bel hbw1)).mono ?_
  rintro e w2 ⟨r, rfl, _, hb2⟩
  have hs1 : w.heap.size + 2 ≤ w1.heap.size := by have := hbel1.size; rw [alloc_size, alloc_size] at this; exact this
  have hbel2 := hbel1.trans (hb2.mono hs1)
  clear b0 b1 b2 b3 b4 b5 d0 d1 d2 d3 d4 d5 hb2 hbel1 hbw1
  obtain ⟨⟨b0, b1, b2, b3, b4, b5⟩, ⟨d0, d1, d2, d3, d4, d5⟩, hbw2⟩ := boxed2 hbel2
  cases r with
  | false =>
    go_wp2_with fail
    go_ret
    exact ⟨true, rfl, rfl, hbw2⟩
  | true =>
  go_wp2_with fail
  refine (plainData_any x A B ca cb _ hb (hB.bel hbw2) (hA.bel hbw2)).mono ?_
  rintro e w3 ⟨r, rfl, hpf, hb3⟩
  have hs2 : w.heap.size + 2 ≤ w2.heap.size := by have := hbel2.size; rw [alloc_size, alloc_size] at this; exact this
  have hbel3 := hbel2.trans (hb3.mono hs2)
  clear b0 b1 b2 b3 b4 b5 d0 d1 d2 d3 d4 d5 hb3 hbel2 hbw2
  obtain ⟨⟨b0, b1, b2, b3, b4, b5⟩, ⟨d0, d1, d2, d3, d4, d5⟩, hbw3⟩ := boxed2 hbel3
  cases r with
  | false =>
    clear hpf
    go_wp2_with fail
    refine (filters_any w3).mono ?_
    rintro e w4 ⟨r, rfl, rfl, hb4⟩
    have hbw4 := hbw3.trans (hb4.mono hbw3.size)
    clear b0 b1 b2 b3 b4 b5 d0 d1 d2 d3 d4 d5
    go_wp2_with fail
    go_ret
    exact ⟨true, rfl, rfl, hbw4⟩
  | true =>
  have hpf' := Lib.hid (hpf rfl)
  clear hpf
  go_wp2_with fail
  refine (plainData_any v A' B' ca' cb' _ hb' (hB'.bel hbw3) (hA'.bel hbw3)).mono ?_
  rintro e w4 ⟨r, rfl, hpt, hb4⟩
  have hs3 : w.heap.size + 2 ≤ w3.heap.size := by have := hbel3.size; rw [alloc_size, alloc_size] at this; exact this
  have hbel4 := hbel3.trans (hb4.mono hs3)
  clear b0 b1 b2 b3 b4 b5 d0 d1 d2 d3 d4 d5 hb4 hbel3 hbw3
  obtain ⟨⟨b0, b1, b2, b3, b4, b5⟩, ⟨d0, d1, d2, d3, d4, d5⟩, hbw4⟩ := boxed2 hbel4
  have hfil : Hid (∀ W : World, Below w.heap.size w W → Calls Try.prog 12 #[] W (SomeBool (fun r => r = true) W)) := fun W _ => filters_any W
  cases r with
  | false =>
    clear hpt
    go_wp2_with fail
    refine (filters_any w4).mono ?_
    rintro e w5 ⟨r, rfl, rfl, hb5⟩
    have hbw5 := hbw4.trans (hb5.mono hbw4.size)
    clear b0 b1 b2 b3 b4 b5 d0 d1 d2 d3 d4 d5
    go_wp2_with fail
    go_ret
    exact ⟨true, rfl, rfl, hbw5⟩
  | true =>
  have hpt' := Lib.hid (hpt rfl)
  clear hpt
  have hs4 : w.heap.size + 2 ≤ w4.heap.size := by have := hbel4.size; rw [alloc_size, alloc_size] at this; exact this
  by_cases hk8 : x.kind = 8
  · have hk8' : (x.kind == 8) = true := by rw [hk8]; rfl
    clear hk8
    go_wp2_with fail
    refine (filters_any w4).mono ?_
    rintro e w5 ⟨r, rfl, rfl, hb5⟩
    have hbw5 := hbw4.trans (hb5.mono hbw4.size)
    clear b0 b1 b2 b3 b4 b5 d0 d1 d2 d3 d4 d5
    go_wp2_with fail
    go_ret
    exact ⟨true, rfl, rfl, hbw5⟩
  have hk8' : (x.kind == 8) = false := beq_eq_false_iff_ne.2 hk8
  by_cases hk7 : x.kind = 7
  · have hk7' : (x.kind == 7) = true := by rw [hk7]; rfl
    clear hk7
    go_wp2_with fail
    refine (filters_any w4).mono ?_
    rintro e w5 ⟨r, rfl, rfl, hb5⟩
    have hbw5 := hbw4.trans (hb5.mono hbw4.size)
    clear b0 b1 b2 b3 b4 b5 d0 d1 d2 d3 d4 d5
    go_wp2_with fail
    go_ret
    exact ⟨true, rfl, rfl, hbw5⟩
  have hk7' : (x.kind == 7) = false := beq_eq_false_iff_ne.2 hk7
  by_cases hna : a.size ≤ 20
  rotate_left
  · have hna' : (a.size : Int) > 20 := by omega
    go_wp2_with fail
    refine (filters_any w4).mono ?_
    rintro e w5 ⟨r, rfl, rfl, hb5⟩
    have hbw5 := hbw4.trans (hb5.mono hbw4.size)
    clear b0 b1 b2 b3 b4 b5 d0 d1 d2 d3 d4 d5
    go_wp2_with fail
    go_ret
    exact ⟨true, rfl, rfl, hbw5⟩
  by_cases hnb : b.size ≤ 20
  rotate_left
  · have hnb' : (b.size : Int) > 20 := by omega
    go_wp2_with fail
    refine (filters_any w4).mono ?_
    rintro e w5 ⟨r, rfl, rfl, hb5⟩
    have hbw5 := hbw4.trans (hb5.mono hbw4.size)
    clear b0 b1 b2 b3 b4 b5 d0 d1 d2 d3 d4 d5
    go_wp2_with fail
    go_ret
    exact ⟨true, rfl, rfl, hbw5⟩
  have hab : (a ++ b).size = a.size + b.size := ByteArray.size_append
  have hcv := Lib.run_convert_string_bytes (P := Try.prog) w4 9 33 5 (a ++ b) Try.underlying9 Try.underlying33 Try.underlying5
  have hcells : ∀ (i : Nat) c, (a ++ b).data.toList[i]? = some c → (Lib.bytesWorld w4 5 (a ++ b)).cell? ⟨w4.heap.size, i, none⟩ = some (.int .u8 (c.toNat : Int)) := fun i c h => by
    rw [Lib.bytesWorld_cell w4 5 (a ++ b) i (by have := (List.getElem?_eq_some_iff.1 h).1; rw [data_size] at this; exact this), List.getD_eq_getElem?_getD, h]
    rfl
  have hbel5 : Below (w.heap.size + 2) ((w.alloc (valObj x A ca B cb)).alloc (valObj v A' ca' B' cb')) (Lib.bytesWorld w4 5 (a ++ b)) :=
    hbel4.trans ⟨rfl, rfl, rfl, by rw [Lib.bytesWorld_size]; omega, fun k hk => Lib.bytesWorld_at_old w4 5 (a ++ b) k (by omega)⟩
  have hsz := Lib.bytesWorld_size w4 5 (a ++ b)
  have hcap1 := grownCap_ge w4 (a ++ b).size 0 5
  generalize hW5 : Lib.bytesWorld w4 5 (a ++ b) = W5 at *
  generalize grownCap w4 (a ++ b).size 0 5 = cap at *
  have hcells' := Lib.hid hcells
  have hab' := Lib.hid hab
  have hsz' := Lib.hid hsz
  have hcon : Hid (Calls Try.prog 11 #[.slice (some ⟨w4.heap.size, 0, none⟩) (a.size + b.size) cap, .int .u8 46] W5 (HasB (a ++ b) W5)) := by
    rw [← hab]
    exact containsByte_any (a ++ b) w4.heap.size cap W5 (by omega) hcells
  clear hcells hW5 hab hsz hcap1
  go_wp2_with fail
  refine hcon.out.mono ?_
  rintro e w6 ⟨r, rfl, hnd, rfl⟩
  clear b0 b1 b2 b3 b4 b5 d0 d1 d2 d3 d4 d5 hcv hbw4 hbel4
  obtain ⟨⟨b0, b1, b2, b3, b4, b5⟩, ⟨d0, d1, d2, d3, d4, d5⟩, hbw4⟩ := boxed2 hbel5
  cases r with
  | true =>
    clear hnd
    go_wp2_with fail
    refine (filters_any W5).mono ?_
    rintro e w5 ⟨r, rfl, rfl, hb5⟩
    have hbw5 := hbw4.trans (hb5.mono hbw4.size)
    clear b0 b1 b2 b3 b4 b5 d0 d1 d2 d3 d4 d5
    go_wp2_with fail
    go_ret
    exact ⟨true, rfl, rfl, hbw5⟩
  | false =>
  have hnd' := Lib.hid (hnd rfl)
  clear hnd
  by_cases hea : a.toList = []
  · have hea' : a.toList.isEmpty = true := by rw [hea]; rfl
    go_wp2_with fail
    refine (filters_any W5).mono ?_
    rintro e w5 ⟨r, rfl, rfl, hb5⟩
    have hbw5 := hbw4.trans (hb5.mono hbw4.size)
    clear b0 b1 b2 b3 b4 b5 d0 d1 d2 d3 d4 d5
    go_wp2_with fail
    go_ret
    exact ⟨true, rfl, rfl, hbw5⟩
  have hea' : a.toList.isEmpty = false := by rw [Bool.eq_false_iff]; intro h; exact hea (List.isEmpty_iff.1 h)
  by_cases heb : b.toList = []
  · have heb' : b.toList.isEmpty = true := by rw [heb]; rfl
    go_wp2_with fail
    refine (filters_any W5).mono ?_
    rintro e w5 ⟨r, rfl, rfl, hb5⟩
    have hbw5 := hbw4.trans (hb5.mono hbw4.size)
    clear b0 b1 b2 b3 b4 b5 d0 d1 d2 d3 d4 d5
    go_wp2_with fail
    go_ret
    exact ⟨true, rfl, rfl, hbw5⟩
  have heb' : b.toList.isEmpty = false := by rw [Bool.eq_false_iff]; intro h; exact heb (List.isEmpty_iff.1 h)
  have hnda : NoDot a := (noDot_app hnd'.out).1
  have hndb : NoDot b := (noDot_app hnd'.out).2
  have hx8 : x.kind ≠ 8 := beq_eq_false_iff_ne.1 hk8'
  have hx7 : x.kind ≠ 7 := beq_eq_false_iff_ne.1 hk7'
  have hlf : LeafV x := ⟨(by cases hpf'.out.2.2 with | mk _ h _ => exact h), hx7, hx8⟩
  have hdot : Hid (a ++ ⟨#[46]⟩ ++ b = dotted a b) := dotted_app a b
  have hds := dotted_size a b
  have hS5 : w.heap.size + 2 ≤ W5.heap.size := by have := hsz'.out; omega
  have wx := hpf'.out.1
  have wv := hpt'.out.1
  have ox := hpf'.out.2.1
  have ov := hpt'.out.2.1
  have nx := hpf'.out.2.2
  have nv := hpt'.out.2.2
  have w1' : (V.obj1 a (V.obj1 b x)).wt ≤ 1000000 := by rw [obj1_wt, obj1_wt]; omega
  have w2' : (V.obj1 (dotted a b) x).wt ≤ 1000000 := by rw [obj1_wt]; omega
  have hm1 : Hid (∀ (A1 B1 : Option Addr) (ca1 cb1 : Nat) (W : World), Bds (V.obj1 a (V.obj1 b x)) ca1 cb1 → Strs any W B1 (V.obj1 a (V.obj1 b x)).keys → Vals any W A1 (V.obj1 a (V.obj1 b x)).l → Below w.heap.size w W →
      Calls Try.prog 13 #[.agg #[.int .i64 (V.obj1 a (V.obj1 b x)).kind, .int .i64 (V.obj1 a (V.obj1 b x)).n, .float .f64 (V.obj1 a (V.obj1 b x)).f, .string (V.obj1 a (V.obj1 b x)).s, .slice A1 (V.obj1 a (V.obj1 b x)).l.length ca1, .slice B1 (V.obj1 a (V.obj1 b x)).keys.length cb1], .agg #[.int .i64 v.kind, .int .i64 v.n, .float .f64 v.f, .string v.s, .slice A' v.l.length ca', .slice B' v.keys.length cb']] W (FitsAns (M (V.obj1 a (V.obj1 b x)) v) W)) :=
    fun A1 B1 ca1 cb1 W h1 h2 h3 h4 => fMatch_any _ v _ A1 B1 A' B' ca1 cb1 ca' cb' W h1 h2 h3 hb' (hB'.bel h4) (hA'.bel h4) rfl (obj1_ok (obj1_ok ox)) ov w1' (by omega) nv (obj1_ok (obj1_ok ox)) (obj1_no (obj1_no nx)) (roadsOne_nest a b x (by omega) (by omega) hx8) (makes_nest a b x hnda hndb (by omega) (by omega) hlf)
  have hm2 : Hid (∀ (A1 B1 : Option Addr) (ca1 cb1 : Nat) (W : World), Bds (V.obj1 (dotted a b) x) ca1 cb1 → Strs any W B1 (V.obj1 (dotted a b) x).keys → Vals any W A1 (V.obj1 (dotted a b) x).l → Below w.heap.size w W →
      Calls Try.prog 13 #[.agg #[.int .i64 (V.obj1 (dotted a b) x).kind, .int .i64 (V.obj1 (dotted a b) x).n, .float .f64 (V.obj1 (dotted a b) x).f, .string (V.obj1 (dotted a b) x).s, .slice A1 (V.obj1 (dotted a b) x).l.length ca1, .slice B1 (V.obj1 (dotted a b) x).keys.length cb1], .agg #[.int .i64 v.kind, .int .i64 v.n, .float .f64 v.f, .string v.s, .slice A' v.l.length ca', .slice B' v.keys.length cb']] W (FitsAns (M (V.obj1 a (V.obj1 b x)) v) W)) :=
    fun A1 B1 ca1 cb1 W h1 h2 h3 h4 => fMatch_any _ v _ A1 B1 A' B' ca1 cb1 ca' cb' W h1 h2 h3 hb' (hB'.bel h4) (hA'.bel h4) rfl (obj1_ok ox) ov w2' (by omega) nv (obj1_ok (obj1_ok ox)) (obj1_no (obj1_no nx)) (roadsOne_leaf (dotted a b) x (by omega) hx8) (makes_two a b x hnda hndb (by omega) (by omega) hlf)
  have hS1 : Hid ((fun w' => w'.cell? ⟨w.heap.size, 0, none⟩ = some (.int .i64 x.kind) ∧ w'.cell? ⟨w.heap.size, 1, none⟩ = some (.int .i64 x.n) ∧ w'.cell? ⟨w.heap.size, 2, none⟩ = some (.float .f64 x.f) ∧ w'.cell? ⟨w.heap.size, 3, none⟩ = some (.string x.s) ∧ w'.cell? ⟨w.heap.size, 4, none⟩ = some (.slice A x.l.length ca) ∧ w'.cell? ⟨w.heap.size, 5, none⟩ = some (.slice B x.keys.length cb) ∧ w'.cell? ⟨w.heap.size + 1, 0, none⟩ = some (.int .i64 v.kind) ∧ w'.cell? ⟨w.heap.size + 1, 1, none⟩ = some (.int .i64 v.n) ∧ w'.cell? ⟨w.heap.size + 1, 2, none⟩ = some (.float .f64 v.f) ∧ w'.cell? ⟨w.heap.size + 1, 3, none⟩ = some (.string v.s) ∧ w'.cell? ⟨w.heap.size + 1, 4, none⟩ = some (.slice A' v.l.length ca') ∧ w'.cell? ⟨w.heap.size + 1, 5, none⟩ = some (.slice B' v.keys.length cb')) W5) := ⟨b0, b1, b2, b3, b4, b5, d0, d1, d2, d3, d4, d5⟩
  have hS2 : Hid (∀ w2, Below W5.heap.size W5 w2 → (fun w' => w'.cell? ⟨w.heap.size, 0, none⟩ = some (.int .i64 x.kind) ∧ w'.cell? ⟨w.heap.size, 1, none⟩ = some (.int .i64 x.n) ∧ w'.cell? ⟨w.heap.size, 2, none⟩ = some (.float .f64 x.f) ∧ w'.cell? ⟨w.heap.size, 3, none⟩ = some (.string x.s) ∧ w'.cell? ⟨w.heap.size, 4, none⟩ = some (.slice A x.l.length ca) ∧ w'.cell? ⟨w.heap.size, 5, none⟩ = some (.slice B x.keys.length cb) ∧ w'.cell? ⟨w.heap.size + 1, 0, none⟩ = some (.int .i64 v.kind) ∧ w'.cell? ⟨w.heap.size + 1, 1, none⟩ = some (.int .i64 v.n) ∧ w'.cell? ⟨w.heap.size + 1, 2, none⟩ = some (.float .f64 v.f) ∧ w'.cell? ⟨w.heap.size + 1, 3, none⟩ = some (.string v.s) ∧ w'.cell? ⟨w.heap.size + 1, 4, none⟩ = some (.slice A' v.l.length ca') ∧ w'.cell? ⟨w.heap.size + 1, 5, none⟩ = some (.slice B' v.keys.length cb')) w2) := fun w2 hb2 => by
    obtain ⟨s1, s2, s3, s4, s5, s6, s7, s8, s9, s10, s11, s12⟩ := hS1.out
    have h := fun (p : Addr) (hp : p.block < W5.heap.size) => hb2.cell (p := p) hp
    have g0 : w.heap.size < W5.heap.size := by omega
    have g1 : w.heap.size + 1 < W5.heap.size := by omega
    exact ⟨(h _ g0).trans s1, (h _ g0).trans s2, (h _ g0).trans s3, (h _ g0).trans s4, (h _ g0).trans s5, (h _ g0).trans s6, (h _ g1).trans s7, (h _ g1).trans s8, (h _ g1).trans s9, (h _ g1).trans s10, (h _ g1).trans s11, (h _ g1).trans s12⟩
  have ka : Hid (a.size ≤ 1000000) := by show _ ≤ _; omega
  have kb : Hid (b.size ≤ 1000000) := by show _ ≤ _; omega
  have kd : Hid ((dotted a b).size ≤ 1000000) := by show _ ≤ _; omega
  clear hcells' hab' hcon hnd' hbel5 hs4 hs3 hs2 hs1 hx8 hx7 hlf hds wx wv ox ov nx nv w1' w2' hnda hndb hpf' hpt'
  go_wp2_with fail
  go_region_held3 (fun w' => w'.cell? ⟨w.heap.size, 0, none⟩ = some (.int .i64 x.kind) ∧ w'.cell? ⟨w.heap.size, 1, none⟩ = some (.int .i64 x.n) ∧ w'.cell? ⟨w.heap.size, 2, none⟩ = some (.float .f64 x.f) ∧ w'.cell? ⟨w.heap.size, 3, none⟩ = some (.string x.s) ∧ w'.cell? ⟨w.heap.size, 4, none⟩ = some (.slice A x.l.length ca) ∧ w'.cell? ⟨w.heap.size, 5, none⟩ = some (.slice B x.keys.length cb) ∧ w'.cell? ⟨w.heap.size + 1, 0, none⟩ = some (.int .i64 v.kind) ∧ w'.cell? ⟨w.heap.size + 1, 1, none⟩ = some (.int .i64 v.n) ∧ w'.cell? ⟨w.heap.size + 1, 2, none⟩ = some (.float .f64 v.f) ∧ w'.cell? ⟨w.heap.size + 1, 3, none⟩ = some (.string v.s) ∧ w'.cell? ⟨w.heap.size + 1, 4, none⟩ = some (.slice A' v.l.length ca') ∧ w'.cell? ⟨w.heap.size + 1, 5, none⟩ = some (.slice B' v.keys.length cb')) (first | exact hS1.out | exact hS3.out | exact hS4.out | exact hS6.out | go_keep)
    (first
    | (go_at_call 13; refine (hm1.out A7 B7 ca7 cb7 w7 hb7 hB7 hA7 hbw7).mono ?_; rintro e w8 ⟨r, rfl, hr, hl8⟩; have hl8' := hl7'.trans (hl8.mono hl7'.size); have hS6 := Lib.hid (hS2.out w8 hl8'))
    | (go_at_call 14; refine (object_any a (V.obj1 b x) A6 B6 ca6 cb6 w6 hb6 hB6 hA6 ka.out).mono ?_; rintro e w7 ⟨A7, ca7, B7, cb7, rfl, hb7, hB7, hA7, hl7⟩; have hl7' := hl6'.trans (hl7.mono hl6'.size); have hbw7 := hbw4.trans (hl7'.mono hbw4.size); have hS4 := Lib.hid (hS2.out w7 hl7'))
    | (go_at_call 14; refine (object_any b x A B ca cb W5.drew hb (hB.bel (below_drew hbw4)) (hA.bel (below_drew hbw4)) kb.out).mono ?_; rintro e w6 ⟨A6, ca6, B6, cb6, rfl, hb6, hB6, hA6, hl6⟩; have hl6' := below_undrew hl6; have hS3 := Lib.hid (hS2.out w6 hl6')))
  have hbw8 := hbw4.trans (hl8'.mono hbw4.size)
  have hS8 : w.heap.size + 2 ≤ w8.heap.size := by have := hl8'.size; omega
  have hT1 : Hid ((fun w' => w'.cell? ⟨w.heap.size, 0, none⟩ = some (.int .i64 x.kind) ∧ w'.cell? ⟨w.heap.size, 1, none⟩ = some (.int .i64 x.n) ∧ w'.cell? ⟨w.heap.size, 2, none⟩ = some (.float .f64 x.f) ∧ w'.cell? ⟨w.heap.size, 3, none⟩ = some (.string x.s) ∧ w'.cell? ⟨w.heap.size, 4, none⟩ = some (.slice A x.l.length ca) ∧ w'.cell? ⟨w.heap.size, 5, none⟩ = some (.slice B x.keys.length cb) ∧ w'.cell? ⟨w.heap.size + 1, 0, none⟩ = some (.int .i64 v.kind) ∧ w'.cell? ⟨w.heap.size + 1, 1, none⟩ = some (.int .i64 v.n) ∧ w'.cell? ⟨w.heap.size + 1, 2, none⟩ = some (.float .f64 v.f) ∧ w'.cell? ⟨w.heap.size + 1, 3, none⟩ = some (.string v.s) ∧ w'.cell? ⟨w.heap.size + 1, 4, none⟩ = some (.slice A' v.l.length ca') ∧ w'.cell? ⟨w.heap.size + 1, 5, none⟩ = some (.slice B' v.keys.length cb')) w8) := hS6
  have hr' := Lib.hid hr
  clear hS1 hS2 hS3 hS4 hS6 hl8' hl8 hl7' hl7 hl6' hl6 hbw7 hB6 hA6 hB7 hA7 hb6 hb7 hr b0 b1 b2 b3 b4 b5 d0 d1 d2 d3 d4 d5
  have hT2 : Hid (∀ w2, Below w8.heap.size w8 w2 → (fun w' => w'.cell? ⟨w.heap.size, 0, none⟩ = some (.int .i64 x.kind) ∧ w'.cell? ⟨w.heap.size, 1, none⟩ = some (.int .i64 x.n) ∧ w'.cell? ⟨w.heap.size, 2, none⟩ = some (.float .f64 x.f) ∧ w'.cell? ⟨w.heap.size, 3, none⟩ = some (.string x.s) ∧ w'.cell? ⟨w.heap.size, 4, none⟩ = some (.slice A x.l.length ca) ∧ w'.cell? ⟨w.heap.size, 5, none⟩ = some (.slice B x.keys.length cb) ∧ w'.cell? ⟨w.heap.size + 1, 0, none⟩ = some (.int .i64 v.kind) ∧ w'.cell? ⟨w.heap.size + 1, 1, none⟩ = some (.int .i64 v.n) ∧ w'.cell? ⟨w.heap.size + 1, 2, none⟩ = some (.float .f64 v.f) ∧ w'.cell? ⟨w.heap.size + 1, 3, none⟩ = some (.string v.s) ∧ w'.cell? ⟨w.heap.size + 1, 4, none⟩ = some (.slice A' v.l.length ca') ∧ w'.cell? ⟨w.heap.size + 1, 5, none⟩ = some (.slice B' v.keys.length cb')) w2) := fun w2 hb2 => by
    obtain ⟨s1, s2, s3, s4, s5, s6, s7, s8, s9, s10, s11, s12⟩ := hT1.out
    have h := fun (p : Addr) (hp : p.block < w8.heap.size) => hb2.cell (p := p) hp
    have g0 : w.heap.size < w8.heap.size := by omega
    have g1 : w.heap.size + 1 < w8.heap.size := by omega
    exact ⟨(h _ g0).trans s1, (h _ g0).trans s2, (h _ g0).trans s3, (h _ g0).trans s4, (h _ g0).trans s5, (h _ g0).trans s6, (h _ g1).trans s7, (h _ g1).trans s8, (h _ g1).trans s9, (h _ g1).trans s10, (h _ g1).trans s11, (h _ g1).trans s12⟩
  obtain ⟨b0, b1, b2, b3, b4, b5, d0, d1, d2, d3, d4, d5⟩ := hT1.out
  have hq1 : ¬ 9223372036854775807 < a.size + 1 := by omega
  have hq2 : ¬ 9223372036854775807 < a.size + 1 + b.size := by omega
  have hz46 : (⟨#[46]⟩ : ByteArray).size = 1 := rfl
  have hq3 : (Op.stringOp .add a ⟨#[46]⟩).run Try.prog w8.drew = .ok (.string (a ++ ⟨#[46]⟩)) w8.drew := Go.run_string_add_sum _ _ _ (by rw [hz46]; omega)
  have hq4 : (Op.stringOp .add (a ++ ⟨#[46]⟩) b).run Try.prog w8.drew = .ok (.string (a ++ ⟨#[46]⟩ ++ b)) w8.drew := Go.run_string_add_sum _ _ _ (by rw [ByteArray.size_append, hz46]; omega)
  go_wp2_with fail
  go_region_held3 (fun w' => w'.cell? ⟨w.heap.size, 0, none⟩ = some (.int .i64 x.kind) ∧ w'.cell? ⟨w.heap.size, 1, none⟩ = some (.int .i64 x.n) ∧ w'.cell? ⟨w.heap.size, 2, none⟩ = some (.float .f64 x.f) ∧ w'.cell? ⟨w.heap.size, 3, none⟩ = some (.string x.s) ∧ w'.cell? ⟨w.heap.size, 4, none⟩ = some (.slice A x.l.length ca) ∧ w'.cell? ⟨w.heap.size, 5, none⟩ = some (.slice B x.keys.length cb) ∧ w'.cell? ⟨w.heap.size + 1, 0, none⟩ = some (.int .i64 v.kind) ∧ w'.cell? ⟨w.heap.size + 1, 1, none⟩ = some (.int .i64 v.n) ∧ w'.cell? ⟨w.heap.size + 1, 2, none⟩ = some (.float .f64 v.f) ∧ w'.cell? ⟨w.heap.size + 1, 3, none⟩ = some (.string v.s) ∧ w'.cell? ⟨w.heap.size + 1, 4, none⟩ = some (.slice A' v.l.length ca') ∧ w'.cell? ⟨w.heap.size + 1, 5, none⟩ = some (.slice B' v.keys.length cb')) (first | exact hT1.out | exact hT3.out | exact hT4.out | go_keep)
    (first
    | (go_at_call 14; rw [hdot.out]; refine (object_any (dotted a b) x A B ca cb w8.drew hb (hB.bel (below_drew hbw8)) (hA.bel (below_drew hbw8)) kd.out).mono ?_; rintro e w9 ⟨A9, ca9, B9, cb9, rfl, hb9, hB9, hA9, hl9⟩; have hl9' := below_undrew hl9; have hbw9 := hbw8.trans (hl9'.mono hbw8.size); have hT3 := Lib.hid (hT2.out w9 hl9'))
    | (go_at_call 13; refine (hm2.out A9 B9 ca9 cb9 w9 hb9 hB9 hA9 hbw9).mono ?_; rintro e w10 ⟨r2, rfl, hr2, hl10⟩; have hl10' := hl9'.trans (hl10.mono hl9'.size); have hT4 := Lib.hid (hT2.out w10 hl10')))
  have hbw10 := hbw8.trans (hl10'.mono hbw8.size)
  have heq : (r == r2) = true := by
    have h1 := hr'.out
    rw [beq_iff_eq]
    cases r <;> cases r2 <;> simp_all
  clear hT1 hT2 hT3 hT4 hl10' hl10 hl9 hl9' hr' hr2 hbw9 hB9 hA9 hb9 hm1 hm2 b0 b1 b2 b3 b4 b5 d0 d1 d2 d3 d4 d5
  go_wp2_with fail
  refine (filters_any w10).mono ?_
  rintro e w11 ⟨rr, rfl, rfl, hb11⟩
  have hbw11 := hbw10.trans (hb11.mono hbw10.size)
  go_wp2_with fail
  go_ret
  exact ⟨true, rfl, rfl, hbw11⟩
end Go.Proofs.Ytpdcoipfpffhnaa
