/-
  impl.value, whole. Conditions: none.
-/
import Derived.Test.YtpdcoipfpffhnaaGreatObjV
namespace Go.Proofs.YtpdcoipfpffhnaaGreat
open Go.ChangeShapes Go.WideShapes Go.ChangeAt Go.RowKit
set_option linter.unusedVariables false
set_option linter.unusedSimpArgs false
attribute [local go_sem] store_float'
attribute [local go_sem] tay_bool tam_bool tan_bool tay_int tam_int tan_int tay_int8 tam_int8 tan_int8 tay_int16 tam_int16 tan_int16 tay_int32 tam_int32 tan_int32 tay_int64 tam_int64 tan_int64 tay_uint tam_uint tan_uint tay_uint8 tam_uint8 tan_uint8 tay_uint16 tam_uint16 tan_uint16 tay_uint32 tam_uint32 tan_uint32 tay_uint64 tam_uint64 tan_uint64 tay_float32 tam_float32 tan_float32 tay_float64 tam_float64 tan_float64 tay_string tam_string tan_string tay_sl tam_sl tan_sl tay_mp tam_mp tan_mp tay_gbool tam_gbool tan_gbool tay_gint tam_gint tan_gint tay_gfl tam_gfl tan_gfl tay_gstr tam_gstr tan_gstr tay_jnum tam_jnum tan_jnum tay_gbig tam_gbig tan_gbig tay_garr tam_garr tan_garr tay_lst tam_lst tan_lst tay_gobj tam_gobj tan_gobj tay_dct tam_dct tan_dct
def Fields (k : Int) (AL : Option Addr) (nL cL : Nat) (AK : Option Addr) (nK cK : Nat) (P : World → Prop) (e : Ending) (w' : World) : Prop := e = .returned (.agg #[.int .i64 k, .int .i64 0, .float .f64 0, .string ⟨#[]⟩, .slice AL nL cL, .slice AK nK cK]) ∧ P w'

set_option maxRecDepth 100000 in
set_option maxHeartbeats 4000000 in
theorem value_arr (A : Option Addr) (n c : Nat) (P : Ending → World → Prop) (w : World)
    (hcall : Calls Tryz.prog 33 #[.slice A n c] (w.alloc (.cells #[.int .i64 0, .int .i64 0, .float .f64 0, .string ⟨#[]⟩, .slice none 0 0, .slice none 0 0] 26)) (fun e w1 => ∃ AL nL cL, e = .returned (.agg #[.int .i64 7, .int .i64 0, .float .f64 0, .string ⟨#[]⟩, .slice AL nL cL, .slice none 0 0]) ∧ Below (w.heap.size + 1) (w.alloc (.cells #[.int .i64 0, .int .i64 0, .float .f64 0, .string ⟨#[]⟩, .slice none 0 0, .slice none 0 0] 26)) w1 ∧ P (.returned (.agg #[.int .i64 7, .int .i64 0, .float .f64 0, .string ⟨#[]⟩, .slice AL nL cL, .slice none 0 0])) w1)) :
    Calls Tryz.prog 19 #[.iface 57 (.slice A n c)] w (fun e w' => ∃ w1, P e w1 ∧ Below w.heap.size w w' ∧ (∀ k, k ≠ w.heap.size → w'.heap[k]? = w1.heap[k]?)) := by
  have H := Lib.hid hcall
  clear hcall
  go_enter Tryz.func19, Tryz.ntmps19
  go_wp2_with fail
  refine H.out.mono ?_
  rintro e w1 ⟨AL, nL, cL, rfl, hb1, hP⟩
  have hz := (zero_new w 26).bel hb1 (by omega)
  obtain ⟨c0, c1, c2, c3, c4, c5, f0, f1, f2, f3, f4, f5⟩ := hz
  have hbw := (below_alloc w (.cells #[.int .i64 0, .int .i64 0, .float .f64 0, .string ⟨#[]⟩, .slice none 0 0, .slice none 0 0] 26)).trans (hb1.mono (by omega))
  have hlt : w.heap.size < w1.heap.size := by have := hb1.size; rw [alloc_size] at this; omega
  have hPH := Lib.hid hP
  clear hb1 hP
  go_wp2_with fail
  refine bodyPost_ret (v := .agg #[.int .i64 7, .int .i64 0, .float .f64 0, .string ⟨#[]⟩, .slice AL nL cL, .slice none 0 0]) (by simp [results, Tryz.results19, go_sem, c0, c1, c2, c3, c4, c5]) rfl
    ⟨w1, hPH.out, ((((((hbw.setCell (by simp) _).setCell (by simp) _).setCell (by simp) _).setCell (by simp) _).setCell (by simp) _).setCell (by simp) _), fun k hk => ?_⟩
  rw [set_far _ _ _ hk, set_far _ _ _ hk, set_far _ _ _ hk, set_far _ _ _ hk, set_far _ _ _ hk, set_far _ _ _ hk]

/-- impl.object without keys. -/
theorem objectV_nil (g : Value) (w : World) : Calls Tryz.prog 35 #[.slice none 0 0, g] w (fun e w' => e = .returned (.agg #[.int .i64 8, .int .i64 0, .float .f64 0, .string ⟨#[]⟩, .slice none 0 0, .slice none 0 0]) ∧ Below w.heap.size w w') := by
  go_enter Tryz.func35, Tryz.ntmps35
  go_wp2_with fail
  refine (sort_any (.slice none 0 0) 0 [] _ (World.ownsRow_nil _ _ _ _) (by simp)).mono ?_
  rintro e w1 ⟨ys, rfl, hp, _, ho1, hg1⟩
  have hbA := below_two w (.cells #[.int .i64 0, .int .i64 0, .float .f64 0, .string ⟨#[]⟩, .slice none 0 0, .slice none 0 0] 26) (.cells #[.int .i64 8, .int .i64 0, .float .f64 0, .string ⟨#[]⟩, .slice none 0 0, .slice none 0 0] 26)
  have hb1 : Below (w.heap.size + 2) ((w.alloc (.cells #[.int .i64 0, .int .i64 0, .float .f64 0, .string ⟨#[]⟩, .slice none 0 0, .slice none 0 0] 26)).alloc (.cells #[.int .i64 8, .int .i64 0, .float .f64 0, .string ⟨#[]⟩, .slice none 0 0, .slice none 0 0] 26)) w1 := (Below.refl _ _).grown hg1 (by rw [alloc_size, alloc_size]; omega) (fun k hk => by simp [Value.ownBlock] at hk)
  have hbw := hbA.trans (hb1.mono (by omega))
  have hz := ((zero_new w 26).bel (below_alloc _ (.cells #[.int .i64 8, .int .i64 0, .float .f64 0, .string ⟨#[]⟩, .slice none 0 0, .slice none 0 0] 26)) (by rw [alloc_size]; omega)).bel hb1 (by omega)
  obtain ⟨z0, z1, z2, z3, z4, z5, f0, f1, f2, f3, f4, f5⟩ := hz
  have hbk := heap_alloc_new (w.alloc (.cells #[.int .i64 0, .int .i64 0, .float .f64 0, .string ⟨#[]⟩, .slice none 0 0, .slice none 0 0] 26)) (.cells #[.int .i64 8, .int .i64 0, .float .f64 0, .string ⟨#[]⟩, .slice none 0 0, .slice none 0 0] 26)
  rw [alloc_size] at hbk
  have hblk := (hb1.block (w.heap.size + 1) (by omega)).trans hbk
  have hc : ∀ (k : Nat) u, (#[.int .i64 8, .int .i64 0, .float .f64 0, .string ⟨#[]⟩, .slice none 0 0, .slice none 0 0] : Array Value)[k]? = some u → w1.cell? ⟨w.heap.size + 1, k, none⟩ = some u := fun k u hu => by simp only [World.cell?, hblk]; exact hu
  have d0 := hc 0 _ rfl
  have d1 := hc 1 _ rfl
  have d2 := hc 2 _ rfl
  have d3 := hc 3 _ rfl
  have d4 := hc 4 _ rfl
  have d5 := hc 5 _ rfl
  have hsz : w.heap.size + 2 ≤ w1.heap.size := (Array.getElem?_eq_some_iff.1 hblk).1
  clear hc hblk hbk hb1 hbA hg1 hp ho1
  go_wp2_with fail
  refine wp_loop_rounds 1 ?_
  rw [rounds_succ]
  go_wp2_with fail
  exact bodyPost_ret (v := .agg #[.int .i64 8, .int .i64 0, .float .f64 0, .string ⟨#[]⟩, .slice none 0 0, .slice none 0 0]) (by simp [results, Tryz.results35, go_sem, z0, z1, z2, z3, z4, z5]) rfl
    ⟨rfl, ((((((hbw.setCell (by simp) _).setCell (by simp) _).setCell (by simp) _).setCell (by simp) _).setCell (by simp) _).setCell (by simp) _)⟩

set_option maxRecDepth 100000 in
set_option maxHeartbeats 4000000 in
theorem value_obj (b : Nat) (P : Ending → World → Prop) (w : World) (KP : World → Option Addr → Nat → Nat → Prop)
    (hkeys : ∀ W, W = (w.alloc (.cells #[.int .i64 0, .int .i64 0, .float .f64 0, .string ⟨#[]⟩, .slice none 0 0, .slice none 0 0] 26)).alloc (.cells #[.map (some b)] 67) → Calls Tryz.prog 36 #[.map (some b)] W (fun e w1 => ∃ A n c, e = .returned (.slice A n c) ∧ Below (w.heap.size + 2) W w1 ∧ KP w1 A n c))
    (hobj : ∀ w1 A n c, KP w1 A n c → Below (w.heap.size + 2) ((w.alloc (.cells #[.int .i64 0, .int .i64 0, .float .f64 0, .string ⟨#[]⟩, .slice none 0 0, .slice none 0 0] 26)).alloc (.cells #[.map (some b)] 67)) w1 → Calls Tryz.prog 35 #[.slice A n c, .func (.func 37) #[] #[.pointer (some ⟨w.heap.size + 1, 0, none⟩)]] w1 (fun e w2 => ∃ AL nL cL AK nK cK, e = .returned (.agg #[.int .i64 8, .int .i64 0, .float .f64 0, .string ⟨#[]⟩, .slice AL nL cL, .slice AK nK cK]) ∧ Below (w.heap.size + 2) w1 w2 ∧ P (.returned (.agg #[.int .i64 8, .int .i64 0, .float .f64 0, .string ⟨#[]⟩, .slice AL nL cL, .slice AK nK cK])) w2)) :
    Calls Tryz.prog 19 #[.iface 67 (.map (some b))] w (fun e w' => ∃ w1, P e w1 ∧ Below w.heap.size w w' ∧ (∀ k, k ≠ w.heap.size → w'.heap[k]? = w1.heap[k]?)) := by
  have HK := Lib.hid (hkeys _ rfl)
  have HO := Lib.hid hobj
  clear hkeys hobj
  have hz0 := (zero_new w 26).bel (below_alloc _ (.cells #[.map (some b)] 67)) (by rw [alloc_size]; omega)
  have hbA := below_two w (.cells #[.int .i64 0, .int .i64 0, .float .f64 0, .string ⟨#[]⟩, .slice none 0 0, .slice none 0 0] 26) (.cells #[.map (some b)] 67)
  go_enter Tryz.func19, Tryz.ntmps19
  go_wp2_with fail
  refine HK.out.mono ?_
  rintro e w1 ⟨A, n, c, rfl, hb1, hKP⟩
  have hO := Lib.hid (HO.out w1 A n c hKP hb1)
  have hz1 := hz0.bel hb1 (by omega)
  have hbw1 := hbA.trans (hb1.mono (by omega))
  clear HK hKP HO hz0
  go_wp2_with fail
  refine hO.out.mono ?_
  rintro e w2 ⟨AL, nL, cL, AK, nK, cK, rfl, hb2, hP⟩
  have hz := hz1.bel hb2 (by omega)
  obtain ⟨c0, c1, c2, c3, c4, c5, f0, f1, f2, f3, f4, f5⟩ := hz
  have hbw := hbw1.trans (hb2.mono (by omega))
  have hlt : w.heap.size < w2.heap.size := by have := hb1.size; have := hb2.size; rw [alloc_size, alloc_size] at *; omega
  have hPH := Lib.hid hP
  clear hb1 hb2 hP hO hz1 hbw1 hbA
  go_wp2_with fail
  refine bodyPost_ret (v := .agg #[.int .i64 8, .int .i64 0, .float .f64 0, .string ⟨#[]⟩, .slice AL nL cL, .slice AK nK cK]) (by simp [results, Tryz.results19, go_sem, c0, c1, c2, c3, c4, c5]) rfl
    ⟨w2, hPH.out, ((((((hbw.setCell (by simp) _).setCell (by simp) _).setCell (by simp) _).setCell (by simp) _).setCell (by simp) _).setCell (by simp) _), fun k hk => ?_⟩
  rw [set_far _ _ _ hk, set_far _ _ _ hk, set_far _ _ _ hk, set_far _ _ _ hk, set_far _ _ _ hk, set_far _ _ _ hk]
end Go.Proofs.YtpdcoipfpffhnaaGreat
