/-
  impl.value at leaves. Conditions: none.
-/
import Derived.Test.YtpdcoipfpffhnaaGreatVal0
namespace Go.Proofs.YtpdcoipfpffhnaaGreat
open Go.ChangeShapes Go.WideShapes Go.ChangeAt Go.RowKit
set_option linter.unusedVariables false
set_option linter.unusedSimpArgs false
attribute [local go_sem] store_float'
attribute [local go_sem] tay_bool tam_bool tan_bool tay_int tam_int tan_int tay_int8 tam_int8 tan_int8 tay_int16 tam_int16 tan_int16 tay_int32 tam_int32 tan_int32 tay_int64 tam_int64 tan_int64 tay_uint tam_uint tan_uint tay_uint8 tam_uint8 tan_uint8 tay_uint16 tam_uint16 tan_uint16 tay_uint32 tam_uint32 tan_uint32 tay_uint64 tam_uint64 tan_uint64 tay_float32 tam_float32 tan_float32 tay_float64 tam_float64 tan_float64 tay_string tam_string tan_string tay_sl tam_sl tan_sl tay_mp tam_mp tan_mp tay_gbool tam_gbool tan_gbool tay_gint tam_gint tan_gint tay_gfl tam_gfl tan_gfl tay_gstr tam_gstr tan_gstr tay_jnum tam_jnum tan_jnum tay_gbig tam_gbig tan_gbig tay_garr tam_garr tan_garr tay_lst tam_lst tan_lst tay_gobj tam_gobj tan_gobj tay_dct tam_dct tan_dct

set_option maxRecDepth 100000 in
set_option maxHeartbeats 2000000 in
theorem value_nil (w : World) : Calls Tryz.prog 19 #[.nilIface] w (fun e w' => e = .returned (.agg #[.int .i64 1, .int .i64 0, .float .f64 0, .string ⟨#[]⟩, .slice none 0 0, .slice none 0 0]) ∧ Below w.heap.size w w') := by
  go_enter Tryz.func19, Tryz.ntmps19
  go_wp2_with fail
  exact bodyPost_ret (v := .agg #[.int .i64 1, .int .i64 0, .float .f64 0, .string ⟨#[]⟩, .slice none 0 0, .slice none 0 0]) (by simp [results, Tryz.results19, go_sem]) rfl ⟨rfl, below_alloc _ _⟩

set_option maxRecDepth 100000 in
set_option maxHeartbeats 2000000 in
theorem value_int (n : Int) (w : World) : Calls Tryz.prog 19 #[.iface 2 (.int .i64 n)] w (fun e w' => e = .returned (.agg #[.int .i64 3, .int .i64 n, .float .f64 0, .string ⟨#[]⟩, .slice none 0 0, .slice none 0 0]) ∧ Below w.heap.size w w') := by
  go_enter Tryz.func19, Tryz.ntmps19
  go_wp2_with fail
  exact bodyPost_ret (v := .agg #[.int .i64 3, .int .i64 n, .float .f64 0, .string ⟨#[]⟩, .slice none 0 0, .slice none 0 0]) (by simp [results, Tryz.results19, go_sem]) rfl ⟨rfl, below_alloc _ _⟩

set_option maxRecDepth 100000 in
set_option maxHeartbeats 2000000 in
theorem value_float (f : Nat) (w : World) : Calls Tryz.prog 19 #[.iface 22 (.float .f64 f)] w (fun e w' => e = .returned (.agg #[.int .i64 4, .int .i64 0, .float .f64 f, .string ⟨#[]⟩, .slice none 0 0, .slice none 0 0]) ∧ Below w.heap.size w w') := by
  go_enter Tryz.func19, Tryz.ntmps19
  go_wp2_with fail
  exact bodyPost_ret (v := .agg #[.int .i64 4, .int .i64 0, .float .f64 f, .string ⟨#[]⟩, .slice none 0 0, .slice none 0 0]) (by simp [results, Tryz.results19, go_sem]) rfl ⟨rfl, below_alloc _ _⟩

set_option maxRecDepth 100000 in
set_option maxHeartbeats 2000000 in
theorem value_str (s : ByteArray) (w : World) : Calls Tryz.prog 19 #[.iface 9 (.string s)] w (fun e w' => e = .returned (.agg #[.int .i64 5, .int .i64 0, .float .f64 0, .string s, .slice none 0 0, .slice none 0 0]) ∧ Below w.heap.size w w') := by
  go_enter Tryz.func19, Tryz.ntmps19
  go_wp2_with fail
  exact bodyPost_ret (v := .agg #[.int .i64 5, .int .i64 0, .float .f64 0, .string s, .slice none 0 0, .slice none 0 0]) (by simp [results, Tryz.results19, go_sem]) rfl ⟨rfl, below_alloc _ _⟩

theorem truth_any (t : Bool) (w : World) : Calls Tryz.prog 32 #[.bool t] w (fun e w' => e = .returned (.agg #[.int .i64 2, .int .i64 (if t = true then 1 else 0), .float .f64 0, .string ⟨#[]⟩, .slice none 0 0, .slice none 0 0]) ∧ Below w.heap.size w w') := by
  cases t
  · go_enter Tryz.func32, Tryz.ntmps32
    go_wp2_with fail
    exact bodyPost_ret (v := .agg #[.int .i64 2, .int .i64 0, .float .f64 0, .string ⟨#[]⟩, .slice none 0 0, .slice none 0 0]) (by simp [results, Tryz.results32, go_sem]) rfl ⟨rfl, below_alloc _ _⟩
  · go_enter Tryz.func32, Tryz.ntmps32
    go_wp2_with fail
    exact bodyPost_ret (v := .agg #[.int .i64 2, .int .i64 1, .float .f64 0, .string ⟨#[]⟩, .slice none 0 0, .slice none 0 0]) (by simp [results, Tryz.results32, go_sem]) rfl ⟨rfl, below_alloc _ _⟩

set_option maxRecDepth 100000 in
set_option maxHeartbeats 2000000 in
theorem value_bool (t : Bool) (w : World) : Calls Tryz.prog 19 #[.iface 4 (.bool t)] w (fun e w' => e = .returned (.agg #[.int .i64 2, .int .i64 (if t = true then 1 else 0), .float .f64 0, .string ⟨#[]⟩, .slice none 0 0, .slice none 0 0]) ∧ Below w.heap.size w w') := by
  obtain ⟨m, hm⟩ : ∃ m : Int, m = (if t = true then 1 else 0) := ⟨_, rfl⟩
  have hmH := Lib.hid hm
  have ht : ∀ W : World, Calls Tryz.prog 32 #[.bool t] W (fun e w' => e = .returned (.agg #[.int .i64 2, .int .i64 m, .float .f64 0, .string ⟨#[]⟩, .slice none 0 0, .slice none 0 0]) ∧ Below W.heap.size W w') := fun W => by rw [hm]; exact truth_any t W
  have htH := Lib.hid ht
  rw [← hm]
  clear hm ht
  go_enter Tryz.func19, Tryz.ntmps19
  go_wp2_with fail
  refine (htH.out _).mono ?_
  rintro e w1 ⟨rfl, hb1⟩
  have hz := (zero_new w 26).bel hb1 (by rw [alloc_size]; omega)
  obtain ⟨c0, c1, c2, c3, c4, c5, f0, f1, f2, f3, f4, f5⟩ := hz
  have hbw := (below_alloc w (.cells #[.int .i64 0, .int .i64 0, .float .f64 0, .string ⟨#[]⟩, .slice none 0 0, .slice none 0 0] 26)).trans (hb1.mono (by rw [alloc_size]; omega))
  have hlt : w.heap.size < w1.heap.size := by have := hb1.size; rw [alloc_size] at this; omega
  clear hb1
  go_wp2_with fail
  exact bodyPost_ret (v := .agg #[.int .i64 2, .int .i64 m, .float .f64 0, .string ⟨#[]⟩, .slice none 0 0, .slice none 0 0]) (by simp [results, Tryz.results19, go_sem, c0, c1, c2, c3, c4, c5]) rfl
    ⟨rfl, ((((((hbw.setCell (by simp) _).setCell (by simp) _).setCell (by simp) _).setCell (by simp) _).setCell (by simp) _).setCell (by simp) _)⟩

/-- A value is handed back that is alike, all of it new. -/
def ValPost (t : V) (w : World) (e : Ending) (w' : World) : Prop := ∃ v2 A ca B cb, e = .returned (.agg #[.int .i64 v2.kind, .int .i64 v2.n, .float .f64 v2.f, .string v2.s, .slice A v2.l.length ca, .slice B v2.keys.length cb]) ∧ Bds v2 ca cb ∧ Strs (fun k => w.heap.size ≤ k) w' B v2.keys ∧ Vals (fun k => w.heap.size ≤ k) w' A v2.l ∧ Below w.heap.size w w' ∧ EqV v2 t
def V.lf (k n : Int) (f : Nat) (s : ByteArray) : V := ⟨k, n, f, s, [], []⟩
theorem val_leaf {t : V} {w w' : World} {k n : Int} {f : Nat} {s : ByteArray} (hk : 1 ≤ k ∧ k ≤ 5) (hn : I64 n) (hf : f < 18446744073709551616) (hs : s.size ≤ 140737488351232) (heq : EqV (V.lf k n f s) t) (hb : Below w.heap.size w w') :
    ValPost t w (.returned (.agg #[.int .i64 k, .int .i64 n, .float .f64 f, .string s, .slice none 0 0, .slice none 0 0])) w' :=
  ⟨V.lf k n f s, none, 0, none, 0, rfl, ⟨by unfold I64; constructor <;> (show _ ≤ _; dsimp only [V.lf]; omega), hn, hf, hs, by simp [V.lf], by simp, by simp [V.lf], by simp, by simp [V.lf], by simp [V.lf]⟩, fun h => absurd rfl h, fun h => absurd rfl h, hb, heq⟩

theorem value_leaf (v1 t : V) (x : Value) (w : World) {lo hi : Nat} (hx : PT w lo hi v1 x) (heq : EqV v1 t) (htf : t.Fin) (hto : t.Ok) (htw : t.wt ≤ 1000000) (h7 : v1.kind ≠ 7) (h8 : v1.kind ≠ 8) :
    Calls Tryz.prog 19 #[x] w (ValPost t w) := by
  have hz : I64 0 := by unfold I64; omega
  have hz1 : I64 1 := by unfold I64; omega
  have hsz : t.s.size ≤ 140737488351232 := by have := wt_str t; omega
  have hk := heq.kind
  cases heq with
  | arr _ _ ha => exact absurd ha h7
  | obj _ _ ha => exact absurd ha h8
  | leaf _ _ hk' h5 hn hf hs =>
  cases hx with
  | null _ _ _ h =>
    refine (value_nil w).mono ?_
    rintro e w' ⟨rfl, hb⟩
    exact val_leaf (by omega) hz (by omega) (by show (0 : Nat) ≤ _; omega) (.leaf _ _ (by rw [← hk, h]; rfl) (Or.inl rfl) (fun h => by rcases h with h | h <;> cases h) (fun h => by cases h) (fun h => by cases h)) hb
  | bool _ _ _ h =>
    refine (value_bool _ w).mono ?_
    rintro e w' ⟨rfl, hb⟩
    have hnt : t.n = 0 ∨ t.n = 1 := by cases hto <;> first | omega | assumption
    have hv : (if (v1.n == 1) = true then (1 : Int) else 0) = t.n := by
      rw [hn (Or.inl h)]
      rcases hnt with e | e <;> rw [e] <;> rfl
    rw [hv]
    exact val_leaf (by omega) htf.n (by omega) (by show (0 : Nat) ≤ _; omega) (.leaf _ _ (by rw [← hk, h]; rfl) (Or.inr (Or.inl rfl)) (fun _ => rfl) (fun h => by cases h) (fun h => by cases h)) hb
  | int _ _ _ h =>
    refine (value_int _ w).mono ?_
    rintro e w' ⟨rfl, hb⟩
    rw [hn (Or.inr h)]
    exact val_leaf (by omega) htf.n (by omega) (by show (0 : Nat) ≤ _; omega) (.leaf _ _ (by rw [← hk, h]; rfl) (Or.inr (Or.inr (Or.inl rfl))) (fun _ => rfl) (fun h => by cases h) (fun h => by cases h)) hb
  | float _ _ _ h =>
    refine (value_float _ w).mono ?_
    rintro e w' ⟨rfl, hb⟩
    obtain ⟨e1, e2⟩ := hf h
    rw [e1] at e2 ⊢
    exact val_leaf (by omega) hz htf.f (by show (0 : Nat) ≤ _; omega) (.leaf _ _ (by rw [← hk, h]; rfl) (Or.inr (Or.inr (Or.inr (Or.inl rfl)))) (fun h => by rcases h with h | h <;> cases h) (fun _ => ⟨rfl, e2⟩) (fun h => by cases h)) hb
  | str _ _ _ h =>
    refine (value_str _ w).mono ?_
    rintro e w' ⟨rfl, hb⟩
    rw [hs h]
    exact val_leaf (by omega) hz (by omega) hsz (.leaf _ _ (by rw [← hk, h]; rfl) (Or.inr (Or.inr (Or.inr (Or.inr rfl)))) (fun h => by rcases h with h | h <;> cases h) (fun h => by cases h) (fun _ => rfl)) hb
  | arr _ _ _ h => exact absurd h h7
  | obj _ _ _ h => exact absurd h h8
end Go.Proofs.YtpdcoipfpffhnaaGreat
