/-
  alt.diff at a leaf. Conditions: none.
-/
import Derived.Test.YtpdcoipfpffhnaaDifR
import Derived.Test.YtpdcoipfpffhnaaMatch
import Derived.Test.YtpdcoipfpffhnaaSplit
import Derived.Test.YtpdcoipfpffhnaaPlain
namespace Go.Proofs.Ytpdcoipfpffhnaa
open Go.ChangeShapes Go.WideShapes Go.ChangeAt Go.RowKit
set_option linter.unusedVariables false
attribute [local go_sem] tay_bool tam_bool tan_bool tay_int tam_int tan_int tay_int8 tam_int8 tan_int8 tay_int16 tam_int16 tan_int16 tay_int32 tam_int32 tan_int32 tay_int64 tam_int64 tan_int64 tay_uint tam_uint tan_uint tay_uint8 tam_uint8 tan_uint8 tay_uint16 tam_uint16 tan_uint16 tay_uint32 tam_uint32 tan_uint32 tay_uint64 tam_uint64 tan_uint64 tay_float32 tam_float32 tan_float32 tay_float64 tam_float64 tan_float64 tay_string tam_string tan_string tay_sl tam_sl tan_sl tay_mp tam_mp tan_mp tay_fil tam_fil tan_fil tay_gint tam_gint tan_gint tay_gfl tam_gfl tan_gfl
theorem info_path : (Try.prog.info? 68).map (fun i => (i.zero, i.size, i.bytes)) = some (some (.slice none 0 0), 1, 24) := by kernel_rfl

/-- One path, told, in blocks of its own. -/
def OneP (w : World) (B g c : Nat) (p : List Step) : Prop := ∃ h d, g ≠ h ∧ w.ownsRow B 68 1 (.slice (some ⟨g, 0, none⟩) 1 c) 1 [.slice (some ⟨h, 0, none⟩) (told p).length d] ∧ w.ownsRow B 20 1 (.slice (some ⟨h, 0, none⟩) (told p).length d) (told p).length (told p)
/-- What diff hands back that is to stop at the first place: nothing, or one place. -/
def Told (D : List Step → Prop) (w : World) (e : Ending) (w' : World) : Prop := Below w.heap.size w w' ∧ ((e = .returned (.slice none 0 0) ∧ ∀ p, ¬ D p) ∨ ∃ g c p, e = .returned (.slice (some ⟨g, 0, none⟩) 1 c) ∧ D p ∧ OneP w' w.heap.size g c p)

theorem cell_two_new (w : World) (o : Obj) (x : Value) (t : TypeId) : ∀ j u, [x][j]? = some u → ((w.alloc o).alloc (.cells #[x] t)).cell? ((⟨w.heap.size + 1, 0, none⟩ : Addr).add j) = some u := by
  have h := cell_one_new (w.alloc o) x t
  rw [alloc_size] at h
  exact h
theorem row_built (w : World) (x : Value) (e : TypeId) {B : Nat} (hB : B ≤ w.heap.size) : (w.alloc (.cells #[x] e)).ownsRow B e 1 (.slice (some ⟨w.heap.size, 0, none⟩) 1 1) 1 [x] :=
  ⟨rfl, Or.inr ⟨w.heap.size, 1, #[x], rfl, hB, heap_alloc_new w _, Nat.le_refl _, by unfold maxLen; omega, rfl, rfl⟩⟩
theorem below_two (w : World) (o o' : Obj) : Below w.heap.size w ((w.alloc o).alloc o') := ((Below.refl _ _).alloc (Nat.le_refl _) _).alloc (by simp) _
theorem leaf_told {w w' : World} {g c : Nat} {o : Obj} {D : List Step → Prop} (hD : D []) (hown : w'.ownsRow w.heap.size 68 1 (.slice (some ⟨g, 0, none⟩) 1 c) 1 [.slice (some ⟨w.heap.size, 0, none⟩) 1 1])
    (hgr : ((w.alloc (.cells #[.nilIface] 20)).alloc o).grownBy w' none) (hat : (Value.slice (some ⟨g, 0, none⟩) 1 c).ownBlock = none ∨ (Value.slice (some ⟨g, 0, none⟩) 1 c).ownBlock = some (w.heap.size + 1 + 1)) : Told D w (.returned (.slice (some ⟨g, 0, none⟩) 1 c)) w' := by
  have hg : g = w.heap.size + 1 + 1 := by
    rcases hat with h | h
    · simp [Value.ownBlock] at h
    · simpa [Value.ownBlock] using h
  refine ⟨(below_two w _ _).grown hgr (by simp; omega) (fun k hk => by simp at hk), Or.inr ⟨g, c, [], rfl, hD, w.heap.size, 1, by omega, hown, ?_⟩⟩
  refine row_same (row_built w .nilIface 20 (Nat.le_refl _)) (fun k hk => ?_)
  have hk' : k = w.heap.size := by simpa [Value.ownBlock] using hk.symm
  subst hk'
  rw [hgr.block _ (by simp; omega) (by simp)]
  exact Below.heap_alloc _ _ _ (by simp)

set_option maxRecDepth 100000 in
set_option maxHeartbeats 2000000 in
theorem diff_nil (one : Bool) (y : Value) (w : World) (D : List Step → Prop) (h : (y = .nilIface ∧ ∀ p, ¬ D p) ∨ (∃ t u, y = .iface t u ∧ D [])) :
    Calls Try.prog 69 #[.nilIface, y, .bool one, .slice none 0 0] w (Told D w) := by
  rcases h with ⟨rfl, hp⟩ | ⟨t, u, rfl, hp⟩
  · have hp' := Lib.hid hp
    clear hp
    go_enter Try.func69, Try.ntmps69
    go_wp2_with fail
    go_ret
    exact ⟨Below.refl _ _, Or.inl ⟨rfl, hp'.out⟩⟩
  · have hp' := Lib.hid hp
    clear hp
    obtain ⟨i0, hi, hz0, hz1, hz2⟩ := info_parts info_path
    go_enter Try.func69, Try.ntmps69
    go_wp2_with (at_builtin; refine wpList_append_own_at _ rfl _ _ 66 rfl w.heap.size 68 i0 (.slice none 0 0) 1 24 Try.underlying66 hi hz0 hz1 hz2 rfl (by decide) (.slice none 0 0) 0 [] rfl (World.ownsRow_nil _ _ _ _) ⟨w.heap.size + 1, 0, none⟩ 1 1 [.slice (some ⟨w.heap.size, 0, none⟩) 1 1] rfl rfl ?c1 ?c2 ?c3 ?c4 ?c5 ?_)
    case c1 => exact cell_two_new _ _ _ _
    case c2 => intro u hu; rw [List.mem_singleton.1 hu]; rfl
    case c3 => unfold maxLen; omega
    case c4 => omega
    case c5 => simp; omega
    intro v' w' hown hgr hne hat
    obtain ⟨gx, cx, hvx, -⟩ := hown.form (by omega)
    subst hvx
    have hown := Lib.hid hown
    have hgr := Lib.hid hgr
    have hat := Lib.hid hat
    clear hne
    go_wp2_with fail
    go_ret
    exact leaf_told hp'.out hown.out hgr.out hat.out

set_option maxRecDepth 100000 in
set_option maxHeartbeats 2000000 in
theorem diff_bool (one : Bool) (b : Bool) (y : Value) (w : World) (D : List Step → Prop) (h : (∃ c, y = .iface 4 (.bool c) ∧ (b = c → ∀ p, ¬ D p) ∧ (b ≠ c → D [])) ∨ (Other 4 y ∧ D [])) :
    Calls Try.prog 69 #[.iface 4 (.bool b), y, .bool one, .slice none 0 0] w (Told D w) := by
  obtain ⟨i0, hi, hz0, hz1, hz2⟩ := info_parts info_path
  rcases h with ⟨c, rfl, hp, hq⟩ | ⟨ho, hp⟩
  · by_cases hbc : b = c
    · have hp' := Lib.hid (hp hbc)
      clear hp hq
      subst hbc
      cases b
      all_goals
        go_enter Try.func69, Try.ntmps69
        go_wp2_with fail
        go_ret
        exact ⟨Below.refl _ _, Or.inl ⟨rfl, hp'.out⟩⟩
    · have hp' := Lib.hid (hq hbc)
      clear hp hq
      cases b <;> cases c
      · exact absurd rfl hbc
      · go_enter Try.func69, Try.ntmps69
        go_wp2_with (at_builtin; refine wpList_append_own_at _ rfl _ _ 66 rfl w.heap.size 68 i0 (.slice none 0 0) 1 24 Try.underlying66 hi hz0 hz1 hz2 rfl (by decide) (.slice none 0 0) 0 [] rfl (World.ownsRow_nil _ _ _ _) ⟨w.heap.size + 1, 0, none⟩ 1 1 [.slice (some ⟨w.heap.size, 0, none⟩) 1 1] rfl rfl ?c1 ?c2 ?c3 ?c4 ?c5 ?_)
        case c1 => exact cell_two_new _ _ _ _
        case c2 => intro u hu; rw [List.mem_singleton.1 hu]; rfl
        case c3 => unfold maxLen; omega
        case c4 => omega
        case c5 => simp; omega
        intro v' w' hown hgr hne hat
        obtain ⟨gx, cx, hvx, -⟩ := hown.form (by omega)
        subst hvx
        have hown := Lib.hid hown
        have hgr := Lib.hid hgr
        have hat := Lib.hid hat
        clear hne
        go_wp2_with fail
        go_ret
        exact leaf_told hp'.out hown.out hgr.out hat.out
      · go_enter Try.func69, Try.ntmps69
        go_wp2_with (at_builtin; refine wpList_append_own_at _ rfl _ _ 66 rfl w.heap.size 68 i0 (.slice none 0 0) 1 24 Try.underlying66 hi hz0 hz1 hz2 rfl (by decide) (.slice none 0 0) 0 [] rfl (World.ownsRow_nil _ _ _ _) ⟨w.heap.size + 1, 0, none⟩ 1 1 [.slice (some ⟨w.heap.size, 0, none⟩) 1 1] rfl rfl ?c1 ?c2 ?c3 ?c4 ?c5 ?_)
        case c1 => exact cell_two_new _ _ _ _
        case c2 => intro u hu; rw [List.mem_singleton.1 hu]; rfl
        case c3 => unfold maxLen; omega
        case c4 => omega
        case c5 => simp; omega
        intro v' w' hown hgr hne hat
        obtain ⟨gx, cx, hvx, -⟩ := hown.form (by omega)
        subst hvx
        have hown := Lib.hid hown
        have hgr := Lib.hid hgr
        have hat := Lib.hid hat
        clear hne
        go_wp2_with fail
        go_ret
        exact leaf_told hp'.out hown.out hgr.out hat.out
      · exact absurd rfl hbc
  · have hp' := Lib.hid hp
    clear hp
    rcases ho with rfl | ⟨t, u, rfl, ht⟩
    all_goals
      go_enter Try.func69, Try.ntmps69
      go_wp2_with (at_builtin; refine wpList_append_own_at _ rfl _ _ 66 rfl w.heap.size 68 i0 (.slice none 0 0) 1 24 Try.underlying66 hi hz0 hz1 hz2 rfl (by decide) (.slice none 0 0) 0 [] rfl (World.ownsRow_nil _ _ _ _) ⟨w.heap.size + 1, 0, none⟩ 1 1 [.slice (some ⟨w.heap.size, 0, none⟩) 1 1] rfl rfl ?c1 ?c2 ?c3 ?c4 ?c5 ?_)
      case c1 => exact cell_two_new _ _ _ _
      case c2 => intro u hu; rw [List.mem_singleton.1 hu]; rfl
      case c3 => unfold maxLen; omega
      case c4 => omega
      case c5 => simp; omega
      intro v' w' hown hgr hne hat
      obtain ⟨gx, cx, hvx, -⟩ := hown.form (by omega)
      subst hvx
      have hown := Lib.hid hown
      have hgr := Lib.hid hgr
      have hat := Lib.hid hat
      clear hne
      go_wp2_with fail
      go_ret
      exact leaf_told hp'.out hown.out hgr.out hat.out

set_option maxRecDepth 100000 in
set_option maxHeartbeats 2000000 in
theorem diff_str (one : Bool) (b : ByteArray) (y : Value) (w : World) (D : List Step → Prop) (h : (∃ c, y = .iface 9 (.string c) ∧ (b = c → ∀ p, ¬ D p) ∧ (b ≠ c → D [])) ∨ (Other 9 y ∧ D [])) :
    Calls Try.prog 69 #[.iface 9 (.string b), y, .bool one, .slice none 0 0] w (Told D w) := by
  obtain ⟨i0, hi, hz0, hz1, hz2⟩ := info_parts info_path
  rcases h with ⟨c, rfl, hp, hq⟩ | ⟨ho, hp⟩
  · cases hbc : (b.toList == c.toList) with
    | true =>
      have hp' := Lib.hid (hp ((Lib.bytes_beq_iff _ _).1 hbc))
      clear hp hq
      go_enter Try.func69, Try.ntmps69
      go_wp2_with fail
      go_ret
      exact ⟨Below.refl _ _, Or.inl ⟨rfl, hp'.out⟩⟩
    | false =>
      have hp' := Lib.hid (hq ((Lib.bytes_beq_false_iff _ _).1 hbc))
      clear hp hq
      go_enter Try.func69, Try.ntmps69
      go_wp2_with (at_builtin; refine wpList_append_own_at _ rfl _ _ 66 rfl w.heap.size 68 i0 (.slice none 0 0) 1 24 Try.underlying66 hi hz0 hz1 hz2 rfl (by decide) (.slice none 0 0) 0 [] rfl (World.ownsRow_nil _ _ _ _) ⟨w.heap.size + 1, 0, none⟩ 1 1 [.slice (some ⟨w.heap.size, 0, none⟩) 1 1] rfl rfl ?c1 ?c2 ?c3 ?c4 ?c5 ?_)
      case c1 => exact cell_two_new _ _ _ _
      case c2 => intro u hu; rw [List.mem_singleton.1 hu]; rfl
      case c3 => unfold maxLen; omega
      case c4 => omega
      case c5 => simp; omega
      intro v' w' hown hgr hne hat
      obtain ⟨gx, cx, hvx, -⟩ := hown.form (by omega)
      subst hvx
      have hown := Lib.hid hown
      have hgr := Lib.hid hgr
      have hat := Lib.hid hat
      clear hne
      go_wp2_with fail
      go_ret
      exact leaf_told hp'.out hown.out hgr.out hat.out
  · have hp' := Lib.hid hp
    clear hp
    rcases ho with rfl | ⟨t, u, rfl, ht⟩
    all_goals
      go_enter Try.func69, Try.ntmps69
      go_wp2_with (at_builtin; refine wpList_append_own_at _ rfl _ _ 66 rfl w.heap.size 68 i0 (.slice none 0 0) 1 24 Try.underlying66 hi hz0 hz1 hz2 rfl (by decide) (.slice none 0 0) 0 [] rfl (World.ownsRow_nil _ _ _ _) ⟨w.heap.size + 1, 0, none⟩ 1 1 [.slice (some ⟨w.heap.size, 0, none⟩) 1 1] rfl rfl ?c1 ?c2 ?c3 ?c4 ?c5 ?_)
      case c1 => exact cell_two_new _ _ _ _
      case c2 => intro u hu; rw [List.mem_singleton.1 hu]; rfl
      case c3 => unfold maxLen; omega
      case c4 => omega
      case c5 => simp; omega
      intro v' w' hown hgr hne hat
      obtain ⟨gx, cx, hvx, -⟩ := hown.form (by omega)
      subst hvx
      have hown := Lib.hid hown
      have hgr := Lib.hid hgr
      have hat := Lib.hid hat
      clear hne
      go_wp2_with fail
      go_ret
      exact leaf_told hp'.out hown.out hgr.out hat.out

set_option maxRecDepth 100000 in
set_option maxHeartbeats 2000000 in
theorem diff_int (one : Bool) (b : Int) (y : Value) (w : World) (D : List Step → Prop) (h : (∃ c, y = .iface 2 (.int .i64 c) ∧ (b = c → ∀ p, ¬ D p) ∧ (b ≠ c → D [])) ∨ (NoNum y ∧ D [])) :
    Calls Try.prog 69 #[.iface 2 (.int .i64 b), y, .bool one, .slice none 0 0] w (Told D w) := by
  obtain ⟨i0, hi, hz0, hz1, hz2⟩ := info_parts info_path
  rcases h with ⟨c, rfl, hp, hq⟩ | ⟨ho, hp⟩
  · by_cases hbc : b = c
    · have hp' := Lib.hid (hp hbc)
      clear hp hq
      have hb1 : (b != c) = false := by rw [hbc]; simp
      clear hbc
      go_enter Try.func69, Try.ntmps69
      go_wp2_with (go_at_call 62; refine (asInt_int _ _).mono ?_; rintro e w' ⟨rfl, rfl⟩)
      go_ret
      exact ⟨Below.refl _ _, Or.inl ⟨rfl, hp'.out⟩⟩
    · have hp' := Lib.hid (hq hbc)
      clear hp hq
      have hb1 : (b != c) = true := bne_iff_ne.2 hbc
      clear hbc
      go_enter Try.func69, Try.ntmps69
      go_wp2_with fail
      refine (asInt_int _ _).mono ?_
      rintro e w' ⟨rfl, rfl⟩
      go_wp2_with fail
      refine (asInt_int _ _).mono ?_
      rintro e w' ⟨rfl, rfl⟩
      go_wp2_with (at_builtin; refine wpList_append_own_at _ rfl _ _ 66 rfl w.heap.size 68 i0 (.slice none 0 0) 1 24 Try.underlying66 hi hz0 hz1 hz2 rfl (by decide) (.slice none 0 0) 0 [] rfl (World.ownsRow_nil _ _ _ _) ⟨w.heap.size + 1, 0, none⟩ 1 1 [.slice (some ⟨w.heap.size, 0, none⟩) 1 1] rfl rfl ?c1 ?c2 ?c3 ?c4 ?c5 ?_)
      case c1 => exact cell_two_new _ _ _ _
      case c2 => intro u hu; rw [List.mem_singleton.1 hu]; rfl
      case c3 => unfold maxLen; omega
      case c4 => omega
      case c5 => simp; omega
      intro v' w' hown hgr hne hat
      obtain ⟨gx, cx, hvx, -⟩ := hown.form (by omega)
      subst hvx
      have hown := Lib.hid hown
      have hgr := Lib.hid hgr
      have hat := Lib.hid hat
      clear hne
      go_wp2_with fail
      go_ret
      exact leaf_told hp'.out hown.out hgr.out hat.out
  · have hp' := Lib.hid hp
    clear hp
    go_enter Try.func69, Try.ntmps69
    go_wp2_with fail
    refine (asInt_int b w).mono ?_
    rintro e w' ⟨rfl, rfl⟩
    go_wp2_with fail
    refine (asInt_not y w ho).mono ?_
    rintro e w' ⟨rfl, rfl⟩
    go_wp2_with (at_builtin; refine wpList_append_own_at _ rfl _ _ 66 rfl w.heap.size 68 i0 (.slice none 0 0) 1 24 Try.underlying66 hi hz0 hz1 hz2 rfl (by decide) (.slice none 0 0) 0 [] rfl (World.ownsRow_nil _ _ _ _) ⟨w.heap.size + 1, 0, none⟩ 1 1 [.slice (some ⟨w.heap.size, 0, none⟩) 1 1] rfl rfl ?c1 ?c2 ?c3 ?c4 ?c5 ?_)
    case c1 => exact cell_two_new _ _ _ _
    case c2 => intro u hu; rw [List.mem_singleton.1 hu]; rfl
    case c3 => unfold maxLen; omega
    case c4 => omega
    case c5 => simp; omega
    intro v' w' hown hgr hne hat
    obtain ⟨gx, cx, hvx, -⟩ := hown.form (by omega)
    subst hvx
    have hown := Lib.hid hown
    have hgr := Lib.hid hgr
    have hat := Lib.hid hat
    clear hne
    go_wp2_with fail
    go_ret
    exact leaf_told hp'.out hown.out hgr.out hat.out

set_option maxRecDepth 100000 in
set_option maxHeartbeats 2000000 in
theorem diff_arr_no (one : Bool) (A : Option Addr) (n c : Nat) (y : Value) (w : World) (D : List Step → Prop) (hp : D []) (ho : Other 67 y) :
    Calls Try.prog 69 #[.iface 67 (.slice A n c), y, .bool one, .slice none 0 0] w (Told D w) := by
  obtain ⟨i0, hi, hz0, hz1, hz2⟩ := info_parts info_path
  have hp' := Lib.hid hp
  clear hp
  rcases ho with rfl | ⟨t, u, rfl, ht⟩
  all_goals
    go_enter Try.func69, Try.ntmps69
    go_wp2_with (at_builtin; refine wpList_append_own_at _ rfl _ _ 66 rfl w.heap.size 68 i0 (.slice none 0 0) 1 24 Try.underlying66 hi hz0 hz1 hz2 rfl (by decide) (.slice none 0 0) 0 [] rfl (World.ownsRow_nil _ _ _ _) ⟨w.heap.size + 1, 0, none⟩ 1 1 [.slice (some ⟨w.heap.size, 0, none⟩) 1 1] rfl rfl ?c1 ?c2 ?c3 ?c4 ?c5 ?_)
    case c1 => exact cell_two_new _ _ _ _
    case c2 => intro u hu; rw [List.mem_singleton.1 hu]; rfl
    case c3 => unfold maxLen; omega
    case c4 => omega
    case c5 => simp; omega
    intro v' w' hown hgr hne hat
    obtain ⟨gx, cx, hvx, -⟩ := hown.form (by omega)
    subst hvx
    have hown := Lib.hid hown
    have hgr := Lib.hid hgr
    have hat := Lib.hid hat
    clear hne
    go_wp2_with fail
    go_ret
    exact leaf_told hp'.out hown.out hgr.out hat.out
set_option maxRecDepth 100000 in
set_option maxHeartbeats 2000000 in
theorem diff_obj_no (one : Bool) (b : Option Nat) (y : Value) (w : World) (D : List Step → Prop) (hp : D []) (ho : Other 54 y) :
    Calls Try.prog 69 #[.iface 54 (.map b), y, .bool one, .slice none 0 0] w (Told D w) := by
  obtain ⟨i0, hi, hz0, hz1, hz2⟩ := info_parts info_path
  have hp' := Lib.hid hp
  clear hp
  rcases ho with rfl | ⟨t, u, rfl, ht⟩
  all_goals
    go_enter Try.func69, Try.ntmps69
    go_wp2_with (at_builtin; refine wpList_append_own_at _ rfl _ _ 66 rfl w.heap.size 68 i0 (.slice none 0 0) 1 24 Try.underlying66 hi hz0 hz1 hz2 rfl (by decide) (.slice none 0 0) 0 [] rfl (World.ownsRow_nil _ _ _ _) ⟨w.heap.size + 1, 0, none⟩ 1 1 [.slice (some ⟨w.heap.size, 0, none⟩) 1 1] rfl rfl ?c1 ?c2 ?c3 ?c4 ?c5 ?_)
    case c1 => exact cell_two_new _ _ _ _
    case c2 => intro u hu; rw [List.mem_singleton.1 hu]; rfl
    case c3 => unfold maxLen; omega
    case c4 => omega
    case c5 => simp; omega
    intro v' w' hown hgr hne hat
    obtain ⟨gx, cx, hvx, -⟩ := hown.form (by omega)
    subst hvx
    have hown := Lib.hid hown
    have hgr := Lib.hid hgr
    have hat := Lib.hid hat
    clear hne
    go_wp2_with fail
    go_ret
    exact leaf_told hp'.out hown.out hgr.out hat.out

theorem diff_leaf (one : Bool) (f t : V) (x y : Value) (w : World) {lo hi lo' hi' : Nat} (hx : PT w lo hi f x) (hy : PT w lo' hi' t y) (hfo : f.Ok) (hto : t.Ok) (h7 : ¬ (f.kind = 7 ∧ t.kind = 7)) (h8 : ¬ (f.kind = 8 ∧ t.kind = 8)) (h4 : f.kind ≠ 4) (t4 : t.kind ≠ 4) :
    Calls Try.prog 69 #[x, y, .bool one, .slice none 0 0] w (Told (Dif f t) w) := by
  have hD : ¬ LAlike f t → Dif f t [] := fun h => .leaf f t h7 h8 h
  have hN : LAlike f t → ∀ p, ¬ Dif f t p := fun h p hp => ((dif_leaf h7 h8).1 hp).2 h
  have hk : f.kind ≠ t.kind → Dif f t [] := fun h => hD (fun hl => h hl.1)
  cases hx with
  | null _ _ _ h =>
    refine diff_nil one y w _ ?_
    cases hy with
    | null _ _ _ h' => exact Or.inl ⟨rfl, hN (by unfold LAlike; exact ⟨by omega, by omega, by omega, by omega⟩)⟩
    | bool _ _ _ h' => exact Or.inr ⟨_, _, rfl, hk (by omega)⟩
    | int _ _ _ h' => exact Or.inr ⟨_, _, rfl, hk (by omega)⟩
    | float _ _ _ h' => exact Or.inr ⟨_, _, rfl, hk (by omega)⟩
    | str _ _ _ h' => exact Or.inr ⟨_, _, rfl, hk (by omega)⟩
    | arr _ _ _ h' => exact Or.inr ⟨_, _, rfl, hk (by omega)⟩
    | obj _ _ _ h' => exact Or.inr ⟨_, _, rfl, hk (by omega)⟩
  | bool _ _ _ h =>
    refine diff_bool one _ y w _ ?_
    by_cases ht : t.kind = 2
    · cases hy with
      | bool _ _ _ h' =>
        refine Or.inl ⟨_, rfl, ?_⟩
        have bf : f.n = 0 ∨ f.n = 1 := by cases hfo <;> first | assumption | omega
        have bt : t.n = 0 ∨ t.n = 1 := by cases hto <;> first | assumption | omega
        constructor
        · intro he
          refine hN ⟨by omega, fun _ => ?_, by omega, by omega⟩
          rcases bf with bf | bf <;> rcases bt with bt | bt <;> rw [bf, bt] at he ⊢ <;> simp at he
        · intro he
          refine hD ?_
          rintro ⟨_, h2, _⟩
          exact he (by rw [h2 (Or.inl h)])
      | _ => omega
    · exact Or.inr ⟨hy.other ⟨by omega, fun _ => by decide, fun _ => by decide, fun _ => by decide, fun _ => by decide, fun _ => by decide⟩, hk (by omega)⟩
  | int _ _ _ h =>
    refine diff_int one _ y w _ ?_
    by_cases ht : t.kind = 3
    · cases hy with
      | int _ _ _ h' =>
        refine Or.inl ⟨_, rfl, ?_⟩
        exact ⟨fun he => hN ⟨by omega, fun _ => he, by omega, by omega⟩, fun he => hD (fun hl => he (hl.2.1 (Or.inr h)))⟩
      | _ => omega
    · exact Or.inr ⟨hy.noNum ht t4, hk (by omega)⟩
  | float _ _ _ h => exact absurd h h4
  | str _ _ _ h =>
    refine diff_str one _ y w _ ?_
    by_cases ht : t.kind = 5
    · cases hy with
      | str _ _ _ h' =>
        refine Or.inl ⟨_, rfl, ?_⟩
        exact ⟨fun he => hN ⟨by omega, by omega, by omega, fun _ => he⟩, fun he => hD (fun hl => he (hl.2.2.2 (Or.inl h)))⟩
      | _ => omega
    · exact Or.inr ⟨hy.other ⟨fun _ => by decide, fun _ => by decide, fun _ => by decide, by omega, fun _ => by decide, fun _ => by decide⟩, hk (by omega)⟩
  | arr _ _ _ h =>
    by_cases ht : t.kind = 7
    · exact absurd ⟨h, ht⟩ h7
    · exact diff_arr_no one _ _ _ y w _ (hk (by omega)) (hy.other ⟨fun _ => by decide, fun _ => by decide, fun _ => by decide, fun _ => by decide, by omega, fun _ => by decide⟩)
  | obj _ _ _ h =>
    by_cases ht : t.kind = 8
    · exact absurd ⟨h, ht⟩ h8
    · exact diff_obj_no one _ y w _ (hk (by omega)) (hy.other ⟨fun _ => by decide, fun _ => by decide, fun _ => by decide, fun _ => by decide, fun _ => by decide, by omega⟩)
end Go.Proofs.Ytpdcoipfpffhnaa
