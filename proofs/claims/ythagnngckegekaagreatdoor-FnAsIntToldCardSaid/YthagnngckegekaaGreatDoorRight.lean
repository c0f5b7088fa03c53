/-
  big, right: what a value is answered. Conditions: none.
-/
import Derived.Test.YthagnngckegekaaGreatDoorWhole
import Derived.Outline
namespace Go.Proofs.YthagnngckegekaaGreatDoor
open Go.ChangeShapes Go.WideShapes Go.ChangeAt Go.RowKit
set_option linter.unusedVariables false

/-- A function value that answers a bool of each element of a list. -/
def Answers (g : Nat) (b : Bool) (l : List V) : Prop := ∀ x ∈ l, ∀ {ok : Nat → Prop} (A B : Option Addr) (ca cb : Nat) (w : World) (hb : Bds x ca cb) (hB : Strs ok w B x.keys) (hA : Vals ok w A x.l),
  Calls Tryz.prog g #[.agg #[.int .i64 x.kind, .int .i64 x.n, .float .f64 x.f, .string x.s, .slice A x.l.length ca, .slice B x.keys.length cb]] w (SomeBool (fun r => r = b) w)

set_option maxHeartbeats 1000000 in
theorem indexFunc_any (g : Nat) (l : List V) (eg : ∀ args w, (callFunc g args).run Tryz.prog w = .ok (.enter g args) w) (h : Answers g false l) {ok : Nat → Prop} (A : Option Addr) (ca : Nat) (w : World) (hA : Vals ok w A l) (hl : l.length ≤ 140737488351232) :
    Calls Tryz.prog 44 #[.slice A l.length ca, .func (.func g) #[] #[]] w (SomeInt (fun r => r = -1) w) := by
  have H := Lib.hid h
  clear h
  go_enter Tryz.func44, Tryz.ntmps44
  go_wp2_with fail
  go_loopw [5, 8] (fun _ i wr => ∃ (j : Nat), j ≤ l.length ∧ i = .int .i64 j ∧ Below w.heap.size w wr) (fun _ i _ => l.length - (intOf i).toNat)
  case atStart => exact ⟨0, by simp, rfl, Below.refl _ _⟩
  case round =>
    obtain ⟨i, hi, rfl, hbel⟩ := hrel
    by_cases hlt : i < l.length
    · obtain ⟨x, hx⟩ := get_lt hlt
      have hxm := Lib.hid (get_mem hx)
      obtain ⟨ad, Ai, ci, Bi, di, hAe, _, ⟨e0, e1, e2, e3, e4, e5⟩, hbx, hBx, hAx⟩ := (hA.bel hbel).at_ hx
      subst hAe
      clear hx hA
      go_wp2_with fail
      refine (H.out x hxm.out Ai Bi ci di wr hbx hBx hAx).mono ?_
      rintro e w2 ⟨r, rfl, hr, hb2⟩
      subst hr
      have hle := hbel.size
      have hbel2 := hbel.trans (hb2.mono hle)
      clear e0 e1 e2 e3 e4 e5
      go_wp2_with fail
      go_roundw
      case rel => exact ⟨i + 1, by omega, by go_num, hbel2⟩
      case measure => simp [intOf]; omega
    · clear hA
      go_wp2_with fail
      go_ret
      exact ⟨_, rfl, rfl, hbel⟩

theorem containsFunc_any (g : Nat) (l : List V) (eg : ∀ args w, (callFunc g args).run Tryz.prog w = .ok (.enter g args) w) (h : Answers g false l) {ok : Nat → Prop} (A : Option Addr) (ca : Nat) (w : World) (hA : Vals ok w A l) (hl : l.length ≤ 140737488351232) :
    Calls Tryz.prog 34 #[.slice A l.length ca, .func (.func g) #[] #[]] w (SomeBool (fun r => r = false) w) := by
  have H := Lib.hid h
  clear h
  go_enter Tryz.func34, Tryz.ntmps34
  go_wp2_with fail
  refine (indexFunc_any g l eg H.out A ca w hA hl).mono ?_
  rintro e w2 ⟨r, rfl, rfl, hb2⟩
  go_wp2_with fail
  go_ret
  exact ⟨_, rfl, rfl, hb2⟩

theorem eg_big : ∀ args w, (callFunc 27 args).run Tryz.prog w = .ok (.enter 27 args) w := fun _ _ => by kernel_rfl
theorem eg_right1 : ∀ args w, (callFunc 35 args).run Tryz.prog w = .ok (.enter 35 args) w := fun _ _ => by kernel_rfl
theorem eg_right2 : ∀ args w, (callFunc 39 args).run Tryz.prog w = .ok (.enter 39 args) w := fun _ _ => by kernel_rfl

theorem V.Ok.ne6 {v : V} (h : v.Ok) : v.kind ≠ 6 := by
  cases h <;> omega

theorem big_any (v : V) : ∀ {ok : Nat → Prop} (A B : Option Addr) (ca cb : Nat) (w : World) (hb : Bds v ca cb) (hB : Strs ok w B v.keys) (hA : Vals ok w A v.l) (hok : v.Ok),
    Calls Tryz.prog 27 #[.agg #[.int .i64 v.kind, .int .i64 v.n, .float .f64 v.f, .string v.s, .slice A v.l.length ca, .slice B v.keys.length cb]] w (SomeBool (fun r => r = false) w) := by
  induction v using V.ind with
  | h v ih =>
  intro ok A B ca cb w hb hB hA hok
  have k6 : (v.kind == 6) = false := beq_eq_false_iff_ne.2 hok.ne6
  have IH : Hid (Answers 27 false v.l) := fun x hx => fun A B ca cb w hb hB hA => ih x hx A B ca cb w hb hB hA (hok.kids x hx)
  have hla := hb.la
  clear ih
  go_enter Tryz.func27, Tryz.ntmps27
  go_wp2_with fail
  have hbel : Below (w.heap.size + 1) (w.alloc (valObj v A ca B cb)) (w.alloc (valObj v A ca B cb)) := Below.refl _ _
  have hA0 := hA.bel (boxed hbel).2
  refine (containsFunc_any _ v.l eg_big IH.out A ca _ hA0 hla).mono ?_
  rintro e w2 ⟨r, rfl, rfl, hb2⟩
  have hbw := (boxed (hbel.trans (hb2.mono (by simp)))).2
  clear hbel hA0 hb2
  go_wp2_with fail
  go_ret
  exact ⟨_, rfl, rfl, hbw⟩

def RightAt (x : V) : Prop := ∀ {ok : Nat → Prop} (A B : Option Addr) (ca cb : Nat) (w : World) (hb : Bds x ca cb) (hB : Strs ok w B x.keys) (hA : Vals ok w A x.l),
  Calls Tryz.prog 26 #[.agg #[.int .i64 x.kind, .int .i64 x.n, .float .f64 x.f, .string x.s, .slice A x.l.length ca, .slice B x.keys.length cb]] w (SomeBool (fun r => r = true) w)

theorem right1_any (l : List V) (h : ∀ x ∈ l, RightAt x) : Answers 35 false l := by
  intro x hx ok A B ca cb w hb hB hA
  have H : Hid (RightAt x) := h x hx
  clear h hx
  go_enter Tryz.func35, Tryz.ntmps35
  go_wp2_with fail
  have hbel : Below (w.heap.size + 1) (w.alloc (valObj x A ca B cb)) (w.alloc (valObj x A ca B cb)) := Below.refl _ _
  have hA0 := hA.bel (boxed hbel).2
  have hB0 := hB.bel (boxed hbel).2
  refine (H.out A B ca cb _ hb hB0 hA0).mono ?_
  rintro e w2 ⟨r, rfl, rfl, hb2⟩
  have hbw := (boxed (hbel.trans (hb2.mono (by simp)))).2
  clear hbel hA0 hb2
  go_wp2_with fail
  go_ret
  exact ⟨_, rfl, rfl, hbw⟩
theorem right2_any (l : List V) (h : ∀ x ∈ l, RightAt x) : Answers 39 false l := by
  intro x hx ok A B ca cb w hb hB hA
  have H : Hid (RightAt x) := h x hx
  clear h hx
  go_enter Tryz.func39, Tryz.ntmps39
  go_wp2_with fail
  have hbel : Below (w.heap.size + 1) (w.alloc (valObj x A ca B cb)) (w.alloc (valObj x A ca B cb)) := Below.refl _ _
  have hA0 := hA.bel (boxed hbel).2
  have hB0 := hB.bel (boxed hbel).2
  refine (H.out A B ca cb _ hb hB0 hA0).mono ?_
  rintro e w2 ⟨r, rfl, rfl, hb2⟩
  have hbw := (boxed (hbel.trans (hb2.mono (by simp)))).2
  clear hbel hA0 hb2
  go_wp2_with fail
  go_ret
  exact ⟨_, rfl, rfl, hbw⟩

theorem compact_nodup (A1 : Option Addr) (c1 n B : Nat) (ys : List ByteArray) (w : World) (ho : Own w B (.slice A1 n c1) ys) (hd : ys.Nodup) (hl : ys.length ≤ 1000000) (hn : ys.length = n) (hB : B ≤ w.heap.size) :
    Calls Tryz.prog 38 #[.slice A1 n c1] w fun e w' => ∃ A2 c2, e = .returned (.slice A2 n c2) ∧ Below B w w' := by
  refine (compact_any _ B ys w ho hl).mono ?_
  rintro e w' ⟨v', zs, rfl, hm, hz, ho', hgr, hob⟩
  have := hz hd
  subst this
  obtain ⟨A2, c2, rfl, _, _⟩ := own_slice ho'
  exact ⟨A2, c2, by rw [hn], (Below.refl B w).grown hgr hB (fun k hk => (ho.lt k hk).1)⟩

set_option maxHeartbeats 1000000 in
theorem right_obj (n : Int) (f : Nat) (s : ByteArray) (l : List V) (ks : List ByteArray) (hl : ∀ x ∈ l, RightAt x) (hlen : ks.length = l.length) (hd : ks.Nodup) (hlm : l.length ≤ 1000000) {ok : Nat → Prop} (A B : Option Addr) (ca cb : Nat) (w : World) (hB : Strs ok w B ks) (hA : Vals ok w A l) :
    Calls Tryz.prog 26 #[.agg #[.int .i64 8, .int .i64 n, .float .f64 f, .string s, .slice A l.length ca, .slice B ks.length cb]] w (SomeBool (fun r => r = true) w) := by
  have HR : Hid (Answers 39 false l) := right2_any l hl
  have hd' := Lib.hid hd
  have hlen1 : ((ks.length : Int) == (l.length : Int)) = true := by rw [hlen]; simp
  have hlen' := Lib.hid hlen
  have hkm : ks.length ≤ 1000000 := by omega
  clear hl hd hlen
  go_enter Tryz.func26, Tryz.ntmps26
  go_wp2_with fail
  have hbel : Below (w.heap.size + 1) (w.alloc (valObj ⟨8, n, f, s, l, ks⟩ A ca B cb)) (w.alloc (valObj ⟨8, n, f, s, l, ks⟩ A ca B cb)) := Below.refl _ _
  have hB0 := hB.bel (boxed hbel).2
  refine (clone_any B ks cb _ hB0 hkm).mono ?_
  rintro e w1 ⟨v, zs, rfl, hzs, ho1, hb1⟩
  rw [hzs] at ho1
  clear hzs hB0
  replace hbel := hbel.trans (hb1.mono (by simp))
  have hsz : w.heap.size + 1 ≤ w1.heap.size := below_boxed_size hbel
  rw [alloc_size] at ho1
  have ho1' := Lib.hid ho1
  obtain ⟨A1, c1, rfl, hc1, hc1'⟩ := own_slice ho1
  clear ho1 hb1
  go_wp2_with fail
  refine (sort_any _ (w.heap.size + 1) _ w1 ho1'.out hkm).mono ?_
  rintro e w2 ⟨ys, rfl, hp, hasc, ho2, hgr⟩
  replace hbel := hbel.grown hgr hsz (fun k hk => (ho1'.out.lt k hk).1)
  have hnd : Hid ys.Nodup := hp.nodup_iff.2 hd'.out
  have ho2' : Hid (Own w2 (w.heap.size + 1) (.slice A1 ks.length c1) ys) := ho2
  have hsz2 : w.heap.size + 1 ≤ w2.heap.size := below_boxed_size hbel
  have hlen3 : Hid (ys.length = ks.length) := hp.length_eq
  have hym : ys.length ≤ 1000000 := by have := hlen3.out; omega
  obtain ⟨⟨b0, b1, b2, b3, b4, b5⟩, hbw⟩ := boxed hbel
  dsimp only at b0 b1 b2 b3 b4 b5
  have ho3 : Hid (Own w2.drew (w.heap.size + 1) (.slice A1 ks.length c1) ys) := ho2
  have hsz3 : Hid (w.heap.size + 1 ≤ w2.drew.heap.size) := hsz2
  have hbel3 : Hid (Below (w.heap.size + 1) (w.alloc (valObj ⟨8, n, f, s, l, ks⟩ A ca B cb)) w2.drew) := below_drew hbel
  have hA' := Lib.hid hA
  have hcomp := Lib.hid (compact_nodup A1 c1 ks.length (w.heap.size + 1) ys w2.drew ho3.out hnd.out hym hlen3.out hsz3.out)
  have hlm2 : Hid (l.length ≤ 140737488351232) := by show l.length ≤ _; omega
  clear hasc hgr ho1' ho2 hp hB hsz hc1 hc1' hA hbel hbw ho2'
  go_wp2_with fail
  go_region_held3 (fun w' => w'.cell? ⟨w.heap.size, 4, none⟩ = some (.slice A l.length ca) ∧ w'.cell? ⟨w.heap.size, 5, none⟩ = some (.slice B ks.length cb)) (go_keep)
    (first
    | (go_at_call 38; refine hcomp.out.mono ?_; rintro e w3 ⟨A2, c2, rfl, hb3⟩; have hbel4 := hbel3.out.trans hb3; have q4 := (boxed hbel4).1.c4; have q5 := (boxed hbel4).1.c5; have hbw4 := (boxed hbel4).2; have hA4 := Lib.hid (hA'.out.bel hbw4); clear b0 b1 b2 b3 b4 b5)
    | (go_at_call 34; refine (containsFunc_any _ l eg_right2 HR.out A ca _ (hA4.out) (hlm2.out)).mono ?_; rintro e w4 ⟨r, rfl, rfl, hb4⟩; have hbel5 := hbel4.trans (hb4.mono (below_boxed_size hbel4)); have r4 := (boxed hbel5).1.c4; have r5 := (boxed hbel5).1.c5; have hbw5 := (boxed hbel5).2; clear q4 q5))
  go_wp2_with fail
  go_ret
  exact ⟨_, rfl, rfl, hbw5⟩

set_option maxHeartbeats 1000000 in
theorem right_leaf (k n : Int) (f : Nat) (s : ByteArray) (l : List V) (ks : List ByteArray) (A B : Option Addr) (ca cb : Nat) (w : World) (h : k = 1 ∨ k = 3 ∨ k = 5 ∨ (k = 2 ∧ (n = 0 ∨ n = 1)) ∨ (k = 4 ∧ finF f = true)) :
    Calls Tryz.prog 26 #[.agg #[.int .i64 k, .int .i64 n, .float .f64 f, .string s, .slice A l.length ca, .slice B ks.length cb]] w (SomeBool (fun r => r = true) w) := by
  rcases h with rfl | rfl | rfl | ⟨rfl, rfl | rfl⟩ | ⟨rfl, hf⟩
  · go_enter Tryz.func26, Tryz.ntmps26
    go_wp2_with fail
    go_ret
    exact ⟨_, rfl, rfl, (Below.refl _ _).alloc (Nat.le_refl _) _⟩
  · go_enter Tryz.func26, Tryz.ntmps26
    go_wp2_with fail
    go_ret
    exact ⟨_, rfl, rfl, (Below.refl _ _).alloc (Nat.le_refl _) _⟩
  · go_enter Tryz.func26, Tryz.ntmps26
    go_wp2_with fail
    go_ret
    exact ⟨_, rfl, rfl, (Below.refl _ _).alloc (Nat.le_refl _) _⟩
  · go_enter Tryz.func26, Tryz.ntmps26
    go_wp2_with fail
    go_ret
    exact ⟨_, rfl, rfl, (Below.refl _ _).alloc (Nat.le_refl _) _⟩
  · go_enter Tryz.func26, Tryz.ntmps26
    go_wp2_with fail
    go_ret
    exact ⟨_, rfl, rfl, (Below.refl _ _).alloc (Nat.le_refl _) _⟩
  · have hn : nanF f = false := by simp [finF] at hf; exact hf.1
    have hi : infF f = false := by simp [finF] at hf; exact hf.2
    clear hf
    go_enter Tryz.func26, Tryz.ntmps26
    go_wp2_with (first | (go_at_call 30; refine (nan_any f _).mono ?_; rintro e w' ⟨rfl, rfl⟩) | (go_at_call 31; refine (inf_any f _).mono ?_; rintro e w' ⟨rfl, rfl⟩))
    go_ret
    exact ⟨_, rfl, rfl, (Below.refl _ _).alloc (Nat.le_refl _) _⟩

set_option maxHeartbeats 1000000 in
theorem right_arr (n : Int) (f : Nat) (s : ByteArray) (l : List V) (ks : List ByteArray) (hl : ∀ x ∈ l, RightAt x) (hlm : l.length ≤ 1000000) {ok : Nat → Prop} (A B : Option Addr) (ca cb : Nat) (w : World) (hA : Vals ok w A l) :
    Calls Tryz.prog 26 #[.agg #[.int .i64 7, .int .i64 n, .float .f64 f, .string s, .slice A l.length ca, .slice B ks.length cb]] w (SomeBool (fun r => r = true) w) := by
  have HR : Hid (Answers 35 false l) := right1_any l hl
  clear hl
  go_enter Tryz.func26, Tryz.ntmps26
  go_wp2_with fail
  have hbel : Below (w.heap.size + 1) (w.alloc (valObj ⟨7, n, f, s, l, ks⟩ A ca B cb)) (w.alloc (valObj ⟨7, n, f, s, l, ks⟩ A ca B cb)) := Below.refl _ _
  have hA0 := hA.bel (boxed hbel).2
  refine (containsFunc_any _ l eg_right1 HR.out A ca _ hA0 (by omega)).mono ?_
  rintro e w2 ⟨r, rfl, rfl, hb2⟩
  have hbw := (boxed (hbel.trans (hb2.mono (by simp)))).2
  clear hbel hA0 hb2
  go_wp2_with fail
  go_ret
  exact ⟨_, rfl, rfl, hbw⟩

theorem right_any (v : V) : v.Ok → v.wt ≤ 1000000 → RightAt v := by
  induction v using V.ind with
  | h v ih =>
  intro hok hwt ok A B ca cb w hb hB hA
  have hkids : ∀ x ∈ v.l, RightAt x := fun x hx => ih x hx (hok.kids x hx) (by have := wt_kid hx; omega)
  have hlm : v.l.length ≤ 1000000 := by have := wt_len v; omega
  clear ih
  obtain ⟨k, n, f, s, l, ks⟩ := v
  cases hok with
  | null _ h => exact right_leaf k n f s l ks A B ca cb w (Or.inl h)
  | bool _ h hn => exact right_leaf k n f s l ks A B ca cb w (Or.inr (Or.inr (Or.inr (Or.inl ⟨h, hn⟩))))
  | int _ h => exact right_leaf k n f s l ks A B ca cb w (Or.inr (Or.inl h))
  | float _ h hn => exact right_leaf k n f s l ks A B ca cb w (Or.inr (Or.inr (Or.inr (Or.inr ⟨h, hn⟩))))
  | str _ h => exact right_leaf k n f s l ks A B ca cb w (Or.inr (Or.inr (Or.inl h)))
  | arr _ h =>
    obtain rfl : k = 7 := h
    exact right_arr n f s l ks hkids hlm A B ca cb w hA
  | obj _ h hlen hd =>
    obtain rfl : k = 8 := h
    exact right_obj n f s l ks hkids hlen hd hlm A B ca cb w hB hA
end Go.Proofs.YthagnngckegekaaGreatDoor
