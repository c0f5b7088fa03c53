/-
  leftShift: a decimal times a power of two. Conditions: none.
-/
import Derived.Test.YthagnngckegekaaGreatDoorPre
namespace Go.Proofs.YthagnngckegekaaGreatDoor
open Go.ChangeShapes Go.WideShapes Go.ChangeAt Go.RowKit
set_option linter.unusedVariables false
set_option linter.unusedSimpArgs false

theorem pow60 {k : Nat} (h : k ≤ 60) : 2 ^ k ≤ 1152921504606846976 := Nat.le_trans (Nat.pow_le_pow_right (by decide) h) (by decide)
theorem carry {v d j k n : Nat} (hn : n = v * 2 ^ k / 10 ^ j) : (n + d * 2 ^ k) / 10 = (d * 10 ^ j + v) * 2 ^ k / 10 ^ (j + 1) := by
  have hp : 0 < 10 ^ j := Nat.pow_pos (by decide)
  rw [Nat.pow_succ, ← Nat.div_div_eq_div_mul, hn, Nat.add_mul, Nat.mul_right_comm, Nat.add_comm (d * 2 ^ k * 10 ^ j), Nat.add_mul_div_right _ _ hp]
theorem drop_val {ds : List Nat} {r d : Nat} (h : ds[r]? = some d) : val (ds.drop r) = d * 10 ^ (ds.length - (r + 1)) + val (ds.drop (r + 1)) := by
  rw [drop_at h, val_cons, List.length_drop]
theorem carry_lt {v j k n : Nat} (hn : n = v * 2 ^ k / 10 ^ j) (hv : v < 10 ^ j) : n < 2 ^ k := by
  rw [hn]
  apply Nat.div_lt_of_lt_mul
  exact Nat.mul_lt_mul_of_pos_right hv (Nat.pow_pos (by decide))

/-- What the round makes of its numbers. -/
theorem sh_wraps {n b k : Nat} (hk : k ≤ 60) (hn : n < 2 ^ k) (hb : 48 ≤ b ∧ b ≤ 57) : ∃ N Q T R S : Nat,
    IntKind.u64.wrap ((n : Int) + IntKind.u64.wrap (((b : Int) - 48) * 2 ^ k)) = (N : Int) ∧ IntKind.u64.wrap ((N : Int) / 10) = (Q : Int) ∧ IntKind.u64.wrap (10 * (Q : Int)) = (T : Int) ∧ IntKind.u64.wrap ((N : Int) - (T : Int)) = (R : Int) ∧ IntKind.u64.wrap ((R : Int) + 48) = (S : Int) ∧ (S : Int) % 256 = (S : Int) ∧
    N = n + (b - 48) * 2 ^ k ∧ Q = N / 10 ∧ R = N % 10 ∧ S = 48 + N % 10 := by
  have hp := pow60 hk
  obtain ⟨d, rfl⟩ : ∃ d, b = 48 + d := ⟨b - 48, by omega⟩
  have h9 : d * 2 ^ k ≤ 9 * 2 ^ k := Nat.mul_le_mul_right _ (by omega)
  have e1 : (((48 + d : Nat) : Int) - 48) * 2 ^ k = ((d * 2 ^ k : Nat) : Int) := by push_cast; rw [show ((48 : Int) + d - 48) = d by omega]
  rw [e1]
  have e2 : 48 + d - 48 = d := by omega
  rw [e2]
  generalize d * 2 ^ k = X at *
  generalize 2 ^ k = Y at *
  refine ⟨n + X, (n + X) / 10, 10 * ((n + X) / 10), (n + X) % 10, 48 + (n + X) % 10, ?_, ?_, ?_, ?_, ?_, ?_, rfl, rfl, rfl, rfl⟩
  · rw [IntKind.wrap_u64, IntKind.wrap_u64]; omega
  · rw [IntKind.wrap_u64]; omega
  · rw [IntKind.wrap_u64]; omega
  · rw [IntKind.wrap_u64]; omega
  · rw [IntKind.wrap_u64]; omega
  · omega
/-- .. of the second loop. -/
theorem sh_wraps2 {n : Nat} (hn : n < 18446744073709551616) : ∃ Q T R S : Nat,
    IntKind.u64.wrap ((n : Int) / 10) = (Q : Int) ∧ IntKind.u64.wrap (10 * (Q : Int)) = (T : Int) ∧ IntKind.u64.wrap ((n : Int) - (T : Int)) = (R : Int) ∧ IntKind.u64.wrap ((R : Int) + 48) = (S : Int) ∧ (S : Int) % 256 = (S : Int) ∧
    Q = n / 10 ∧ R = n % 10 ∧ S = 48 + n % 10 := by
  refine ⟨n / 10, 10 * (n / 10), n % 10, 48 + n % 10, ?_, ?_, ?_, ?_, ?_, rfl, rfl, rfl⟩
  · rw [IntKind.wrap_u64]; omega
  · rw [IntKind.wrap_u64]; omega
  · rw [IntKind.wrap_u64]; omega
  · rw [IntKind.wrap_u64]; omega
  · omega

/-- What leftShift leaves. -/
def Shifted (g nd d0 : Nat) (dp : Int) (neg : Bool) (k : Nat) (w : World) (e : Ending) (w' : World) : Prop :=
  e = .returned (.tuple #[]) ∧ ∃ (cur : List Nat) (n D h : Nat) (tr : Bool), DM w' g cur n (dp + (D : Int)) neg tr ∧ Good cur n ∧ Only g w w' ∧ D ≤ cheatD k ∧ cheatD k ≤ D + 1 ∧ cur[0]? = some (48 + h) ∧ (D = 0 → d0 < h)

/-- The first loop, with r digits still to be read. -/
structure LS1 (wr w : World) (g : Nat) (cur0 : List Nat) (nd : Nat) (dp : Int) (neg : Bool) (k D d0 r n : Nat) (cur : List Nat) (tr : Bool) : Prop where
  mem : DM wr g cur nd dp neg tr
  only : Only g w wr
  old : ∀ i, i < r → cur[i]? = cur0[i]?
  dgs : Dgs cur (r + D) (min (nd + D) 800)
  num : n = val ((dsOf cur0 nd).drop r) * 2 ^ k / 10 ^ (nd - r)
  lt : n < 2 ^ k
  le : r ≤ nd
  hd : r = 0 → D = 0 → ∃ h, d0 < h ∧ h ≤ 9 ∧ cur[0]? = some (48 + h)
/-- The second loop, with v digits still to be written. -/
structure LS2 (wr w : World) (g : Nat) (nd : Nat) (dp : Int) (neg : Bool) (D d0 v n : Nat) (cur : List Nat) (tr : Bool) : Prop where
  mem : DM wr g cur nd dp neg tr
  only : Only g w wr
  dgs : Dgs cur v (min (nd + D) 800)
  le : v ≤ D
  up : n < 10 ^ v
  low : 1 ≤ v → 10 ^ (v - 1) ≤ n
  hd : v = 0 → ∃ h, 1 ≤ h ∧ h ≤ 9 ∧ (D = 0 → d0 < h) ∧ cur[0]? = some (48 + h)

/-- The step of the first loop. -/
theorem LS1.step {wr w : World} {g : Nat} {cur0 : List Nat} {nd : Nat} {dp : Int} {neg : Bool} {k D d0 r n : Nat} {cur : List Nat} {tr : Bool} (h : LS1 wr w g cur0 nd dp neg k D d0 (r + 1) n cur tr)
    (hg : Good cur0 nd) (hlen0 : cur0.length = 800) {d : Nat} (hd : cur0[r]? = some (48 + d)) (hd9 : d ≤ 9) (h0 : r = 0 → d = d0 ∧ 1 ≤ d0) (hk1 : 1 ≤ k)
    (hup : val (dsOf cur0 nd) * 2 ^ k < 10 ^ (nd + D)) {wn : World} (ho : Only g w wn)
    (hmem : (r + D < 800 → DM wn g (cur.set (r + D) (48 + (n + d * 2 ^ k) % 10)) nd dp neg tr) ∧ (¬ r + D < 800 → ∃ tr', DM wn g cur nd dp neg tr')) :
    ∃ cur' tr', LS1 wn w g cur0 nd dp neg k D d0 r ((n + d * 2 ^ k) / 10) cur' tr' := by
  have hlen : (dsOf cur0 nd).length = nd := dsOf_len (by rw [hlen0]; exact hg.le)
  have hr : r < nd := h.le
  have hget : (dsOf cur0 nd)[r]? = some d := dsOf_get hr hd
  have hdv := drop_val hget
  rw [hlen] at hdv
  have hnum : (n + d * 2 ^ k) / 10 = val ((dsOf cur0 nd).drop r) * 2 ^ k / 10 ^ (nd - r) := by
    rw [carry h.num, hdv, show nd - (r + 1) + 1 = nd - r by omega]
  have hlt : (n + d * 2 ^ k) / 10 < 2 ^ k := by
    refine carry_lt hnum ?_
    have hdg : Digs ((dsOf cur0 nd).drop r) := fun x hx => dsOf_digs hg.dgs x (List.mem_of_mem_drop hx)
    have := val_lt hdg
    rwa [List.length_drop, hlen] at this
  have hm10 : (n + d * 2 ^ k) % 10 ≤ 9 := by omega
  have hhead : r = 0 → D = 0 → (n + d * 2 ^ k) % 10 > d0 := by
    intro e1 e2
    subst e1 e2
    obtain ⟨rfl, hd1⟩ := h0 rfl
    have hz : (n + d * 2 ^ k) / 10 = 0 := by
      rw [hnum, List.drop_zero, Nat.sub_zero]
      exact Nat.div_eq_of_lt hup
    have h2 : d * 2 ≤ d * 2 ^ k := by
      apply Nat.mul_le_mul_left
      have : 2 ^ 1 ≤ 2 ^ k := Nat.pow_le_pow_right (by decide) hk1
      omega
    clear hmem hup hnum hlt
    generalize d * 2 ^ k = X at *
    omega
  by_cases hw : r + D < 800
  · refine ⟨_, _, hmem.1 hw, ho, ?_, ?_, hnum, hlt, by omega, ?_⟩
    · intro i hi
      rw [List.getElem?_set, if_neg (by omega)]
      exact h.old i (by omega)
    · exact (show Dgs cur (r + D + 1) _ from h.dgs.sub (by omega) (Nat.le_refl _)).more hm10 (by rw [h.mem.len]; exact hw)
    · intro e1 e2
      subst e1 e2
      exact ⟨_, hhead rfl rfl, hm10, by rw [List.getElem?_set]; simp [h.mem.len]⟩
  · obtain ⟨tr', hm'⟩ := hmem.2 hw
    refine ⟨_, _, hm', ho, fun i hi => h.old i (by omega), ?_, hnum, hlt, by omega, ?_⟩
    · intro i h1 h2
      omega
    · intro e1 e2
      omega

/-- From the first loop to the second. -/
theorem LS1.turn {wr w : World} {g : Nat} {cur0 : List Nat} {nd : Nat} {dp : Int} {neg : Bool} {k D d0 n : Nat} {cur : List Nat} {tr : Bool} (h : LS1 wr w g cur0 nd dp neg k D d0 0 n cur tr)
    (hup : val (dsOf cur0 nd) * 2 ^ k < 10 ^ (nd + D)) (hlow : 1 ≤ D → 10 ^ (nd + D - 1) ≤ val (dsOf cur0 nd) * 2 ^ k) : LS2 wr w g nd dp neg D d0 D n cur tr := by
  have hn := h.num
  rw [List.drop_zero, Nat.sub_zero] at hn
  have hp : 0 < 10 ^ nd := Nat.pow_pos (by decide)
  refine ⟨h.mem, h.only, by simpa using h.dgs, Nat.le_refl _, ?_, ?_, ?_⟩
  · rw [hn]
    apply Nat.div_lt_of_lt_mul
    rw [← Nat.pow_add]
    exact hup
  · intro h1
    rw [hn, Nat.le_div_iff_mul_le hp, ← Nat.pow_add, show D - 1 + nd = nd + D - 1 by omega]
    exact hlow h1
  · intro e
    obtain ⟨x, h1, h2, h3⟩ := h.hd rfl e
    exact ⟨x, by omega, h2, fun _ => h1, h3⟩

theorem LS2.step {wr w : World} {g : Nat} {nd : Nat} {dp : Int} {neg : Bool} {D d0 v n : Nat} {cur : List Nat} {tr : Bool} (h : LS2 wr w g nd dp neg D d0 (v + 1) n cur tr) (hnd : 1 ≤ nd) (hD : D ≤ 19)
    {wn : World} (ho : Only g w wn) (hmem : DM wn g (cur.set v (48 + n % 10)) nd dp neg tr) : LS2 wn w g nd dp neg D d0 v (n / 10) (cur.set v (48 + n % 10)) tr := by
  have hv := h.le
  have hlo := h.low (by omega)
  rw [Nat.add_sub_cancel] at hlo
  have hup := h.up
  rw [Nat.pow_succ] at hup
  have hl : v < cur.length := by rw [h.mem.len]; omega
  have h9 : n % 10 ≤ 9 := by omega
  refine ⟨hmem, ho, h.dgs.more h9 hl, by omega, by omega, ?_, ?_⟩
  · intro h1
    obtain ⟨u, rfl⟩ : ∃ u, v = u + 1 := ⟨v - 1, by omega⟩
    rw [Nat.pow_succ] at hlo
    rw [Nat.add_sub_cancel]
    omega
  · intro e
    subst e
    simp at hlo hup
    exact ⟨n % 10, by omega, by omega, fun e => by omega, by rw [List.getElem?_set]; simp [hl]⟩

theorem LS2.gone {wr w : World} {g : Nat} {nd : Nat} {dp : Int} {neg : Bool} {D d0 v : Nat} {cur : List Nat} {tr : Bool} (h : LS2 wr w g nd dp neg D d0 v 0 cur tr) : v = 0 := by
  apply Decidable.byContradiction
  intro hv
  have := h.low (by omega)
  have : 0 < 10 ^ (v - 1) := Nat.pow_pos (by decide)
  omega
theorem LS2.more {wr w : World} {g : Nat} {nd : Nat} {dp : Int} {neg : Bool} {D d0 v n : Nat} {cur : List Nat} {tr : Bool} (h : LS2 wr w g nd dp neg D d0 v n cur tr) (hn : 0 < n) : 1 ≤ v := by
  apply Decidable.byContradiction
  intro hv
  obtain rfl : v = 0 := by omega
  have := h.up
  simp at this
  omega

set_option maxHeartbeats 8000000 in
theorem leftShift_any {g : Nat} {cur : List Nat} {nd d0 k : Nat} {dp : Int} {neg tr : Bool} (w : World) (hm : DM w g cur nd dp neg tr) (hg : Good cur nd) (hd0 : cur[0]? = some (48 + d0)) (hd1 : 1 ≤ d0 ∧ d0 ≤ 9) (hdp : -100000000 ≤ dp ∧ dp ≤ 100000000) (ht : CheatTab w) (hg11 : g ≠ 11) (hk : 1 ≤ k ∧ k ≤ 60) :
    Calls Tryz.prog 112 #[.pointer (some ⟨g, 0, none⟩), .int .u64 k] w (Shifted g nd d0 dp neg k w) := by
  obtain ⟨ad, c, t1, t2⟩ := ht
  obtain ⟨t3, s, t4, t5⟩ := t2 k (by omega)
  clear t2
  have hs : s.size ≤ 1000000 := by
    have e1 := bytesN_len s
    rw [cheat_bytes hk.1 hk.2 t5, List.length_map] at e1
    have := (cheat hk.1 hk.2).len
    omega
  have hcy := cheat hk.1 hk.2
  have hDD := more_le (ds := dsOf cur nd) hk.1 hk.2
  have hlen : (dsOf cur nd).length = nd := dsOf_len (by rw [hm.len]; exact hg.le)
  have hup := more_up (ds := dsOf cur nd) hk.1 hk.2 (dsOf_digs hg.dgs)
  have hlow : 1 ≤ more k (dsOf cur nd) → 10 ^ (nd + more k (dsOf cur nd) - 1) ≤ val (dsOf cur nd) * 2 ^ k := by
    intro h1
    have hz := dsOf_get (nd := nd) hg.pos hd0
    have hz2 := drop_at hz
    rw [List.drop_zero] at hz2
    have := more_low (k := k) (d := d0) (ds := (dsOf cur nd).drop (0 + 1)) hk.1 hk.2 (by rw [← hz2]; exact dsOf_digs hg.dgs) hd1.1 (by rw [← hz2]; exact h1)
    rw [← hz2, hlen] at this
    exact this
  rw [hlen] at hup
  have hlex : lexN (cur.take nd) (bytesN s) = lexN (dsOf cur nd) (cheatN k) := by
    rw [dsOf_bytes hg.dgs, cheat_bytes hk.1 hk.2 t5, lexN_map]
  have hnd800 := hg.le
  have hnd1 := hg.pos
  have htl : (cur.take nd).length = nd := by rw [List.length_take, hm.len]; omega
  have hpre : ∀ q, Calls Tryz.prog 118 #[.slice (some ⟨g, 0, none⟩) nd 800, .string s] (w.drewN q) (fun e w' => e = .returned (.bool (lexN (dsOf cur nd) (cheatN k))) ∧ ∃ q', w' = (w.drewN q).drewN q') := by
    intro q
    rw [← hlex]
    refine prefix_lt' (w.drewN q) htl.symm (by omega) hs ?_
    intro i b hb
    rw [List.getElem?_take] at hb
    split at hb
    · exact (hm.drewN q).digit hb
    · cases hb
  have hpow := pow60 hk.2
  have hkk1 := hk.1
  have hkk2 := hk.2
  have hfr := hm.frozen 800
  have hnd := hm.c_nd
  have hdpc := hm.c_dp
  have hkb : k < 61 := by omega
  have q1 : (k : Int) < 61 := by omega
  have q2 : (nd : Int) ≤ 800 := by omega
  have q3 : (0 : Int) ≤ (nd : Int) := by omega
  have hlx := Lib.hid hlex
  have hup' := Lib.hid hup
  have hlow' := Lib.hid hlow
  clear hlex hup hlow
  go_enter Tryz.func112, Tryz.ntmps112
  go_wp2_with fail
  have hpreH := Lib.hid hpre
  clear hpre
  go_quiet ((go_at_call 118; exact Calls.quiet_of (hpreH.out _)))
  clear t1 t3 t4 t5 hs
  have hmH := Lib.hid hm
  have hgH := Lib.hid hg
  obtain ⟨D, hD⟩ : ∃ D, more k (dsOf cur nd) = D := ⟨_, rfl⟩
  rw [hD] at hup' hlow' hDD
  have hc1 := hcy.one
  have hd0H := Lib.hid hd0
  clear hm hg hlx hpreH hd0 hlen htl
  cases hlx : lexN (dsOf cur nd) (cheatN k) with
  | true =>
    have e1 : cheatD k = D + 1 := by rw [← hD, more, hlx]; simp; omega
    clear hlx hcy hc1 hD
    have hD19 := hDD.1
    have hE1 : D ≤ cheatD k ∧ cheatD k ≤ D + 1 := by omega
    have hE := Lib.hid hE1
    rw [e1]
    clear e1 hE1 hDD
    go_wp2_with fail
    go_loopw [5, 6, 7, 8, 9] (fun r5 r6 n7 _ _ wr => ∃ (r n : Nat) (cur' : List Nat) (tr' : Bool) (z5 z6 : Int), r5 = .int .i64 z5 ∧ z5 = (r : Int) - 1 ∧ r6 = .int .i64 z6 ∧ z6 = (r : Int) + D ∧ n7 = .int .u64 n ∧ LS1 wr w g cur nd dp neg k D d0 r n cur' tr') (fun r5 _ _ _ _ _ => (intOf r5 + 1).toNat)
    case atStart =>
      refine ⟨nd, 0, cur, tr, _, _, rfl, ?_, rfl, ?_, rfl, hmH.out.drewN _, (Only.refl g w).drewN _, fun _ _ => rfl, ?_, ?_, Nat.pow_pos (by decide), Nat.le_refl _, ?_⟩
      · omega
      · omega
      · intro i h1 h2; omega
      · rw [List.drop_of_length_le (by simp [dsOf]; omega)]; simp [val]
      · intro e; omega
    case round =>
      obtain ⟨r, n, cur', tr', z5, z6, rfl, hz5, rfl, hz6, rfl, hls⟩ := hrel
      have hlsH := Lib.hid hls
      have hmr := hls.mem
      have hrle := hls.le
      have hlt := hls.lt
      clear hls
      rcases Nat.eq_zero_or_pos r with rfl | hr
      · obtain rfl : z5 = -1 := by omega
        obtain rfl : z6 = ((D : Nat) : Int) := by omega
        clear hz5 hz6
        have hl2 := hlsH.out.turn hup'.out hlow'.out
        have hl2H := Lib.hid hl2
        clear hl2 hmr hlt hpow
        go_wp2_with fail
        go_loopw [6, 7, 10, 11] (fun r6 n7 _ _ wr => ∃ (v n : Nat) (cur' : List Nat) (tr' : Bool), r6 = .int .i64 v ∧ n7 = .int .u64 n ∧ LS2 wr w g nd dp neg D d0 v n cur' tr') (fun r6 _ _ _ _ => (intOf r6).toNat)
        case atStart => exact ⟨D, n, cur', tr', rfl, rfl, hl2H.out⟩
        case round =>
          clear hl2H hlsH
          obtain ⟨v, n, cur', tr', rfl, rfl, hl2⟩ := hrel
          have hl2H := Lib.hid hl2
          have hmr := hl2.mem
          have hvD := hl2.le
          have hn64 : n < 18446744073709551616 := by
            have e1 := hl2.up
            have e2 : 10 ^ v ≤ 10 ^ 19 := Nat.pow_le_pow_right (by decide) (by omega)
            have e3 : (10 : Nat) ^ 19 = 10000000000000000000 := by decide
            omega
          by_cases hn0 : 0 < n
          · have hv1 := hl2.more hn0
            obtain ⟨v, rfl⟩ : ∃ m, v = m + 1 := ⟨v - 1, by omega⟩
            obtain ⟨Q, T, R, S, wB, wT, wC, wD, wE, eQ, eR, eS⟩ := sh_wraps2 hn64
            have p1 : (0 : Int) ≤ (v : Int) := by omega
            have p2 : (v : Int) < 800 := by omega
            obtain ⟨b', hb', _⟩ := hmr.get (show v < 800 by omega)
            have hcv := hmr.digit hb'
            have hfm := hmr.frozen v
            have hS : S < 256 := by omega
            have hst : ∀ wn : World, Only g w wn → DM wn g (cur'.set v S) nd dp neg tr' → LS2 wn w g nd dp neg D d0 v Q (cur'.set v S) tr' := by
              intro wn h1 h2
              rw [eQ, eS]
              exact hl2H.out.step hnd1 hD19 h1 (by rw [← eS]; exact h2)
            have hstH := Lib.hid hst
            have hmrH := Lib.hid hmr
            clear hst hmr hl2 eQ eR eS hb' hn64 hvD hv1
            have q7 : (0 : Int) < (n : Int) := by omega
            go_wp2_with fail
            refine ⟨⟨v, Q, _, tr', rfl, rfl, hstH.out _ (hl2H.out.only.trans (only_set _ _ _ _)) (hmrH.out.setD (by omega) hS)⟩, ?_⟩
            simp [intOf]
          · obtain rfl : n = 0 := by omega
            obtain rfl := hl2.gone
            have hmrH := Lib.hid hmr
            have hc8 := hmr.c_nd
            have hf8 := hmr.frozen 800
            have hc9 := hmr.c_dp
            have hf9 := hmr.frozen 801
            clear hl2 hvD hn64 hmr
            by_cases h8 : nd + D < 800
            · have h8i : ¬ (800 : Int) ≤ (nd : Int) + D := by omega
              have p3 : (0 : Int) ≤ (nd : Int) + D := by omega
              have p4 : (nd : Int) + D ≤ 820 := by omega
              have hdg : Dgs cur' 0 (nd + D) := by
                have := hl2H.out.dgs
                rwa [Nat.min_eq_left (by omega)] at this
              obtain ⟨h, hh1, hh2, hh3, hh4⟩ := hl2H.out.hd rfl
              have hgd : Good cur' (nd + D) := ⟨by omega, by omega, hdg, by rw [hh4]; simp; omega⟩
              have hdm : DM ((wr.setCell ⟨g, 800, none⟩ (.int .i64 ((nd : Int) + (D : Int)))).setCell ⟨g, 801, none⟩ (.int .i64 (dp + (D : Int)))) g cur' (nd + D) (dp + (D : Int)) neg tr' := by
                have := hmrH.out.setN (nd + D)
                push_cast at this
                exact this.setP _
              have hdmH := Lib.hid hdm
              have hgdH := Lib.hid hgd
              have hfH := Lib.hid hh3
              have hf4 := Lib.hid hh4
              clear hdm hgd hdg hh1 hh2 hh3 hh4 h8
              go_wp2_with fail
              refine (trim_any _ hdmH.out hgdH.out).mono ?_
              rintro e w2 ⟨rfl, n2, g1, g2, g3, g4⟩
              go_wp2_with fail
              go_end0
              exact ⟨rfl, cur', n2, D, h, tr', g1, g2, ((hl2H.out.only.trans (only_set _ _ _ _)).trans (only_set _ _ _ _)).trans g4, hE.out.1, hE.out.2, hf4.out, hfH.out⟩
            · have h8i : (800 : Int) ≤ (nd : Int) + D := by omega
              have p3 : (nd : Int) + D ≤ 820 := by omega
              have hdg : Dgs cur' 0 800 := by
                have := hl2H.out.dgs
                rwa [Nat.min_eq_right (by omega)] at this
              obtain ⟨h, hh1, hh2, hh3, hh4⟩ := hl2H.out.hd rfl
              have hgd : Good cur' 800 := ⟨by omega, by omega, hdg, by rw [hh4]; simp; omega⟩
              have hdm : DM (((wr.setCell ⟨g, 800, none⟩ (.int .i64 ((nd : Int) + (D : Int)))).setCell ⟨g, 800, none⟩ (.int .i64 800)).setCell ⟨g, 801, none⟩ (.int .i64 (dp + (D : Int)))) g cur' 800 (dp + (D : Int)) neg tr' := by
                have := hmrH.out.setN (nd + D)
                push_cast at this
                exact (this.setN 800).setP _
              have hdmH := Lib.hid hdm
              have hgdH := Lib.hid hgd
              have hfH := Lib.hid hh3
              have hf4 := Lib.hid hh4
              clear hdm hgd hdg hh1 hh2 hh3 hh4 h8
              go_wp2_with fail
              refine (trim_any _ hdmH.out hgdH.out).mono ?_
              rintro e w2 ⟨rfl, n2, g1, g2, g3, g4⟩
              go_wp2_with fail
              go_end0
              exact ⟨rfl, cur', n2, D, h, tr', g1, g2, (((hl2H.out.only.trans (only_set _ _ _ _)).trans (only_set _ _ _ _)).trans (only_set _ _ _ _)).trans g4, hE.out.1, hE.out.2, hf4.out, hfH.out⟩
      · obtain ⟨r, rfl⟩ : ∃ m, r = m + 1 := ⟨r - 1, by omega⟩
        obtain ⟨m, hm⟩ : ∃ m, m = r + D := ⟨_, rfl⟩
        obtain rfl : z5 = ((r : Nat) : Int) := by omega
        obtain rfl : z6 = ((m + 1 : Nat) : Int) := by omega
        clear hz5 hz6
        obtain ⟨b, hb, hb2⟩ := hmr.get (show r < 800 by omega)
        have hcell := hmr.digit hb
        have hb1 : 48 ≤ b ∧ b ≤ 57 := by
          obtain ⟨d, hd9, he⟩ := hgH.out.dgs r (by omega) (by omega)
          rw [hlsH.out.old r (by omega), he] at hb
          cases hb
          omega
        have hbH := Lib.hid hb
        clear hb
        have hltH := Lib.hid hlt
        have hmH2 := Lib.hid hm
        have hpowH := Lib.hid hpow
        have p1 : (0 : Int) ≤ (r : Int) := by omega
        have p2 : (r : Int) < 800 := by omega
        have p3 : (m : Int) ≤ 820 := by omega
        obtain ⟨N, Q, T, R, S, wA, wB, wT, wC, wD, wE, eN, eQ, eR, eS⟩ := sh_wraps hkk2 hlt hb1
        have hstep : ∀ wn : World, Only g w wn → ((r + D < 800 → DM wn g (cur'.set (r + D) S) nd dp neg tr') ∧ (¬ r + D < 800 → ∃ tr', DM wn g cur' nd dp neg tr')) → ∃ cur2 tr2, LS1 wn w g cur nd dp neg k D d0 r Q cur2 tr2 := by
          intro wn ho hmem
          obtain ⟨d, hd9, he⟩ := hgH.out.dgs r (by omega) (by omega)
          have hbd : b = 48 + d := by
            have hb' := hbH.out
            rw [hlsH.out.old r (by omega), he] at hb'
            cases hb'
            rfl
          have e4 : N = n + d * 2 ^ k := by rw [eN, hbd, Nat.add_sub_cancel_left]
          have h00 : r = 0 → d = d0 ∧ 1 ≤ d0 := by
            intro e
            have hx := hd0H.out
            rw [← e, he] at hx
            simp at hx
            omega
          have hfin := hlsH.out.step hgH.out hmH.out.len he hd9 h00 hkk1 hup'.out ho (by rw [← e4, ← eS]; exact hmem)
          rw [← e4, ← eQ] at hfin
          exact hfin
        have hstH := Lib.hid hstep
        have hmnH := Lib.hid hmr
        clear hstep eN eQ eR eS
        clear hlt hm hpow
        by_cases h8 : (m : Int) < 800
        · have hcm : ∃ b', wr.cell? ⟨g, m, none⟩ = some (.int .u8 b') := by
            obtain ⟨b', hb', _⟩ := hmr.get (show m < 800 by omega)
            exact ⟨_, hmr.digit hb'⟩
          obtain ⟨b', hb'⟩ := hcm
          have hfm := hmr.frozen m
          have hS : S < 256 := by omega
          clear hmr
          go_wp2_with fail
          obtain ⟨cur2, tr2, hf⟩ := hstH.out _ (hlsH.out.only.trans (only_set wr g m (.int .u8 S))) ⟨fun h => by rw [← hmH2.out]; exact hmnH.out.setD (by omega) hS, fun h => by have := hmH2.out; omega⟩
          refine ⟨⟨r, Q, cur2, tr2, _, _, rfl, rfl, rfl, by have := hmH2.out; omega, rfl, hf⟩, ?_⟩
          simp [intOf]
        · have h8n : ¬ m < 800 := by omega
          have hcm := hmr.c_tr
          have hfm := hmr.frozen 803
          clear hmr
          rcases Bool.eq_false_or_eq_true ((R : Int) != 0) with hR | hR
          · go_wp2_with fail
            obtain ⟨cur2, tr2, hf⟩ := hstH.out _ (hlsH.out.only.trans (only_set wr g 803 (.bool true))) ⟨fun h => by have := hmH2.out; omega, fun h => ⟨true, hmnH.out.setT true⟩⟩
            refine ⟨⟨r, Q, cur2, tr2, _, _, rfl, rfl, rfl, by have := hmH2.out; omega, rfl, hf⟩, ?_⟩
            simp [intOf]
          · go_wp2_with fail
            obtain ⟨cur2, tr2, hf⟩ := hstH.out _ hlsH.out.only ⟨fun h => by have := hmH2.out; omega, fun h => ⟨tr', hmnH.out⟩⟩
            refine ⟨⟨r, Q, cur2, tr2, _, _, rfl, rfl, rfl, by have := hmH2.out; omega, rfl, hf⟩, ?_⟩
            simp [intOf]

  | false =>
    have e1 : cheatD k = D := by rw [← hD, more, hlx]; simp
    clear hlx hcy hc1 hD
    have hD19 := hDD.1
    have hE1 : D ≤ cheatD k ∧ cheatD k ≤ D + 1 := by omega
    have hE := Lib.hid hE1
    rw [e1]
    clear e1 hE1 hDD
    go_wp2_with fail
    go_loopw [5, 6, 7, 8, 9] (fun r5 r6 n7 _ _ wr => ∃ (r n : Nat) (cur' : List Nat) (tr' : Bool) (z5 z6 : Int), r5 = .int .i64 z5 ∧ z5 = (r : Int) - 1 ∧ r6 = .int .i64 z6 ∧ z6 = (r : Int) + D ∧ n7 = .int .u64 n ∧ LS1 wr w g cur nd dp neg k D d0 r n cur' tr') (fun r5 _ _ _ _ _ => (intOf r5 + 1).toNat)
    case atStart =>
      refine ⟨nd, 0, cur, tr, _, _, rfl, ?_, rfl, ?_, rfl, hmH.out.drewN _, (Only.refl g w).drewN _, fun _ _ => rfl, ?_, ?_, Nat.pow_pos (by decide), Nat.le_refl _, ?_⟩
      · omega
      · omega
      · intro i h1 h2; omega
      · rw [List.drop_of_length_le (by simp [dsOf]; omega)]; simp [val]
      · intro e; omega
    case round =>
      obtain ⟨r, n, cur', tr', z5, z6, rfl, hz5, rfl, hz6, rfl, hls⟩ := hrel
      have hlsH := Lib.hid hls
      have hmr := hls.mem
      have hrle := hls.le
      have hlt := hls.lt
      clear hls
      rcases Nat.eq_zero_or_pos r with rfl | hr
      · obtain rfl : z5 = -1 := by omega
        obtain rfl : z6 = ((D : Nat) : Int) := by omega
        clear hz5 hz6
        have hl2 := hlsH.out.turn hup'.out hlow'.out
        have hl2H := Lib.hid hl2
        clear hl2 hmr hlt hpow
        go_wp2_with fail
        go_loopw [6, 7, 10, 11] (fun r6 n7 _ _ wr => ∃ (v n : Nat) (cur' : List Nat) (tr' : Bool), r6 = .int .i64 v ∧ n7 = .int .u64 n ∧ LS2 wr w g nd dp neg D d0 v n cur' tr') (fun r6 _ _ _ _ => (intOf r6).toNat)
        case atStart => exact ⟨D, n, cur', tr', rfl, rfl, hl2H.out⟩
        case round =>
          clear hl2H hlsH
          obtain ⟨v, n, cur', tr', rfl, rfl, hl2⟩ := hrel
          have hl2H := Lib.hid hl2
          have hmr := hl2.mem
          have hvD := hl2.le
          have hn64 : n < 18446744073709551616 := by
            have e1 := hl2.up
            have e2 : 10 ^ v ≤ 10 ^ 19 := Nat.pow_le_pow_right (by decide) (by omega)
            have e3 : (10 : Nat) ^ 19 = 10000000000000000000 := by decide
            omega
          by_cases hn0 : 0 < n
          · have hv1 := hl2.more hn0
            obtain ⟨v, rfl⟩ : ∃ m, v = m + 1 := ⟨v - 1, by omega⟩
            obtain ⟨Q, T, R, S, wB, wT, wC, wD, wE, eQ, eR, eS⟩ := sh_wraps2 hn64
            have p1 : (0 : Int) ≤ (v : Int) := by omega
            have p2 : (v : Int) < 800 := by omega
            obtain ⟨b', hb', _⟩ := hmr.get (show v < 800 by omega)
            have hcv := hmr.digit hb'
            have hfm := hmr.frozen v
            have hS : S < 256 := by omega
            have hst : ∀ wn : World, Only g w wn → DM wn g (cur'.set v S) nd dp neg tr' → LS2 wn w g nd dp neg D d0 v Q (cur'.set v S) tr' := by
              intro wn h1 h2
              rw [eQ, eS]
              exact hl2H.out.step hnd1 hD19 h1 (by rw [← eS]; exact h2)
            have hstH := Lib.hid hst
            have hmrH := Lib.hid hmr
            clear hst hmr hl2 eQ eR eS hb' hn64 hvD hv1
            have q7 : (0 : Int) < (n : Int) := by omega
            go_wp2_with fail
            refine ⟨⟨v, Q, _, tr', rfl, rfl, hstH.out _ (hl2H.out.only.trans (only_set _ _ _ _)) (hmrH.out.setD (by omega) hS)⟩, ?_⟩
            simp [intOf]
          · obtain rfl : n = 0 := by omega
            obtain rfl := hl2.gone
            have hmrH := Lib.hid hmr
            have hc8 := hmr.c_nd
            have hf8 := hmr.frozen 800
            have hc9 := hmr.c_dp
            have hf9 := hmr.frozen 801
            clear hl2 hvD hn64 hmr
            by_cases h8 : nd + D < 800
            · have h8i : ¬ (800 : Int) ≤ (nd : Int) + D := by omega
              have p3 : (0 : Int) ≤ (nd : Int) + D := by omega
              have p4 : (nd : Int) + D ≤ 820 := by omega
              have hdg : Dgs cur' 0 (nd + D) := by
                have := hl2H.out.dgs
                rwa [Nat.min_eq_left (by omega)] at this
              obtain ⟨h, hh1, hh2, hh3, hh4⟩ := hl2H.out.hd rfl
              have hgd : Good cur' (nd + D) := ⟨by omega, by omega, hdg, by rw [hh4]; simp; omega⟩
              have hdm : DM ((wr.setCell ⟨g, 800, none⟩ (.int .i64 ((nd : Int) + (D : Int)))).setCell ⟨g, 801, none⟩ (.int .i64 (dp + (D : Int)))) g cur' (nd + D) (dp + (D : Int)) neg tr' := by
                have := hmrH.out.setN (nd + D)
                push_cast at this
                exact this.setP _
              have hdmH := Lib.hid hdm
              have hgdH := Lib.hid hgd
              have hfH := Lib.hid hh3
              have hf4 := Lib.hid hh4
              clear hdm hgd hdg hh1 hh2 hh3 hh4 h8
              go_wp2_with fail
              refine (trim_any _ hdmH.out hgdH.out).mono ?_
              rintro e w2 ⟨rfl, n2, g1, g2, g3, g4⟩
              go_wp2_with fail
              go_end0
              exact ⟨rfl, cur', n2, D, h, tr', g1, g2, ((hl2H.out.only.trans (only_set _ _ _ _)).trans (only_set _ _ _ _)).trans g4, hE.out.1, hE.out.2, hf4.out, hfH.out⟩
            · have h8i : (800 : Int) ≤ (nd : Int) + D := by omega
              have p3 : (nd : Int) + D ≤ 820 := by omega
              have hdg : Dgs cur' 0 800 := by
                have := hl2H.out.dgs
                rwa [Nat.min_eq_right (by omega)] at this
              obtain ⟨h, hh1, hh2, hh3, hh4⟩ := hl2H.out.hd rfl
              have hgd : Good cur' 800 := ⟨by omega, by omega, hdg, by rw [hh4]; simp; omega⟩
              have hdm : DM (((wr.setCell ⟨g, 800, none⟩ (.int .i64 ((nd : Int) + (D : Int)))).setCell ⟨g, 800, none⟩ (.int .i64 800)).setCell ⟨g, 801, none⟩ (.int .i64 (dp + (D : Int)))) g cur' 800 (dp + (D : Int)) neg tr' := by
                have := hmrH.out.setN (nd + D)
                push_cast at this
                exact (this.setN 800).setP _
              have hdmH := Lib.hid hdm
              have hgdH := Lib.hid hgd
              have hfH := Lib.hid hh3
              have hf4 := Lib.hid hh4
              clear hdm hgd hdg hh1 hh2 hh3 hh4 h8
              go_wp2_with fail
              refine (trim_any _ hdmH.out hgdH.out).mono ?_
              rintro e w2 ⟨rfl, n2, g1, g2, g3, g4⟩
              go_wp2_with fail
              go_end0
              exact ⟨rfl, cur', n2, D, h, tr', g1, g2, (((hl2H.out.only.trans (only_set _ _ _ _)).trans (only_set _ _ _ _)).trans (only_set _ _ _ _)).trans g4, hE.out.1, hE.out.2, hf4.out, hfH.out⟩
      · obtain ⟨r, rfl⟩ : ∃ m, r = m + 1 := ⟨r - 1, by omega⟩
        obtain ⟨m, hm⟩ : ∃ m, m = r + D := ⟨_, rfl⟩
        obtain rfl : z5 = ((r : Nat) : Int) := by omega
        obtain rfl : z6 = ((m + 1 : Nat) : Int) := by omega
        clear hz5 hz6
        obtain ⟨b, hb, hb2⟩ := hmr.get (show r < 800 by omega)
        have hcell := hmr.digit hb
        have hb1 : 48 ≤ b ∧ b ≤ 57 := by
          obtain ⟨d, hd9, he⟩ := hgH.out.dgs r (by omega) (by omega)
          rw [hlsH.out.old r (by omega), he] at hb
          cases hb
          omega
        have hbH := Lib.hid hb
        clear hb
        have hltH := Lib.hid hlt
        have hmH2 := Lib.hid hm
        have hpowH := Lib.hid hpow
        have p1 : (0 : Int) ≤ (r : Int) := by omega
        have p2 : (r : Int) < 800 := by omega
        have p3 : (m : Int) ≤ 820 := by omega
        obtain ⟨N, Q, T, R, S, wA, wB, wT, wC, wD, wE, eN, eQ, eR, eS⟩ := sh_wraps hkk2 hlt hb1
        have hstep : ∀ wn : World, Only g w wn → ((r + D < 800 → DM wn g (cur'.set (r + D) S) nd dp neg tr') ∧ (¬ r + D < 800 → ∃ tr', DM wn g cur' nd dp neg tr')) → ∃ cur2 tr2, LS1 wn w g cur nd dp neg k D d0 r Q cur2 tr2 := by
          intro wn ho hmem
          obtain ⟨d, hd9, he⟩ := hgH.out.dgs r (by omega) (by omega)
          have hbd : b = 48 + d := by
            have hb' := hbH.out
            rw [hlsH.out.old r (by omega), he] at hb'
            cases hb'
            rfl
          have e4 : N = n + d * 2 ^ k := by rw [eN, hbd, Nat.add_sub_cancel_left]
          have h00 : r = 0 → d = d0 ∧ 1 ≤ d0 := by
            intro e
            have hx := hd0H.out
            rw [← e, he] at hx
            simp at hx
            omega
          have hfin := hlsH.out.step hgH.out hmH.out.len he hd9 h00 hkk1 hup'.out ho (by rw [← e4, ← eS]; exact hmem)
          rw [← e4, ← eQ] at hfin
          exact hfin
        have hstH := Lib.hid hstep
        have hmnH := Lib.hid hmr
        clear hstep eN eQ eR eS
        clear hlt hm hpow
        by_cases h8 : (m : Int) < 800
        · have hcm : ∃ b', wr.cell? ⟨g, m, none⟩ = some (.int .u8 b') := by
            obtain ⟨b', hb', _⟩ := hmr.get (show m < 800 by omega)
            exact ⟨_, hmr.digit hb'⟩
          obtain ⟨b', hb'⟩ := hcm
          have hfm := hmr.frozen m
          have hS : S < 256 := by omega
          clear hmr
          go_wp2_with fail
          obtain ⟨cur2, tr2, hf⟩ := hstH.out _ (hlsH.out.only.trans (only_set wr g m (.int .u8 S))) ⟨fun h => by rw [← hmH2.out]; exact hmnH.out.setD (by omega) hS, fun h => by have := hmH2.out; omega⟩
          refine ⟨⟨r, Q, cur2, tr2, _, _, rfl, rfl, rfl, by have := hmH2.out; omega, rfl, hf⟩, ?_⟩
          simp [intOf]
        · have h8n : ¬ m < 800 := by omega
          have hcm := hmr.c_tr
          have hfm := hmr.frozen 803
          clear hmr
          rcases Bool.eq_false_or_eq_true ((R : Int) != 0) with hR | hR
          · go_wp2_with fail
            obtain ⟨cur2, tr2, hf⟩ := hstH.out _ (hlsH.out.only.trans (only_set wr g 803 (.bool true))) ⟨fun h => by have := hmH2.out; omega, fun h => ⟨true, hmnH.out.setT true⟩⟩
            refine ⟨⟨r, Q, cur2, tr2, _, _, rfl, rfl, rfl, by have := hmH2.out; omega, rfl, hf⟩, ?_⟩
            simp [intOf]
          · go_wp2_with fail
            obtain ⟨cur2, tr2, hf⟩ := hstH.out _ hlsH.out.only ⟨fun h => by have := hmH2.out; omega, fun h => ⟨tr', hmnH.out⟩⟩
            refine ⟨⟨r, Q, cur2, tr2, _, _, rfl, rfl, rfl, by have := hmH2.out; omega, rfl, hf⟩, ?_⟩
            simp [intOf]

end Go.Proofs.YthagnngckegekaaGreatDoor
