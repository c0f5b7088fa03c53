/-
  alt.diff, alt.Compare: one place at which two values differ, or none. Conditions: none.
-/
import Derived.Test.YtpdcoipfpffhnaaDiffO
namespace Go.Proofs.Ytpdcoipfpffhnaa
open Go.ChangeShapes Go.WideShapes Go.ChangeAt Go.RowKit
set_option linter.unusedVariables false

theorem diff_obj_at (one : Bool) (a b : V) (x y : Value) (w : World) {lo hi lo' hi' : Nat} (hx : PT w lo hi a x) (hy : PT w lo' hi' b y) (h1 : hi ≤ w.heap.size) (h2 : hi' ≤ w.heap.size) (ha : a.kind = 8) (hb : b.kind = 8) (haw : a.wt ≤ 1000000)
    (hone : one = true ∨ ∀ k k', (k ∈ a.keys ∨ k ∈ b.keys) → (k' ∈ a.keys ∨ k' ∈ b.keys) → k = k')
    (hrec : ∀ k, (k ∈ a.keys ∨ k ∈ b.keys) → ∀ (z z2 : Value) (wr : World), PT wr lo hi (a.member k) z → PT wr lo' hi' (b.member k) z2 → hi ≤ wr.heap.size → hi' ≤ wr.heap.size → Calls Try.prog 69 #[z, z2, .bool one, .slice none 0 0] wr (Told (Dif (a.member k) (b.member k)) wr)) :
    Calls Try.prog 69 #[x, y, .bool one, .slice none 0 0] w (Told (Dif a b) w) := by
  cases hx with
  | obj _ _ _ h g ps cut hlo hg hhi hm hkeys hn hmo hk =>
    cases hy with
    | obj _ _ _ h' g' ps' cut' hlo' hg' hhi' hm' hkeys' hn' hmo' hk' =>
      have hm0 := hm
      have hm0' := hm'
      obtain ⟨es, clock, hbe, hst, hen⟩ := hm0
      obtain ⟨es2, clock2, hbe2, hst2, hen2⟩ := hm0'
      refine diff_obj one w g g' es es2 clock clock2 ps ps' hbe hst hen hbe2 hst2 hen2 (Dif a b) (fun k q => Dif (a.member k) (b.member k) q) ?_ ?_ ?_ ?_ ?_
      · intro k q hkk hq
        rw [hkeys, hkeys'] at hkk
        exact .obj a b k q ha hb hkk hq
      · intro hno p hp
        obtain ⟨k, q, rfl, hkk, hq⟩ := (dif_obj ha hb).1 hp
        exact hno k (by rw [hkeys, hkeys']; exact hkk) q hq
      · intro k q hq
        have := dif_len hq
        rcases a.member_cases k with e | e
        · rw [e] at hq
          rw [dif_null hq]; simp
        · have := wt_kid e
          omega
      · rw [hkeys, hkeys']; exact hone
      · intro k hkk wr hbel
        rw [hkeys, hkeys'] at hkk
        have hx2 : PT wr lo hi a (.iface 54 (.map (some g))) := (PT.obj _ _ _ h g ps cut hlo hg hhi hm hkeys hn hmo hk).bel (hbel.mono h1)
        have hy2 : PT wr lo' hi' b (.iface 54 (.map (some g'))) := (PT.obj _ _ _ h' g' ps' cut' hlo' hg' hhi' hm' hkeys' hn' hmo' hk').bel (hbel.mono h2)
        cases hx2 with
        | obj _ _ _ _ _ qs cutx hlox hgx hhix hbx hkeysx hnx hmx hkx =>
        cases hy2 with
        | obj _ _ _ _ _ qs2 cuty hloy hgy hhiy hby hkeysy hny hmy hky =>
        obtain ⟨z, hz, pz⟩ := PT.lookup hbx hkeysx hnx hlox hgx hhix hmx hkx k
        obtain ⟨z2, hz2, pz2⟩ := PT.lookup hby hkeysy hny hloy hgy hhiy hmy hky k
        exact ⟨z, z2, hz, hz2, hrec k hkk z z2 wr pz pz2 (Nat.le_trans h1 hbel.size) (Nat.le_trans h2 hbel.size)⟩
    | _ => omega
  | _ => omega

def DiffAt (a : V) : Prop := ∀ (b : V) (x y : Value) (w : World) {lo hi lo' hi' : Nat} (hx : PT w lo hi a x) (hy : PT w lo' hi' b y) (h1 : hi ≤ w.heap.size) (h2 : hi' ≤ w.heap.size) (hao : a.Ok) (hbo : b.Ok) (h4 : a.No 4) (b4 : b.No 4) (hbw : b.wt ≤ 1000000),
    Calls Try.prog 69 #[x, y, .bool true, .slice none 0 0] w (Told (Dif a b) w)

theorem wt_member (v : V) (k : ByteArray) (n : Nat) (h : v.wt ≤ n) : (v.member k).wt ≤ n := by
  rcases v.member_cases k with e | e
  · rw [e]
    have h1 : V.null.wt ≤ 1 := by rw [V.wt_eq]; exact Nat.le_refl _
    have := wt_pos v
    omega
  · have := wt_kid e
    omega

theorem diff_any (a : V) : a.wt ≤ 1000000 → DiffAt a := by
  induction a using V.ind with
  | h a ih =>
  intro haw b x y w lo hi lo' hi' hx hy h1 h2 hao hbo h4 b4 hbw
  by_cases h7 : a.kind = 7 ∧ b.kind = 7
  · have ih' : ∀ x ∈ a.l, DiffAt x := fun x hx => ih x hx (by have := wt_kid hx; omega)
    cases hx with
    | arr _ _ _ h g cap cur xs cut hlo hg hhi hb hn hc1 hc2 hs ht hm hk =>
      have hcm := cut_mono hm
      cases hy with
      | arr _ _ _ h' g' cap' cur' ys cut' hlo' hg' hhi' hb' hn' hc1' hc2' hs' ht' hm' hk' =>
        have hcm' := cut_mono hm'
        have la : a.l.length ≤ 1000000 := by have := wt_len a; omega
        have lb : b.l.length ≤ 1000000 := by have := wt_len b; omega
        refine diff_arr w g g' cap cap' cur cur' xs ys a.l.length b.l.length hb hb' ht ht' hn hn' la lb (Dif a b) (fun i q => ∃ x y, a.l[i]? = some x ∧ b.l[i]? = some y ∧ Dif x y q) ?_ ?_ ?_ ?_ ?_
        · rintro i q _ _ ⟨x, y, hx, hy, hq⟩
          exact .arr_in a b i x y q h7.1 h7.2 hx hy hq
        · intro hne
          exact .arr_len a b h7.1 h7.2 hne
        · intro hno hlen p hp
          rcases (dif_arr h7.1 h7.2).1 hp with ⟨i, x, y, q, rfl, hx, hy, hq⟩ | ⟨hne, _⟩
          · exact hno i (List.getElem?_eq_some_iff.1 hx).1 q ⟨x, y, hx, hy, hq⟩
          · exact hne hlen
        · rintro i q ⟨x, y, hx, hy, hq⟩
          have := dif_len hq
          have := wt_kid (get_mem hx)
          omega
        · intro i X Y hX hY wr hbel
          have hi1 : i < a.l.length := by rw [← hn]; exact (List.getElem?_eq_some_iff.1 hX).1
          have hi2 : i < b.l.length := by rw [← hn']; exact (List.getElem?_eq_some_iff.1 hY).1
          obtain ⟨x1, hx1⟩ := get_lt hi1
          obtain ⟨y1, hy1⟩ := get_lt hi2
          have p1 := hk i x1 X hx1 hX
          have p2 := hk' i y1 Y hy1 hY
          have e1 : cut (i + 1) ≤ w.heap.size := by have := hcm (i + 1) a.l.length (by omega) (by omega); omega
          have e2 : cut' (i + 1) ≤ w.heap.size := by have := hcm' (i + 1) b.l.length (by omega) (by omega); omega
          refine (ih' x1 (get_mem hx1) y1 X Y wr (p1.bel (hbel.mono e1)) (p2.bel (hbel.mono e2)) (Nat.le_trans e1 hbel.size) (Nat.le_trans e2 hbel.size) (hao.kids _ (get_mem hx1)) (hbo.kids _ (get_mem hy1)) (h4.kids hao _ (get_mem hx1)) (b4.kids hbo _ (get_mem hy1)) (by have := wt_kid (get_mem hy1); omega)).mono ?_
          rintro e w' ⟨hb5, hc⟩
          refine ⟨hb5, ?_⟩
          rcases hc with ⟨he, hno⟩ | ⟨g, c, p, he, hp, ho⟩
          · exact Or.inl ⟨he, fun p => by
              rintro ⟨x, y, hx, hy, hq⟩
              obtain rfl := Option.some.inj (hx1.symm.trans hx)
              obtain rfl := Option.some.inj (hy1.symm.trans hy)
              exact hno p hq⟩
          · exact Or.inr ⟨g, c, p, he, ⟨x1, y1, hx1, hy1, hp⟩, ho⟩
      | _ => omega
    | _ => omega
  by_cases h8 : a.kind = 8 ∧ b.kind = 8
  · refine diff_obj_at true a b x y w hx hy h1 h2 h8.1 h8.2 haw (Or.inl rfl) (fun k hk z z2 wr pz pz2 e1 e2 => ?_)
    have ho := hbo.member k
    have hn := no_member b4 hbo k
    have hw := wt_member b k _ hbw
    rcases a.member_cases k with e | e
    · rw [e] at pz ⊢
      exact diff_leaf true V.null (b.member k) z z2 wr pz pz2 V.Ok.of_null ho (fun h => absurd h.1 (by decide)) (fun h => absurd h.1 (by decide)) (by decide) (no_of hn)
    · exact ih _ e (by have := wt_kid e; omega) (b.member k) z z2 wr pz pz2 e1 e2 (hao.member k) ho (no_member h4 hao k) hn hw
  · exact diff_leaf true a b x y w hx hy hao hbo h7 h8 (no_of h4) (no_of b4)

/-- One path: its steps, in a row of its own. -/
def PathV (w : World) (B : Nat) (v : Value) (p : List Step) : Prop := ∃ h d, v = .slice (some ⟨h, 0, none⟩) (told p).length d ∧ w.ownsRow B 20 1 v (told p).length (told p)
def Compared (D : List Step → Prop) (w : World) (e : Ending) (w' : World) : Prop := Below w.heap.size w w' ∧ ((e = .returned (.slice none 0 0) ∧ ∀ p, ¬ D p) ∨ ∃ v p, e = .returned v ∧ D p ∧ PathV w' w.heap.size v p)

set_option maxHeartbeats 1000000 in
theorem compare_any (a b : V) (x y : Value) (w : World) {lo hi lo' hi' : Nat} (hx : PT w lo hi a x) (hy : PT w lo' hi' b y) (h1 : hi ≤ w.heap.size) (h2 : hi' ≤ w.heap.size) (hao : a.Ok) (hbo : b.Ok) (h4 : a.No 4) (b4 : b.No 4) (haw : a.wt ≤ 1000000) (hbw : b.wt ≤ 1000000) :
    Calls Try.prog 41 #[x, y, .slice none 0 0] w (Compared (Dif a b) w) := by
  have hD := Lib.hid (diff_any a haw b x y w hx hy h1 h2 hao hbo h4 b4 hbw)
  clear hx hy
  go_enter Try.func41, Try.ntmps41
  go_wp2_with fail
  refine hD.out.mono ?_
  rintro e w2 ⟨hb2, hc⟩
  rcases hc with ⟨rfl, hno⟩ | ⟨g1, c1, p, rfl, hp, hone⟩
  · have hno' := Lib.hid hno
    clear hno
    go_wp2_with fail
    go_ret
    exact ⟨hb2, Or.inl ⟨rfl, hno'.out⟩⟩
  · obtain ⟨h1, d1, hne1, hro, hri⟩ := hone
    obtain ⟨g1lt, hBg, hc1, hcell1, _⟩ := row_cells hro
    have k1 := hcell1 0 _ rfl
    have hri' := Lib.hid hri
    have hp' := Lib.hid hp
    clear hcell1 hro hri hp
    go_wp2_with fail
    go_ret
    exact ⟨hb2, Or.inr ⟨_, p, rfl, hp'.out, h1, d1, rfl, hri'.out⟩⟩
end Go.Proofs.Ytpdcoipfpffhnaa
