/-
  impl.value at plain data that are alike a tree. Conditions: none.
-/
import Derived.Test.YtpdcoipfpffhnaaGreatVal3
namespace Go.Proofs.YtpdcoipfpffhnaaGreat
open Go.ChangeShapes Go.WideShapes Go.ChangeAt Go.RowKit
set_option linter.unusedVariables false
set_option linter.unusedSimpArgs false

def ValAt (t : V) : Prop := ∀ (v1 : V) (x : Value) (w : World) (lo hi : Nat), PT w lo hi v1 x → EqV v1 t → hi ≤ w.heap.size → Calls Tryz.prog 19 #[x] w (ValPost t w)

theorem bds_of (k : Int) (nL cL nK cK : Nat) (hk : 0 ≤ k ∧ k ≤ 100) (h1 : nL ≤ cL) (h2 : cL ≤ 9223372036854775807) (h3 : nK ≤ cK) (h4 : cK ≤ 9223372036854775807) (h5 : nL ≤ 1000000) (h6 : nK ≤ 1000000) (v : V) (e1 : v.kind = k) (e2 : v.n = 0) (e3 : v.f = 0) (e4 : v.s = ⟨#[]⟩) (e5 : v.l.length = nL) (e6 : v.keys.length = nK) : Bds v cL cK :=
  ⟨by rw [e1]; unfold I64; omega, by rw [e2]; unfold I64; omega, by rw [e3]; omega, by rw [e4]; show (0 : Nat) ≤ _; omega, by omega, h2, by omega, h4, by omega, by omega⟩

theorem value_any (t : V) : t.Ok → t.Fin → t.wt ≤ 1000000 → ValAt t := by
  induction t using V.ind with
  | h t ih =>
  intro hto htf htw v1 x w lo hi hx heq hhi
  have ih' : ∀ x ∈ t.l, ValAt x := fun x hx => ih x hx (hto.kids x hx) (htf.l x hx) (by have := wt_kid hx; omega)
  have hlm : t.l.length ≤ 1000000 := by have := wt_len t; omega
  have hkm : t.keys.length ≤ 1000000 := by have := wt_klen t; omega
  clear ih
  by_cases h7 : v1.kind = 7
  · cases heq with
    | leaf _ _ _ h5 => omega
    | obj _ _ ha => omega
    | arr _ _ ha hb hl hel =>
    cases hx with
    | arr _ _ _ h g cap cur xs cut hlo hg hhi2 hbk hn hc1 hc2 hs ht hm hk =>
      have hcm := cut_mono hm
      have hglt : g < w.heap.size := (Array.getElem?_eq_some_iff.1 hbk).1
      have hbA := below_alloc w (.cells #[.int .i64 0, .int .i64 0, .float .f64 0, .string ⟨#[]⟩, .slice none 0 0, .slice none 0 0] 26)
      have hit := items_any t.l xs g cap v1.l.length (w.alloc (.cells #[.int .i64 0, .int .i64 0, .float .f64 0, .string ⟨#[]⟩, .slice none 0 0, .slice none 0 0] 26)) hl (by rw [hn, hl]) hlm (fun i y hy => (hbA.cell (p := ⟨g, i, none⟩) hglt).trans (row_at hbk ht hy)) (by rw [alloc_size]; omega) (fun i tx y htx hy wr hbel => by
        have hi1 : i < v1.l.length := by rw [← hn]; exact (List.getElem?_eq_some_iff.1 hy).1
        obtain ⟨x1, hx1⟩ := get_lt hi1
        have e1 : cut (i + 1) ≤ w.heap.size := by have := hcm (i + 1) v1.l.length (by omega) (by omega); omega
        rw [alloc_size] at hbel
        exact ih' tx (get_mem htx) x1 y wr _ _ (((hk i x1 y hx1 hy).bel (hbA.mono e1)).bel (hbel.mono (by omega))) (hel i x1 tx hx1 htx) (by have := hbel.size; rw [alloc_size] at this; omega))
      refine (value_arr (some ⟨g, 0, none⟩) v1.l.length cap (fun e w1 => ∃ l2 A c, e = .returned (.agg #[.int .i64 7, .int .i64 0, .float .f64 0, .string ⟨#[]⟩, .slice A l2.length c, .slice none 0 0]) ∧ EqLs l2 t.l ∧ l2.length ≤ c ∧ c ≤ 9223372036854775807 ∧ Vals (fun k => w.heap.size + 1 ≤ k) w1 A l2) w (hit.mono ?_)).mono ?_
      · rintro e w1 ⟨l2, A, c, rfl, h1, h2, h3, h4, h5⟩
        rw [alloc_size] at h4 h5
        exact ⟨A, l2.length, c, rfl, h5, l2, A, c, rfl, h1, h2, h3, h4⟩
      · rintro e w' ⟨w1, ⟨l2, A, c, rfl, h1, h2, h3, h4⟩, hbel, hfar⟩
        have hl2 : l2.length ≤ 1000000 := by rw [h1.1]; exact hlm
        refine ⟨⟨7, 0, 0, ⟨#[]⟩, l2, []⟩, A, c, none, 0, rfl, bds_of 7 l2.length c 0 0 (by omega) h2 h3 (by omega) (by omega) hl2 (by omega) _ rfl rfl rfl rfl rfl rfl, fun h => absurd rfl h, (h4.move (fun k hk => hfar k (by omega))).mono (fun k hk => by omega), hbel, .arr _ _ rfl hb h1.1 h1.2⟩
    | _ => omega
  by_cases h8 : v1.kind = 8
  · cases heq with
    | leaf _ _ _ h5 => omega
    | arr _ _ ha => omega
    | obj _ _ ha hb al bl an bn hmem hel =>
    cases hx with
    | obj _ _ _ h b ps cut hlo hg hhi2 hmm hkeys hn hm hk =>
      have hcm := cut_mono hm
      have hmm0 := hmm
      obtain ⟨es, clock, hbk, hst, he⟩ := hmm0
      have hblt : b < w.heap.size := (Array.getElem?_eq_some_iff.1 hbk).1
      have hkl : v1.keys.length ≤ t.keys.length := nodup_le _ _ an (fun s hs => (hmem s).1 hs)
      have hes : es.size ≤ 1000000 := by rw [he.size, hn, ← al]; omega
      let o0 : Obj := .cells #[.int .i64 0, .int .i64 0, .float .f64 0, .string ⟨#[]⟩, .slice none 0 0, .slice none 0 0] 26
      let o1 : Obj := .cells #[.map (some b)] 67
      have hbA : Below w.heap.size w ((w.alloc o0).alloc o1) := below_two w o0 o1
      have hszA : ((w.alloc o0).alloc o1).heap.size = w.heap.size + 2 := by rw [alloc_size, alloc_size]
      have hmA : HasMap ((w.alloc o0).alloc o1) b ps := hmm.same (hbA.block b hblt)
      have hbkA : ((w.alloc o0).alloc o1).heap[b]? = some (.map es clock) := (hbA.block b hblt).trans hbk
      have hbox : ((w.alloc o0).alloc o1).cell? ⟨w.heap.size + 1, 0, none⟩ = some (.map (some b)) := by
        have := cells_new (w.alloc o0) #[.map (some b)] 67 0
        rw [alloc_size] at this
        exact this
      have hkk := keysOf_any b es clock ps ((w.alloc o0).alloc o1) hbkA hst he hes
      refine (value_obj b (fun e w2 => ∃ l2 ys AL cL AK cK, e = .returned (.agg #[.int .i64 8, .int .i64 0, .float .f64 0, .string ⟨#[]⟩, .slice AL l2.length cL, .slice AK ys.length cK]) ∧ ys.Nodup ∧ (∀ s, s ∈ ys ↔ s ∈ v1.keys) ∧ l2.length = ys.length ∧ (∀ (i : Nat) x k, l2[i]? = some x → ys[i]? = some k → EqV x (t.member k)) ∧ l2.length ≤ cL ∧ cL ≤ 9223372036854775807 ∧ ys.length ≤ cK ∧ cK ≤ 9223372036854775807 ∧ Strs (fun k => w.heap.size + 1 ≤ k) w2 AK ys ∧ Vals (fun k => w.heap.size + 1 ≤ k) w2 AL l2) w
        (fun w1 A n c => ∃ ks : List ByteArray, n = ks.length ∧ Own w1 (w.heap.size + 2) (.slice A n c) ks ∧ ks.Nodup ∧ (∀ s, s ∈ ks ↔ s ∈ v1.keys)) ?_ ?_).mono ?_
      · intro W hW
        subst hW
        refine hkk.mono ?_
        rintro e w1 ⟨A, c, ks, rfl, h1, h2, h3, h4⟩
        rw [hszA] at h1 h4
        exact ⟨A, ks.length, c, rfl, h4, ks, rfl, h1, h2, fun s => by rw [h3 s, hkeys]⟩
      · rintro w1 A n c ⟨ks, rfl, ho, hkn, hki⟩ hb1
        have hb1' : Below (w.heap.size + 2) ((w.alloc o0).alloc o1) w1 := hb1
        have hm1 : HasMap w1 b ps := hmA.same (hb1'.block b (by omega))
        have hbox1 : w1.cell? ⟨w.heap.size + 1, 0, none⟩ = some (.map (some b)) := (hb1'.cell (p := ⟨w.heap.size + 1, 0, none⟩) (by show w.heap.size + 1 < _; omega)).trans hbox
        have hksl : ks.length ≤ 1000000 := by
          have := nodup_le ks v1.keys hkn (fun s hs => (hki s).1 hs)
          omega
        have hsz1 : w.heap.size + 2 ≤ w1.heap.size := by have := hb1'.size; omega
        rcases row_form ho with ⟨e0, h0⟩ | ⟨gk, ck, cur, e0, hgk, hbg, hxs⟩
        · have hk0 : ks = [] := List.eq_nil_of_length_eq_zero h0
          subst hk0
          rw [e0]
          refine (objectV_nil _ w1).mono ?_
          rintro e w2 ⟨rfl, hb2⟩
          exact ⟨none, 0, 0, none, 0, 0, rfl, hb2.mono hsz1, [], [], none, 0, none, 0, rfl, List.nodup_nil, hki, rfl, fun i x k hx => by simp at hx, by simp, by simp, by simp, by simp, fun h => absurd rfl h, fun h => absurd rfl h⟩
        · rw [e0] at ho ⊢
          have hpsk : ∀ s, s ∈ ks → ∃ y, (s, y) ∈ ps := fun s hs => by
            have h1 := (hki s).1 hs
            rw [← hkeys] at h1
            obtain ⟨p, hp, rfl⟩ := List.mem_map.1 h1
            exact ⟨p.2, hp⟩
          have hat : ∀ s y, (s, y) ∈ ps → ∃ (i : Nat) (x1 : V), ps[i]? = some (s, y) ∧ v1.l[i]? = some x1 ∧ v1.keys[i]? = some s := fun s y hp => by
            obtain ⟨i, hi⟩ := List.getElem?_of_mem hp
            obtain ⟨x1, hx1⟩ : ∃ x1, v1.l[i]? = some x1 := get_lt (by rw [← hn]; exact (List.getElem?_eq_some_iff.1 hi).1)
            exact ⟨i, x1, hi, hx1, by rw [← hkeys, List.getElem?_map, hi]; rfl⟩
          refine (objectV_any t ks gk ks.length ck (w.heap.size + 1) b w.heap.size ps w1 rfl hksl (World.ownsRow_le' ho (by omega)) (by omega) hbox1 (by omega) hblt hm1 hpsk (fun p hp => ?_) (fun s hs => ?_) (fun s y hp wr hwr hsr => ?_)).mono ?_
          · obtain ⟨i, x1, h1, h2, h3⟩ := hat p.1 p.2 hp
            exact (hk i x1 p h2 h1).form
          · have h1 := (hmem s).1 ((hki s).1 hs)
            have := sumS_mem h1
            have := V.wt_eq t
            omega
          · obtain ⟨i, x1, h1, h2, h3⟩ := hat s y hp
            have hi1 := (List.getElem?_eq_some_iff.1 h2).1
            have e1 : cut (i + 1) ≤ w.heap.size := by have := hcm (i + 1) v1.l.length (by omega) (by omega); omega
            have hin : s ∈ t.keys := (hmem s).1 (get_mem h3)
            obtain ⟨j, z, _, g2, g3⟩ := key_at bl bn hin
            have hel1 := hel i s x1 h3 h2
            rw [g3] at hel1 ⊢
            refine ih' z (get_mem g2) x1 y wr _ _ ((hk i x1 (s, y) h2 h1).move (fun k k1 k2 => ?_)) hel1 (by omega)
            exact (hwr k (by omega)).trans ((hb1'.block k (by omega)).trans (hbA.block k (by omega)))
          · rintro e w2 ⟨l2, ys, AL, cL, AK, cK, rfl, hp, hll, hee, a1, a2, a3, a4, hS, hV, hgr⟩
            have hbel2 : Below (w.heap.size + 2) w1 w2 := (Below.refl _ _).grown hgr hsz1 (fun k hk => by simp only [Value.ownBlock, Option.some.injEq] at hk; omega)
            exact ⟨AL, l2.length, cL, AK, ys.length, cK, rfl, hbel2, l2, ys, AL, cL, AK, cK, rfl, hp.nodup_iff.2 hkn, fun s => (hp.mem_iff).trans (hki s), hll, hee, a1, a2, a3, a4, hS.mono (fun k hk => by omega), hV.mono (fun k hk => by omega)⟩
      · rintro e w' ⟨w2, ⟨l2, ys, AL, cL, AK, cK, rfl, hyn, hyi, hll, hee, a1, a2, a3, a4, hS, hV⟩, hbel, hfar⟩
        have hyl : ys.length ≤ 1000000 := by
          have := nodup_le ys v1.keys hyn (fun s hs => (hyi s).1 hs)
          omega
        exact ⟨⟨8, 0, 0, ⟨#[]⟩, l2, ys⟩, AL, cL, AK, cK, rfl, bds_of 8 l2.length cL ys.length cK (by omega) a1 a2 a3 a4 (by omega) hyl _ rfl rfl rfl rfl rfl rfl, (hS.move (fun k hk => hfar k (by omega))).mono (fun k hk => by omega), (hV.move (fun k hk => hfar k (by omega))).mono (fun k hk => by omega), hbel,
          .obj _ _ rfl hb (by show ys.length = l2.length; omega) bl hyn bn (fun s => (hyi s).trans (hmem s)) (fun i k x hk hx => hee i x k hx hk)⟩
    | _ => omega
  · exact value_leaf v1 t x w hx heq htf hto htw h7 h8
end Go.Proofs.YtpdcoipfpffhnaaGreat
