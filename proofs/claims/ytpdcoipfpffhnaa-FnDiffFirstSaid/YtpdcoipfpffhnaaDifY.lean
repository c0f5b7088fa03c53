/-
  differing at objects. Conditions: none.
-/
import Derived.Test.YtpdcoipfpffhnaaDifX
namespace Go.Proofs.Ytpdcoipfpffhnaa
open Go.ChangeShapes Go.WideShapes Go.ChangeAt Go.RowKit
set_option linter.unusedVariables false
set_option linter.unusedSimpArgs false

theorem nodup_le : ∀ (xs zs : List ByteArray), xs.Nodup → (∀ s ∈ xs, s ∈ zs) → xs.length ≤ zs.length
  | [], _, _, _ => by simp
  | x :: r, zs, h, hs => by
    obtain ⟨h1, h2⟩ := List.nodup_cons.1 h
    have ih := nodup_le r (zs.filter (fun z => decide (z ≠ x))) h2 (fun s hs' => List.mem_filter.2 ⟨hs s (List.mem_cons_of_mem _ hs'), by
      have : s ≠ x := fun e => h1 (by rw [← e]; exact hs')
      simp [this]⟩)
    have hx : x ∈ zs := hs x (List.mem_cons_self ..)
    have : (zs.filter (fun z => decide (z ≠ x))).length < zs.length := List.length_filter_lt_length_iff_exists.2 ⟨x, hx, by simp⟩
    simp only [List.length_cons]
    omega

set_option maxHeartbeats 4000000 in
set_option maxRecDepth 100000 in
theorem differing_obj (n n' : Int) (f f' : Nat) (s s' : ByteArray) (l l' : List V) (ks ks' : List ByteArray) (p : List Step) (hbd : V.wts l + V.wts l' + 1 ≤ 1000000) (hpl : p.length ≤ 1000000) (hkl : ks.length + ks'.length ≤ 1000000)
    (had : ks.Nodup) (hal : ks.length = l.length) (hbdd : ks'.Nodup) (hbl : ks'.length = l'.length)
    (H0 : ∀ k, (k ∈ ks ∨ k ∈ ks') → Call3 (V.member ⟨8, n, f, s, l, ks⟩ k) (V.member ⟨8, n', f', s', l', ks'⟩ k) (p ++ [.key k])) : Call3 ⟨8, n, f, s, l, ks⟩ ⟨8, n', f', s', l', ks'⟩ p := by
  intro ok A B A' B' ca cb ca' cb' v w hb hB hA hb' hB' hA' hp
  dsimp only at hB hA hB' hA' ⊢
  obtain ⟨Ap, cp, rfl, _⟩ := hp.view
  have H := Lib.hid H0
  have hpH := Lib.hid hp
  have hl1 : l.length ≤ 1000000 := by have := wts_len l; omega
  have hl2 : l'.length ≤ 1000000 := by have := wts_len l'; omega
  have hbel0 : Below (w.heap.size + 2) ((w.alloc (valObj ⟨8, n, f, s, l, ks⟩ A ca B cb)).alloc (valObj ⟨8, n', f', s', l', ks'⟩ A' ca' B' cb')) ((w.alloc (valObj ⟨8, n, f, s, l, ks⟩ A ca B cb)).alloc (valObj ⟨8, n', f', s', l', ks'⟩ A' ca' B' cb')) := Below.refl _ _
  obtain ⟨_, _, hbw0⟩ := boxed2 hbel0
  have hall := Lib.hid (allKeys_any ⟨8, n, f, s, l, ks⟩ ⟨8, n', f', s', l', ks'⟩ A B A' B' ca cb ca' cb' ((w.alloc (valObj ⟨8, n, f, s, l, ks⟩ A ca B cb)).alloc (valObj ⟨8, n', f', s', l', ks'⟩ A' ca' B' cb')) (hB.bel hbw0) (hB'.bel hbw0) hkl)
  have hbH := Lib.hid hb
  have hbH' := Lib.hid hb'
  have hAH := Lib.hid (hA.lt.mono (ok' := fun k => k < w.heap.size) (fun _ h => h.2))
  have hAH' := Lib.hid (hA'.lt.mono (ok' := fun k => k < w.heap.size) (fun _ h => h.2))
  have hBH := Lib.hid (hB.lt.mono (ok' := fun k => k < w.heap.size) (fun _ h => h.2))
  have hBH' := Lib.hid (hB'.lt.mono (ok' := fun k => k < w.heap.size) (fun _ h => h.2))
  have halH := Lib.hid hal
  have hblH := Lib.hid hbl
  have hadH := Lib.hid had
  have hbdH := Lib.hid hbdd
  clear H0 hb hb' hB hB' hp hA hA' hbw0 hbel0 hal hbl had hbdd
  go_enter Try.func17, Try.ntmps17
  go_wp2_with fail
  refine hall.out.mono ?_
  rintro e W1 ⟨vk, ys, rfl, ⟨hnd, hmem⟩, hown, hb1⟩
  have hbelW : Below (w.heap.size + 2) ((w.alloc (valObj ⟨8, n, f, s, l, ks⟩ A ca B cb)).alloc (valObj ⟨8, n', f', s', l', ks'⟩ A' ca' B' cb')) W1 := hb1.mono (by rw [alloc_size, alloc_size]; omega)
  obtain ⟨Ak, ck, rfl, hck1, hck2⟩ := own_slice hown
  have htwo : Hid (Two ⟨8, n, f, s, l, ks⟩ ⟨8, n', f', s', l', ks'⟩ ys) := ⟨rfl, rfl, hadH.out, halH.out, hbdH.out, hblH.out, hnd, hmem⟩
  have hyl : ys.length ≤ 1000000 := by
    have := nodup_le ys (ks ++ ks') hnd (fun s hs => List.mem_append.2 ((hmem s).1 hs))
    rw [List.length_append] at this
    omega
  have hcell : Hid (∀ i k, ys[i]? = some k → ∃ g, Ak = some ⟨g, 0, none⟩ ∧ g < W1.heap.size ∧ W1.cell? ⟨g, i, none⟩ = some (.string k)) := fun i k hk => by
    rcases row_form hown with ⟨_, h0⟩ | ⟨g, c, cur, e, hB, hb, hxs⟩
    · have := (List.getElem?_eq_some_iff.1 hk).1; omega
    · simp only [Value.slice.injEq] at e
      rw [Nat.mul_one] at hxs
      exact ⟨g, e.1, (Array.getElem?_eq_some_iff.1 hb).1, row_at hb hxs (by simp [strVs, hk])⟩
  obtain ⟨Y, hY⟩ : ∃ Y, Y = ys.length := ⟨_, rfl⟩
  have hYH := Lib.hid hY
  rw [← hY] at hyl ⊢
  clear hall hnd hmem hb1 hck1 hck2 hown hY
  go_wp2_with fail
  go_loopw [7, 11] (fun o i wr => ∃ (j m : Nat) (Ao : Option Addr) (co : Nat), j ≤ Y ∧ i = .int .i64 j ∧ o = .slice Ao m co ∧ Hid (ObjInv ⟨8, n, f, s, l, ks⟩ ⟨8, n', f', s', l', ks'⟩ ys p W1.heap.size wr (.slice Ao m co) m j) ∧ Below W1.heap.size W1 wr) (fun _ i _ => Y - (intOf i).toNat)
  case atStart => exact ⟨0, 0, none, 0, Nat.zero_le _, rfl, rfl, ObjInv.zero _ _ _ _ _ _, Below.refl _ _⟩
  case round =>
    obtain ⟨j, m, Ao, co, hj, rfl, rfl, hinv, hbel1⟩ := hrel
    have hs1 : w.heap.size + 2 ≤ W1.heap.size := by have := hbelW.size; rw [alloc_size, alloc_size] at this; exact this
    have hbel := hbelW.trans (hbel1.mono hs1)
    obtain ⟨⟨b0, b1, b2, b3, b4, b5⟩, ⟨d0, d1, d2, d3, d4, d5⟩, hbw⟩ := boxed2 hbel
    dsimp only at b0 b1 b2 b3 b4 b5 d0 d1 d2 d3 d4 d5
    by_cases hlt : j < Y
    · obtain ⟨key, hkey⟩ : ∃ k, ys[j]? = some k := get_lt (by rw [← hYH.out]; exact hlt)
      obtain ⟨gk, rfl, hgk, hkc⟩ := hcell.out j key hkey
      have kc := (hbel1.cell (p := ⟨gk, j, none⟩) hgk).trans hkc
      have k0 : w.heap.size < W1.heap.size := by omega
      have k1 : w.heap.size + 1 < W1.heap.size := by omega
      have hsz := hbel1.size
      have hS1 : Hid ((fun w' => w'.cell? ⟨w.heap.size, 0, none⟩ = some (.int .i64 8) ∧ w'.cell? ⟨w.heap.size, 1, none⟩ = some (.int .i64 n) ∧ w'.cell? ⟨w.heap.size, 2, none⟩ = some (.float .f64 f) ∧ w'.cell? ⟨w.heap.size, 3, none⟩ = some (.string s) ∧ w'.cell? ⟨w.heap.size, 4, none⟩ = some (.slice A l.length ca) ∧ w'.cell? ⟨w.heap.size, 5, none⟩ = some (.slice B ks.length cb) ∧ w'.cell? ⟨w.heap.size + 1, 0, none⟩ = some (.int .i64 8) ∧ w'.cell? ⟨w.heap.size + 1, 1, none⟩ = some (.int .i64 n') ∧ w'.cell? ⟨w.heap.size + 1, 2, none⟩ = some (.float .f64 f') ∧ w'.cell? ⟨w.heap.size + 1, 3, none⟩ = some (.string s') ∧ w'.cell? ⟨w.heap.size + 1, 4, none⟩ = some (.slice A' l'.length ca') ∧ w'.cell? ⟨w.heap.size + 1, 5, none⟩ = some (.slice B' ks'.length cb') ∧ w'.cell? ⟨gk, j, none⟩ = some (.string key)) wr) := ⟨b0, b1, b2, b3, b4, b5, d0, d1, d2, d3, d4, d5, kc⟩
      have hS2 : Hid (∀ w2, Below W1.heap.size wr w2 → (fun w' => w'.cell? ⟨w.heap.size, 0, none⟩ = some (.int .i64 8) ∧ w'.cell? ⟨w.heap.size, 1, none⟩ = some (.int .i64 n) ∧ w'.cell? ⟨w.heap.size, 2, none⟩ = some (.float .f64 f) ∧ w'.cell? ⟨w.heap.size, 3, none⟩ = some (.string s) ∧ w'.cell? ⟨w.heap.size, 4, none⟩ = some (.slice A l.length ca) ∧ w'.cell? ⟨w.heap.size, 5, none⟩ = some (.slice B ks.length cb) ∧ w'.cell? ⟨w.heap.size + 1, 0, none⟩ = some (.int .i64 8) ∧ w'.cell? ⟨w.heap.size + 1, 1, none⟩ = some (.int .i64 n') ∧ w'.cell? ⟨w.heap.size + 1, 2, none⟩ = some (.float .f64 f') ∧ w'.cell? ⟨w.heap.size + 1, 3, none⟩ = some (.string s') ∧ w'.cell? ⟨w.heap.size + 1, 4, none⟩ = some (.slice A' l'.length ca') ∧ w'.cell? ⟨w.heap.size + 1, 5, none⟩ = some (.slice B' ks'.length cb') ∧ w'.cell? ⟨gk, j, none⟩ = some (.string key)) w2) := fun w2 hb2 => by
        obtain ⟨s1, s2, s3, s4, s5, s6, s7, s8, s9, s10, s11, s12, s13⟩ := hS1.out
        have h := fun (p : Addr) (hp : p.block < W1.heap.size) => hb2.cell (p := p) hp
        exact ⟨(h _ k0).trans s1, (h _ k0).trans s2, (h _ k0).trans s3, (h _ k0).trans s4, (h _ k0).trans s5, (h _ k0).trans s6, (h _ k1).trans s7, (h _ k1).trans s8, (h _ k1).trans s9, (h _ k1).trans s10, (h _ k1).trans s11, (h _ k1).trans s12, (h _ hgk).trans s13⟩
      have hin : key ∈ ks ∨ key ∈ ks' := (htwo.out.mem key).1 (get_mem hkey)
      have hkeyH := Lib.hid hkey
      have hinv0 := hinv.out
      have hrec : Call3 (V.member ⟨8, n, f, s, l, ks⟩ key) (V.member ⟨8, n', f', s', l', ks'⟩ key) (p ++ [.key key]) := H.out key hin
      have hmem1 := memberOf_any ⟨8, n, f, s, l, ks⟩ A B ca cb key wr.drew hbH.out ((hBH.out.bel hbw).move (fun _ _ => rfl)) ((hAH.out.bel hbw).move (fun _ _ => rfl)) (Nat.le_of_eq halH.out) (by dsimp only; omega)
      have hmem2 : ∀ w2, Below wr.heap.size wr w2 → _ := fun w2 hb2 => memberOf_any ⟨8, n', f', s', l', ks'⟩ A' B' ca' cb' key w2 hbH'.out (hBH'.out.bel (hbw.trans (hb2.mono hbw.size))) (hAH'.out.bel (hbw.trans (hb2.mono hbw.size))) (Nat.le_of_eq hblH.out) (by dsimp only; omega)
      have hcl : ∀ w2, Below wr.heap.size wr w2 → Calls Try.prog 44 #[.slice Ap p.length cp] w2 (ClonedP p w2) := fun w2 hb2 => cloneP_any (.slice Ap p.length cp) 0 p w2 (hpH.out.keep (Keeps.of_below (hbw.trans (hb2.mono hbw.size)))) hpl
      have hstep := fun (w2 : World) (v2 : Value) (m2 : Nat) (ws2 : List (List Step)) (hb2 : Below wr.heap.size wr w2) (hm2 : ws2.length = m2) (ho2 : WantOwn w2 0 v2 ws2) hq hle => objs_step (m := m) (v := .slice Ao m co) htwo.out hinv0 hb2 hkey hm2 ho2 hq hle (by dsimp only; omega) hsz 36
      obtain ⟨x, hx⟩ : ∃ x, V.member ⟨8, n, f, s, l, ks⟩ key = x := ⟨_, rfl⟩
      obtain ⟨y, hy⟩ : ∃ y, V.member ⟨8, n', f', s', l', ks'⟩ key = y := ⟨_, rfl⟩
      rw [hx] at hmem1 hrec hstep
      rw [hy] at hmem2 hrec hstep
      have hmem1' := Lib.hid hmem1
      have hmem2' := Lib.hid hmem2
      have hcl' := Lib.hid hcl
      have hrec' : Hid (Call3 x y (p ++ [Step.key key])) := hrec
      have hstep' := Lib.hid hstep
      have j0 : (0 : Int) ≤ (j : Int) := by omega
      have j1 : (j : Int) < (Y : Int) := by omega
      clear hx hy hmem1 hmem2 hcl hrec hstep hinv0 hkey hin
      go_wp2_with fail
      go_region_held3 (fun w' => w'.cell? ⟨w.heap.size, 0, none⟩ = some (.int .i64 8) ∧ w'.cell? ⟨w.heap.size, 1, none⟩ = some (.int .i64 n) ∧ w'.cell? ⟨w.heap.size, 2, none⟩ = some (.float .f64 f) ∧ w'.cell? ⟨w.heap.size, 3, none⟩ = some (.string s) ∧ w'.cell? ⟨w.heap.size, 4, none⟩ = some (.slice A l.length ca) ∧ w'.cell? ⟨w.heap.size, 5, none⟩ = some (.slice B ks.length cb) ∧ w'.cell? ⟨w.heap.size + 1, 0, none⟩ = some (.int .i64 8) ∧ w'.cell? ⟨w.heap.size + 1, 1, none⟩ = some (.int .i64 n') ∧ w'.cell? ⟨w.heap.size + 1, 2, none⟩ = some (.float .f64 f') ∧ w'.cell? ⟨w.heap.size + 1, 3, none⟩ = some (.string s') ∧ w'.cell? ⟨w.heap.size + 1, 4, none⟩ = some (.slice A' l'.length ca') ∧ w'.cell? ⟨w.heap.size + 1, 5, none⟩ = some (.slice B' ks'.length cb') ∧ w'.cell? ⟨gk, j, none⟩ = some (.string key)) (first | exact hS1.out | exact hS3.out | exact hS4.out | exact hS5.out | exact hS6.out | exact hS7.out | exact hS8.out | exact hS9.out | exact hS10.out | go_keep)
        (first
        | (go_at_call 30; refine hmem1'.out.mono ?_; rintro e w2 ⟨A2, c2, B2, d2', rfl, hb2, hB2, hA2, hl2⟩; have hl2' := below_undrew hl2; have hS3 := Lib.hid (hS2.out w2 (hl2'.mono hsz)); clear hmem1')
        | (go_at_call 30; refine (hmem2'.out w2 hl2').mono ?_; rintro e w3 ⟨A3, c3, B3, d3', rfl, hb3, hB3, hA3, hl3⟩; have hl3' := hl2'.trans (hl3.mono hl2'.size); have hS4 := Lib.hid (hS2.out w3 (hl3'.mono hsz)))
        | (go_at_call 44; refine (hcl'.out w3 hl3').mono ?_; rintro e w4 ⟨A4, c4, rfl, ho4, hl4⟩; have hl4' := hl3'.trans (hl4.mono hl3'.size); have hS5 := Lib.hid (hS2.out w4 (hl4'.mono hsz)))
        | (go_at_call 39; refine (child_of key w4).mono ?_; rintro e w5 ⟨rfl, hl5⟩; have hl5' := hl4'.trans (hl5.mono hl4'.size); have hS6 := Lib.hid (hS2.out w5 (hl5'.mono hsz)); have hS7 := Lib.hid (hS2.out _ ((hl5'.mono hsz).alloc (Nat.le_trans hsz hl5'.size) (.cells #[.int .i64 3, .string key, .slice none 0 0, .slice none 0 0, .int .i64 0, .int .i64 0, .int .i64 0, .float .f64 0, .string ⟨#[]⟩, .slice none 0 0, .slice none 0 0, .slice none 0 0, .slice none 0 0] 64))); obtain ⟨A6, c6, w6, hrun6, ho6, hb6⟩ := run_app_step w5 (.slice A4 p.length c4) wr.heap.size p (.key key) (.slice none 0 0) 41 (.cells #[.int .i64 3, .string key, .slice none 0 0, .slice none 0 0, .int .i64 0, .int .i64 0, .int .i64 0, .float .f64 0, .string ⟨#[]⟩, .slice none 0 0, .slice none 0 0, .slice none 0 0, .slice none 0 0] 64) ((ho4.keep (Keeps.of_below (hl5.mono (Nat.le_refl _)))).le hl3'.size) rfl rfl hpl hl5'.size; have hl6' := hl5'.trans hb6; have hS8 := Lib.hid (hS2.out w6 (hl6'.mono hsz)); have hrun6' := Lib.hid hrun6; clear hrun6; have hl36 := (hl3.mono hl2'.size).trans ((hl4.mono hl3'.size).trans ((hl5.mono hl4'.size).trans hb6)); have hB26 := hB2.move (fun k hk => hl36.block k (Nat.lt_of_lt_of_le hk hbw.size)); have hA26 := hA2.move (fun k hk => hl36.block k (Nat.lt_of_lt_of_le hk hbw.size)); have hl46 := (hl4.mono hl3'.size).trans ((hl5.mono hl4'.size).trans hb6); have hB36 := hB3.move (fun k hk => hl46.block k (Nat.lt_of_lt_of_le hk hbw.size)); have hA36 := hA3.move (fun k hk => hl46.block k (Nat.lt_of_lt_of_le hk hbw.size)))
        | (refine step_append_is rfl (.tmp 99) (.tmp 105) 41 rfl (.slice A4 p.length c4) (.slice (some ⟨w5.heap.size, 0, none⟩) 1 1) (by simp [Act.eval, Act.put]) (by simp [Act.eval, Act.put]) (.slice A6 (p.length + 1) c6) w6 hrun6'.out ?_)
        | (go_at_call 17; refine (hrec'.out _ A2 B2 A3 B3 c2 d2' c3 d3' (.slice A6 (p.length + 1) c6) w6 hb2 hB26 hA26 hb3 hB36 hA36 (ho6.le (Nat.zero_le _))).mono ?_; rintro e w7 ⟨A7, c7, m7, ws7, rfl, hm7, ho7, hq7, hle7, hb7⟩; have hl7' := hl6'.trans (hb7.mono hl6'.size); have hS9 := Lib.hid (hS2.out w7 (hl7'.mono hsz)); obtain ⟨A8, c8, w8, hrun8, hinv8, hb8⟩ := hstep'.out w7 (.slice A7 m7 c7) m7 ws7 hl7' hm7 ho7 hq7 hle7; have hl8' := (hl7'.mono hsz).trans hb8; have hS10 := Lib.hid (hS2.out w8 hl8'); have hrun8' := Lib.hid hrun8; clear hrun8)
        | (refine step_append_is rfl (.tmp 85) (.tmp 107) 36 rfl (.slice Ao m co) (.slice A7 m7 c7) (by simp [Act.eval, Act.put]) (by simp [Act.eval, Act.put]) (.slice A8 (m + m7) c8) w8 hrun8'.out ?_))
      have hbel8 := hbel1.trans hl8'
      clear hS1 hS2 hS3 hS4 hS5 hS6 hS7 hS8 hS9 hS10 hl8' hl7' hl6' hl5' hl4' hl3' hl2' hl2 hl3 hl4 hl5 hl36 hl46 hB26 hA26 hB36 hA36 hb6 hb7 hb8 b0 b1 b2 b3 b4 b5 d0 d1 d2 d3 d4 d5 kc hrun6' hrun8' hq7 ho7 ho6 ho4 hle7 hm7 j0 j1 hgk hkc k0 k1 hinv
      go_wp2_with fail
      go_roundw
      case rel => exact ⟨j + 1, m + m7, A8, c8, by omega, by go_num, rfl, hinv8, hbel8⟩
      case measure => simp [intOf]; omega
    · obtain rfl : j = Y := by omega
      have hd : Hid _ := objs_done (a := ⟨8, n, f, s, l, ks⟩) (b := ⟨8, n', f', s', l', ks'⟩) htwo.out (by have h := hinv.out; rw [hYH.out] at h; exact h)
      clear hinv b0 b1 b2 b3 b4 b5 d0 d1 d2 d3 d4 d5
      go_wp2_with fail
      go_ret
      obtain ⟨ws, h1, h2, h3, h4⟩ := hd.out
      exact ⟨Ao, co, m, ws, rfl, h1, h2, h3, h4, hbw⟩
end Go.Proofs.Ytpdcoipfpffhnaa
