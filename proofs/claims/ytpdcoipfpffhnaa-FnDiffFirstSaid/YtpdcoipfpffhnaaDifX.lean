/-
  differing at arrays. Conditions: none.
-/
import Derived.Test.YtpdcoipfpffhnaaDifW
namespace Go.Proofs.Ytpdcoipfpffhnaa
open Go.ChangeShapes Go.WideShapes Go.ChangeAt Go.RowKit
set_option linter.unusedVariables false
set_option linter.unusedSimpArgs false

/-- append whose run is known, in a plain region. -/
theorem wpList_append_is {P : Program} {ops : Array Oper} {rest : List Oper} {o : Oper} {a : Act} {w : World} {Q : Exit → Act → World → Prop} (hgd : o.guard = none) (s x : Operand) (t : TypeId) (hop : o.op = Op.call { callee := Callee.builtin Builtin.append, args := #[s, x], argTypes := #[t, t] })
    (sv xv : Value) (hs : a.eval s = sv) (hx : a.eval x = xv) (v' : Value) (w' : World) (hrun : (Builtin.append_ #[t, t] o.type #[sv, xv]).run P w = .ok v' w') (h : wpList P ops Q rest (a.put o.dst v') w') : wpList P ops Q (o :: rest) a w :=
  wpList_plain hgd fun K hK => by
    unfold Oper.wp
    simp only [execOp, hop, resolve, invoke, builtin, Sem.run_bind, Sem.run_pure, Result.andThen_ok, List.map_toArray, List.map_cons, List.map_nil, hs, hx, hrun]
    exact hK _ _ h
theorem nth_at (z : Int) (i : Nat) (w : World) (h : z = i) : Calls Try.prog 45 #[.int .i64 z] w (fun e w' => ∃ g, e = .returned (.agg #[.int .i64 4, .string ⟨#[]⟩, .slice (some ⟨g, 0, none⟩) 1 1, .slice none 0 0, .int .i64 0, .int .i64 0, .int .i64 0, .float .f64 0, .string ⟨#[]⟩, .slice none 0 0, .slice none 0 0, .slice none 0 0, .slice none 0 0]) ∧ StepN w' (some (.idx i)) (.slice (some ⟨g, 0, none⟩) 1 1) ∧ Below w.heap.size w w') := by
  subst h
  exact nth_of i w

def ClonedP (ps : List Step) (w : World) (e : Ending) (w' : World) : Prop := ∃ A c, e = .returned (.slice A ps.length c) ∧ FrOwn w' w.heap.size (.slice A ps.length c) (ps.map some) ∧ Below w.heap.size w w'
theorem cloneP_any (v : Value) (B : Nat) (ps : List Step) (w : World) (ho : FrOwn w B v (ps.map some)) (hl : ps.length ≤ 1000000) :
    Calls Try.prog 44 #[v] w (ClonedP ps w) := by
  refine (cloneF_any v B (ps.map some) w ho (by rw [List.length_map]; exact hl)).mono ?_
  rintro e w' ⟨A, c, rfl, h1, h2⟩
  rw [List.length_map] at h1 ⊢
  exact ⟨A, c, rfl, h1, h2⟩

set_option maxHeartbeats 4000000 in
set_option maxRecDepth 100000 in
theorem differing_arr (n n' : Int) (f f' : Nat) (s s' : ByteArray) (l l' : List V) (ks ks' : List ByteArray) (p : List Step) (hbd : V.wts l + V.wts l' + 1 ≤ 1000000) (hpl : p.length ≤ 1000000)
    (H0 : ∀ (i : Nat) x y, l[i]? = some x → l'[i]? = some y → Call3 x y (p ++ [.idx i])) : Call3 ⟨7, n, f, s, l, ks⟩ ⟨7, n', f', s', l', ks'⟩ p := by
  intro ok A B A' B' ca cb ca' cb' v w hb hB hA hb' hB' hA' hp
  dsimp only at hb hB hA hb' hB' hA' ⊢
  obtain ⟨Ap, cp, rfl, _⟩ := hp.view
  have H := Lib.hid H0
  have hpH := Lib.hid hp
  have hl1 : l.length ≤ 1000000 := by have := wts_len l; omega
  have hl2 : l'.length ≤ 1000000 := by have := wts_len l'; omega
  have hAH := Lib.hid hA
  have hAH' := Lib.hid hA'
  clear H0 hb hb' hB hB' hp hA hA'
  go_enter Try.func17, Try.ntmps17
  go_wp2_with fail
  go_loopw [7, 9] (fun o i wr => ∃ (j m : Nat) (Ao : Option Addr) (co : Nat), j ≤ min l.length l'.length ∧ i = .int .i64 j ∧ o = .slice Ao m co ∧ Hid (ArrInv l l' p (w.heap.size + 2) wr (.slice Ao m co) m j) ∧ Below (w.heap.size + 2) ((w.alloc (valObj ⟨7, n, f, s, l, ks⟩ A ca B cb)).alloc (valObj ⟨7, n', f', s', l', ks'⟩ A' ca' B' cb')) wr) (fun _ i _ => min l.length l'.length - (intOf i).toNat)
  case atStart => exact ⟨0, 0, none, 0, Nat.zero_le _, rfl, rfl, ArrInv.zero _ _ _ _ _, Below.refl _ _⟩
  case round =>
    obtain ⟨j, m, Ao, co, hj, rfl, rfl, hinv, hbel⟩ := hrel
    obtain ⟨⟨b0, b1, b2, b3, b4, b5⟩, ⟨d0, d1, d2, d3, d4, d5⟩, hbw⟩ := boxed2 hbel
    dsimp only at b0 b1 b2 b3 b4 b5 d0 d1 d2 d3 d4 d5
    have hs2 : w.heap.size + 2 ≤ wr.heap.size := by have := hbel.size; rw [alloc_size, alloc_size] at this; exact this
    clear b0 b1 b2 b3 b5 d0 d1 d2 d3 d5
    by_cases hlt : j < min l.length l'.length
    · obtain ⟨x, hx⟩ : ∃ x, l[j]? = some x := get_lt (by omega)
      obtain ⟨y, hy⟩ : ∃ y, l'[j]? = some y := get_lt (by omega)
      obtain ⟨ad, Ai, ci, Bi, di, hAe, hdl, ⟨e0, e1, e2, e3, e4, e5⟩, hbx, hBx, hAx⟩ := (hAH.out.lt.bel hbw).at_ hx
      obtain ⟨ad', Ai', ci', Bi', di', hAe', hdl', ⟨q0, q1, q2, q3, q4, q5⟩, hby, hBy, hAy⟩ := (hAH'.out.lt.bel hbw).at_ hy
      subst hAe hAe'
      have gx : (ad.add (j * 6)).block < w.heap.size + 2 := by rw [add_block]; have := hdl.2; omega
      have gy : (ad'.add (j * 6)).block < w.heap.size + 2 := by rw [add_block]; have := hdl'.2; omega
      have k0 : w.heap.size < w.heap.size + 2 := by omega
      have k1 : w.heap.size + 1 < w.heap.size + 2 := by omega
      have hS1 : Hid ((fun w' => w'.cell? ⟨w.heap.size, 4, none⟩ = some (.slice (some ad) l.length ca) ∧ w'.cell? ⟨w.heap.size + 1, 4, none⟩ = some (.slice (some ad') l'.length ca') ∧ w'.cell? (ad.add (j * 6)) = some (.int .i64 x.kind) ∧ w'.cell? ⟨(ad.add (j * 6)).block, (ad.add (j * 6)).off + 1, none⟩ = some (.int .i64 x.n) ∧ w'.cell? ⟨(ad.add (j * 6)).block, (ad.add (j * 6)).off + 2, none⟩ = some (.float .f64 x.f) ∧ w'.cell? ⟨(ad.add (j * 6)).block, (ad.add (j * 6)).off + 3, none⟩ = some (.string x.s) ∧ w'.cell? ⟨(ad.add (j * 6)).block, (ad.add (j * 6)).off + 4, none⟩ = some (.slice Ai x.l.length ci) ∧ w'.cell? ⟨(ad.add (j * 6)).block, (ad.add (j * 6)).off + 5, none⟩ = some (.slice Bi x.keys.length di) ∧ w'.cell? (ad'.add (j * 6)) = some (.int .i64 y.kind) ∧ w'.cell? ⟨(ad'.add (j * 6)).block, (ad'.add (j * 6)).off + 1, none⟩ = some (.int .i64 y.n) ∧ w'.cell? ⟨(ad'.add (j * 6)).block, (ad'.add (j * 6)).off + 2, none⟩ = some (.float .f64 y.f) ∧ w'.cell? ⟨(ad'.add (j * 6)).block, (ad'.add (j * 6)).off + 3, none⟩ = some (.string y.s) ∧ w'.cell? ⟨(ad'.add (j * 6)).block, (ad'.add (j * 6)).off + 4, none⟩ = some (.slice Ai' y.l.length ci') ∧ w'.cell? ⟨(ad'.add (j * 6)).block, (ad'.add (j * 6)).off + 5, none⟩ = some (.slice Bi' y.keys.length di')) wr) := ⟨b4, d4, e0, e1, e2, e3, e4, e5, q0, q1, q2, q3, q4, q5⟩
      have hS2 : Hid (∀ w2, Below (w.heap.size + 2) wr w2 → (fun w' => w'.cell? ⟨w.heap.size, 4, none⟩ = some (.slice (some ad) l.length ca) ∧ w'.cell? ⟨w.heap.size + 1, 4, none⟩ = some (.slice (some ad') l'.length ca') ∧ w'.cell? (ad.add (j * 6)) = some (.int .i64 x.kind) ∧ w'.cell? ⟨(ad.add (j * 6)).block, (ad.add (j * 6)).off + 1, none⟩ = some (.int .i64 x.n) ∧ w'.cell? ⟨(ad.add (j * 6)).block, (ad.add (j * 6)).off + 2, none⟩ = some (.float .f64 x.f) ∧ w'.cell? ⟨(ad.add (j * 6)).block, (ad.add (j * 6)).off + 3, none⟩ = some (.string x.s) ∧ w'.cell? ⟨(ad.add (j * 6)).block, (ad.add (j * 6)).off + 4, none⟩ = some (.slice Ai x.l.length ci) ∧ w'.cell? ⟨(ad.add (j * 6)).block, (ad.add (j * 6)).off + 5, none⟩ = some (.slice Bi x.keys.length di) ∧ w'.cell? (ad'.add (j * 6)) = some (.int .i64 y.kind) ∧ w'.cell? ⟨(ad'.add (j * 6)).block, (ad'.add (j * 6)).off + 1, none⟩ = some (.int .i64 y.n) ∧ w'.cell? ⟨(ad'.add (j * 6)).block, (ad'.add (j * 6)).off + 2, none⟩ = some (.float .f64 y.f) ∧ w'.cell? ⟨(ad'.add (j * 6)).block, (ad'.add (j * 6)).off + 3, none⟩ = some (.string y.s) ∧ w'.cell? ⟨(ad'.add (j * 6)).block, (ad'.add (j * 6)).off + 4, none⟩ = some (.slice Ai' y.l.length ci') ∧ w'.cell? ⟨(ad'.add (j * 6)).block, (ad'.add (j * 6)).off + 5, none⟩ = some (.slice Bi' y.keys.length di')) w2) := fun w2 hb2 => by
        obtain ⟨s1, s2, s3, s4, s5, s6, s7, s8, s9, s10, s11, s12, s13, s14⟩ := hS1.out
        have h := fun (p : Addr) (hp : p.block < w.heap.size + 2) => hb2.cell (p := p) hp
        exact ⟨(h ⟨w.heap.size, 4, none⟩ k0).trans s1, (h ⟨w.heap.size + 1, 4, none⟩ k1).trans s2, (h _ gx).trans s3, (h ⟨(ad.add (j * 6)).block, (ad.add (j * 6)).off + 1, none⟩ gx).trans s4, (h ⟨(ad.add (j * 6)).block, (ad.add (j * 6)).off + 2, none⟩ gx).trans s5, (h ⟨(ad.add (j * 6)).block, (ad.add (j * 6)).off + 3, none⟩ gx).trans s6, (h ⟨(ad.add (j * 6)).block, (ad.add (j * 6)).off + 4, none⟩ gx).trans s7, (h ⟨(ad.add (j * 6)).block, (ad.add (j * 6)).off + 5, none⟩ gx).trans s8, (h _ gy).trans s9, (h ⟨(ad'.add (j * 6)).block, (ad'.add (j * 6)).off + 1, none⟩ gy).trans s10, (h ⟨(ad'.add (j * 6)).block, (ad'.add (j * 6)).off + 2, none⟩ gy).trans s11, (h ⟨(ad'.add (j * 6)).block, (ad'.add (j * 6)).off + 3, none⟩ gy).trans s12, (h ⟨(ad'.add (j * 6)).block, (ad'.add (j * 6)).off + 4, none⟩ gy).trans s13, (h ⟨(ad'.add (j * 6)).block, (ad'.add (j * 6)).off + 5, none⟩ gy).trans s14⟩
      have hxH := Lib.hid hx
      have hyH := Lib.hid hy
      have hBxH := Lib.hid (hBx.mono (ok' := any) (fun _ _ => trivial))
      have hAxH := Lib.hid (hAx.mono (ok' := any) (fun _ _ => trivial))
      have hByH := Lib.hid (hBy.mono (ok' := any) (fun _ _ => trivial))
      have hAyH := Lib.hid (hAy.mono (ok' := any) (fun _ _ => trivial))
      have j0 : (0 : Int) ≤ (j : Int) := by omega
      have j1 : (j : Int) < (l.length : Int) := by omega
      have j2 : (j : Int) < (l'.length : Int) := by omega
      have hp0 : FrOwn wr.drew 0 (.slice Ap p.length cp) (p.map some) := (hpH.out.keep (Keeps.of_below (hbw.mono (Nat.le_refl _)))).keep (fun _ _ _ _ _ _ => rfl)
      have hcl := Lib.hid (cloneP_any (.slice Ap p.length cp) 0 p wr.drew hp0 hpl)
      clear hx hy hBx hAx hBy hAy hp0
      go_wp2_with fail
      go_region_held3 (fun w' => w'.cell? ⟨w.heap.size, 4, none⟩ = some (.slice (some ad) l.length ca) ∧ w'.cell? ⟨w.heap.size + 1, 4, none⟩ = some (.slice (some ad') l'.length ca') ∧ w'.cell? (ad.add (j * 6)) = some (.int .i64 x.kind) ∧ w'.cell? ⟨(ad.add (j * 6)).block, (ad.add (j * 6)).off + 1, none⟩ = some (.int .i64 x.n) ∧ w'.cell? ⟨(ad.add (j * 6)).block, (ad.add (j * 6)).off + 2, none⟩ = some (.float .f64 x.f) ∧ w'.cell? ⟨(ad.add (j * 6)).block, (ad.add (j * 6)).off + 3, none⟩ = some (.string x.s) ∧ w'.cell? ⟨(ad.add (j * 6)).block, (ad.add (j * 6)).off + 4, none⟩ = some (.slice Ai x.l.length ci) ∧ w'.cell? ⟨(ad.add (j * 6)).block, (ad.add (j * 6)).off + 5, none⟩ = some (.slice Bi x.keys.length di) ∧ w'.cell? (ad'.add (j * 6)) = some (.int .i64 y.kind) ∧ w'.cell? ⟨(ad'.add (j * 6)).block, (ad'.add (j * 6)).off + 1, none⟩ = some (.int .i64 y.n) ∧ w'.cell? ⟨(ad'.add (j * 6)).block, (ad'.add (j * 6)).off + 2, none⟩ = some (.float .f64 y.f) ∧ w'.cell? ⟨(ad'.add (j * 6)).block, (ad'.add (j * 6)).off + 3, none⟩ = some (.string y.s) ∧ w'.cell? ⟨(ad'.add (j * 6)).block, (ad'.add (j * 6)).off + 4, none⟩ = some (.slice Ai' y.l.length ci') ∧ w'.cell? ⟨(ad'.add (j * 6)).block, (ad'.add (j * 6)).off + 5, none⟩ = some (.slice Bi' y.keys.length di')) (first | exact hS1.out | exact hS3.out | exact hS4.out | exact hS5.out | exact hS6.out | exact hS7.out | exact hS8.out | go_keep)
        (first
        | (go_at_call 44; refine hcl.out.mono ?_; rintro e w2 ⟨A2, c2, rfl, ho2, hl2⟩; have hl2' := below_undrew hl2; have hS3 := Lib.hid (hS2.out w2 (hl2'.mono hs2)))
        | (go_at_call 45; refine (nth_of j w2).mono ?_; rintro e w3 ⟨g3, rfl, hn3, hl3⟩; have hl3' := hl2'.trans (hl3.mono hl2'.size); have hS4 := Lib.hid (hS2.out w3 (hl3'.mono hs2)); have hS5 := Lib.hid (hS2.out _ ((hl3'.mono hs2).alloc (Nat.le_trans hs2 hl3'.size) (.cells #[.int .i64 4, .string ⟨#[]⟩, .slice (some ⟨g3, 0, none⟩) 1 1, .slice none 0 0, .int .i64 0, .int .i64 0, .int .i64 0, .float .f64 0, .string ⟨#[]⟩, .slice none 0 0, .slice none 0 0, .slice none 0 0, .slice none 0 0] 64))); obtain ⟨A5, c5, w5, hrun5, ho5, hb5⟩ := run_app_step w3 (.slice A2 p.length c2) wr.heap.size p (.idx j) (.slice (some ⟨g3, 0, none⟩) 1 1) 41 (.cells #[.int .i64 4, .string ⟨#[]⟩, .slice (some ⟨g3, 0, none⟩) 1 1, .slice none 0 0, .int .i64 0, .int .i64 0, .int .i64 0, .float .f64 0, .string ⟨#[]⟩, .slice none 0 0, .slice none 0 0, .slice none 0 0, .slice none 0 0] 64) (ho2.keep (Keeps.of_below (hl3.mono (Nat.le_refl _)))) hn3 rfl hpl hl3'.size; have hl5' := hl3'.trans hb5; have hS6 := Lib.hid (hS2.out w5 (hl5'.mono hs2)); have hrun5' := Lib.hid hrun5; clear hrun5)
        | (refine step_append_is rfl (.tmp 44) (.tmp 47) 41 rfl (.slice A2 p.length c2) (.slice (some ⟨w3.heap.size, 0, none⟩) 1 1) (by simp [Act.eval, Act.put]) (by simp [Act.eval, Act.put]) (.slice A5 (p.length + 1) c5) w5 hrun5'.out ?_)
        | (go_at_call 17; refine (H.out j x y hxH.out hyH.out _ Ai Bi Ai' Bi' ci di ci' di' (.slice A5 (p.length + 1) c5) w5 hbx (hBxH.out.bel hl5') (hAxH.out.bel hl5') hby (hByH.out.bel hl5') (hAyH.out.bel hl5') (ho5.le (Nat.zero_le _))).mono ?_; rintro e w6 ⟨A6, c6, m6, ws6, rfl, hm6, ho6, hq6, hle6, hb6⟩; have hl6' := hl5'.trans (hb6.mono hl5'.size); have hS7 := Lib.hid (hS2.out w6 (hl6'.mono hs2)); obtain ⟨A7, c7, w7, hrun7, hinv7, hb7⟩ := arrs_step hinv.out hl6' hxH.out hyH.out hm6 ho6 hq6 hle6 (by omega) hs2 36; have hl7' := (hl6'.mono hs2).trans hb7; have hS8 := Lib.hid (hS2.out w7 hl7'); have hrun7' := Lib.hid hrun7; clear hrun7)
        | (refine step_append_is rfl (.tmp 32) (.tmp 49) 36 rfl (.slice Ao m co) (.slice A6 m6 c6) (by simp [Act.eval, Act.put]) (by simp [Act.eval, Act.put]) (.slice A7 (m + m6) c7) w7 hrun7'.out ?_))
      have hbel7 := hbel.trans hl7'
      clear hS1 hS2 hS3 hS4 hS5 hS6 hS7 hS8 hl7' hl6' hl5' hl3' hl2' hl2 hl3 hb5 hb6 hb7 b4 d4 e0 e1 e2 e3 e4 e5 q0 q1 q2 q3 q4 q5 hrun5' hrun7' hq6 ho6 ho5 ho2 hn3 hle6 hm6 j0 j1 j2 gx gy k0 k1 hinv
      go_wp2_with fail
      go_roundw
      case rel => exact ⟨j + 1, m + m6, A7, c7, by omega, by go_num, rfl, hinv7, hbel7⟩
      case measure => simp [intOf]; omega
    · obtain rfl : j = min l.length l'.length := by omega
      by_cases hlen : l.length = l'.length
      · have hd := Lib.hid (arrs_done (a := ⟨7, n, f, s, l, ks⟩) (b := ⟨7, n', f', s', l', ks'⟩) rfl rfl hinv.out hlen)
        have e1 : ((l.length : Int) != (l'.length : Int)) = false := by rw [hlen]; simp
        clear hlen hinv
        go_wp2_with fail
        go_ret
        obtain ⟨ws, h1, h2, h3, h4⟩ := hd.out
        exact ⟨Ao, co, m, ws, rfl, h1, h2, h3, h4, hbw⟩
      · have e1 : ((l.length : Int) != (l'.length : Int)) = true := bne_iff_ne.2 (by omega)
        have hne := Lib.hid hlen
        clear hlen
        have hp0 : FrOwn wr 0 (.slice Ap p.length cp) (p.map some) := hpH.out.keep (Keeps.of_below (hbw.mono (Nat.le_refl _)))
        have hcl := Lib.hid (cloneP_any (.slice Ap p.length cp) 0 p wr hp0 hpl)
        clear hp0
        go_wp2_with fail
        refine hcl.out.mono ?_
        rintro e w2 ⟨A2, c2, rfl, ho2, hl2⟩
        go_wp2_with fail
        refine (nth_at _ (min l.length l'.length) w2 (by omega)).mono ?_
        rintro e w3 ⟨g3, rfl, hn3, hl3⟩
        have hl3' := hl2.trans (hl3.mono hl2.size)
        obtain ⟨A5, c5, w5, hrun5, ho5, hb5⟩ := run_app_step w3 (.slice A2 p.length c2) wr.heap.size p (.idx (min l.length l'.length)) (.slice (some ⟨g3, 0, none⟩) 1 1) 41 (.cells #[.int .i64 4, .string ⟨#[]⟩, .slice (some ⟨g3, 0, none⟩) 1 1, .slice none 0 0, .int .i64 0, .int .i64 0, .int .i64 0, .float .f64 0, .string ⟨#[]⟩, .slice none 0 0, .slice none 0 0, .slice none 0 0, .slice none 0 0] 64) (ho2.keep (Keeps.of_below (hl3.mono (Nat.le_refl _)))) hn3 rfl hpl hl3'.size
        have hl5' := hl3'.trans hb5
        obtain ⟨A7, c7, w7, hrun7, hfin7, hb7⟩ := arrs_more (a := ⟨7, n, f, s, l, ks⟩) (b := ⟨7, n', f', s', l', ks'⟩) (x := .slice A5 (p.length + 1) c5) rfl rfl hinv.out hne.out hl5' (ho5.le (Nat.zero_le _)) (by dsimp only; omega) hs2 36 (.cells #[.slice A5 (p.length + 1) c5] 41) rfl
        have hrun5' := Lib.hid hrun5
        have hrun7' := Lib.hid hrun7
        have hb8 := hbw.trans ((hl5'.mono hs2).trans hb7 |>.mono (by omega))
        clear hrun5 hrun7 ho5 hb5 hb7 hn3 hl3 hl3' hl2 ho2 hinv
        go_wp2_with (first
          | (at_builtin; refine wpList_append_is rfl (.tmp 60) (.tmp 63) 41 rfl (.slice A2 p.length c2) (.slice (some ⟨w3.heap.size, 0, none⟩) 1 1) rfl rfl (.slice A5 (p.length + 1) c5) w5 hrun5'.out ?_)
          | (at_builtin; refine wpList_append_is rfl (.tmp 58) (.tmp 65) 36 rfl (.slice Ao m co) (.slice (some ⟨w5.heap.size, 0, none⟩) 1 1) rfl rfl (.slice A7 (m + 1) c7) w7 hrun7'.out ?_))
        go_ret
        obtain ⟨ws, h1, h2, h3, h4⟩ := hfin7.out
        exact ⟨A7, c7, m + 1, ws, rfl, h1, h2, h3, h4, hb8⟩
end Go.Proofs.Ytpdcoipfpffhnaa
