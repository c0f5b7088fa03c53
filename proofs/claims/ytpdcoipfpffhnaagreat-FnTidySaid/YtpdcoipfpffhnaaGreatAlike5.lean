/-
  alike at trees that are alike. Conditions: none.
-/
import Derived.Test.YtpdcoipfpffhnaaGreatTid2
namespace Go.Proofs.YtpdcoipfpffhnaaGreat
open Go.ChangeShapes Go.WideShapes Go.ChangeAt Go.RowKit
set_option linter.unusedVariables false
set_option linter.unusedSimpArgs false

theorem eg_alike : ∀ args w, (callFunc 8 args).run Tryz.prog w = .ok (.enter 8 args) w := fun _ _ => by kernel_rfl
theorem true_iff (r : Bool) (h : r = true) : (r = true ↔ True) := ⟨fun _ => trivial, fun _ => h⟩

theorem alike_leaf5 (a b : V) (A B A' B' : Option Addr) (ca cb ca' cb' : Nat) (w : World) (hk : a.kind = b.kind) (h5 : a.kind = 1 ∨ a.kind = 2 ∨ a.kind = 3 ∨ a.kind = 4 ∨ a.kind = 5) (hn : a.kind = 2 ∨ a.kind = 3 → a.n = b.n) (hf : a.kind = 4 → a.f = b.f ∧ finF a.f = true) (hs : a.kind = 5 → a.s = b.s) :
    Calls Tryz.prog 8 #[.agg #[.int .i64 a.kind, .int .i64 a.n, .float .f64 a.f, .string a.s, .slice A a.l.length ca, .slice B a.keys.length cb], .agg #[.int .i64 b.kind, .int .i64 b.n, .float .f64 b.f, .string b.s, .slice A' b.l.length ca', .slice B' b.keys.length cb']] w (IffB True w) := by
  have h := alike_eq a.kind a.n b.n a.f b.f a.s b.s A B A' B' a.l.length a.keys.length b.l.length b.keys.length ca cb ca' cb' w h5
  rw [← hk]
  refine h.mono ?_
  rintro e w' ⟨r, rfl, hr, hb⟩
  refine ⟨r, rfl, true_iff r (hr.2 ⟨hn, fun h4 => ?_, fun h56 => ?_⟩), hb⟩
  · obtain ⟨e1, e2⟩ := hf h4
    rw [← e1]
    simp only [finF, nanF, Bool.and_eq_true, Bool.not_eq_true', bne_eq_false_iff_eq] at e2
    rw [e2.1]; rfl
  · rcases h56 with h | h
    · exact hs h
    · omega

set_option maxRecDepth 100000 in
set_option maxHeartbeats 2000000 in
theorem alike_arr5 (n n' : Int) (f f' : Nat) (s s' : ByteArray) (l l' : List V) (ks ks' : List ByteArray) (hl : l.length = l'.length) (hlm' : l'.length ≤ 1000000)
    (H0 : ∀ (i : Nat) x y, l[i]? = some x → l'[i]? = some y → Call2 8 x y True)
    {ok : Nat → Prop} (A B A' B' : Option Addr) (ca cb ca' cb' : Nat) (w : World) (hA : Vals ok w A l) (hA' : Vals ok w A' l') :
    Calls Tryz.prog 8 #[.agg #[.int .i64 7, .int .i64 n, .float .f64 f, .string s, .slice A l.length ca, .slice B ks.length cb], .agg #[.int .i64 7, .int .i64 n', .float .f64 f', .string s', .slice A' l'.length ca', .slice B' ks'.length cb']] w (IffB True w) := by
  have H := Lib.hid H0
  have hlH := Lib.hid hl
  have hlm : l.length ≤ 1000000 := by omega
  clear H0 hl
  go_enter Tryz.func8, Tryz.ntmps8
  go_wp2_with fail
  have hbel : Below w.heap.size w ((w.alloc (valObj ⟨7, n, f, s, l, ks⟩ A ca B cb)).alloc (valObj ⟨7, n', f', s', l', ks'⟩ A' ca' B' cb')) := below2 _ _ _
  refine (equalFunc_any _ eg_alike l l' (fun _ => True) H.out A A' ca ca' _ (hA.bel hbel) (hA'.bel hbel) hlm hlm').mono ?_
  rintro e w2 ⟨r, rfl, hr, hb2⟩
  have hbw := hbel.trans (hb2.mono (by rw [alloc_size, alloc_size]; omega))
  have hr' : Hid (r = true) := hr.2 ⟨hlH.out, fun _ _ => trivial⟩
  clear hr hb2 hbel
  go_wp2_with fail
  go_ret
  exact ⟨r, rfl, true_iff r hr'.out, hbw⟩
end Go.Proofs.YtpdcoipfpffhnaaGreat
