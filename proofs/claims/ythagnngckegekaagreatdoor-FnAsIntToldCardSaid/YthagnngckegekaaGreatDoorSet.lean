/-
  decimal.set: the digits of a text are laid into a decimal. Conditions: none.
-/
import Derived.Test.YthagnngckegekaaGreatDoorShf
namespace Go.Proofs.YthagnngckegekaaGreatDoor
open Go.ChangeShapes Go.WideShapes Go.ChangeAt Go.RowKit
set_option linter.unusedVariables false
set_option linter.unusedSimpArgs false

/-- Between two parts of a function: what holds there. -/
theorem wp_cut {P : Program} {c : Code} {M K : Act → World → Prop} {Q : Exit → Act → World → Prop} {a : Act} {w : World} (h1 : Go.RowKit.Hid (c.wp P (Exit.then M Q) a w)) (h2 : ∀ a w, M a w → K a w) : c.wp P (Exit.then K Q) a w := by
  refine wp_mono (h1 : c.wp P (Exit.then M Q) a w) ?_
  intro e a w h
  cases e with
  | normal => exact h2 a w h
  | exit id => exact h
  | goto l => exact h
  | ret => exact h
  | panic ch => exact h
  | outgrown => exact h

theorem lower_any (z : Int) (w : World) : Calls Tryz.prog 65 #[.int .u8 z] w (fun e w' => w = w' ∧ ∃ r : Int, e = .returned (.int .u8 r)) := by
  go_enter Tryz.func65, Tryz.ntmps65
  go_wp2
  all_goals (go_ret; exact ⟨rfl, _, rfl⟩)

/-- Some digits, the first one not 0, or none. -/
def SetOk (cur : List Nat) (nd : Nat) : Prop := nd ≤ 800 ∧ Dgs cur 0 nd ∧ (1 ≤ nd → cur[0]? ≠ some 48)
theorem SetOk.good {cur : List Nat} {nd : Nat} (h : SetOk cur nd) (h1 : 1 ≤ nd) : Good cur nd := ⟨h1, h.1, h.2.1, h.2.2 h1⟩
theorem SetOk.snoc {cur : List Nat} {nd b : Nat} (h : SetOk cur nd) (hl : cur.length = 800) (hn : nd < 800) (hb : 48 ≤ b ∧ b ≤ 57) (h0 : nd = 0 → b ≠ 48) : SetOk (cur.set nd b) (nd + 1) := by
  obtain ⟨d, rfl⟩ : ∃ d, b = 48 + d := ⟨b - 48, by omega⟩
  refine ⟨by omega, h.2.1.snoc (by omega) (by omega), fun _ => ?_⟩
  rw [List.getElem?_set]
  by_cases e : nd = 0
  · subst e
    have := h0 rfl
    simp [hl]
    omega
  · rw [if_neg e]
    exact h.2.2 (by omega)

/-- Such a decimal lies in block g; its point is not far. -/
def Fed (w0 w : World) (g : Nat) (lo hi : Int) (neg : Bool) : Prop := ∃ (cur : List Nat) (nd : Nat) (dp : Int) (tr : Bool), DM w g cur nd dp neg tr ∧ SetOk cur nd ∧ Only g w0 w ∧ lo ≤ dp ∧ dp ≤ hi
/-- Behind the sign. -/
def SetA (g : Nat) (s : ByteArray) (w0 : World) (a : Act) (w : World) : Prop := ∃ (f : Nat → Value) (i : Nat) (neg : Bool), a = ⟨#[.pointer (some ⟨g, 0, none⟩), .string s, undef, undef, .bool false, .int .i64 (i : Int), undef, undef, undef, undef, f 10, f 11, f 12, f 13, f 14, f 15, f 16, f 17, f 18, f 19, f 20, f 21, f 22, f 23, f 24, f 25, f 26, f 27, f 28, f 29, f 30, f 31, f 32, f 33, undef, undef, undef, undef, undef, undef, undef, undef, undef, undef, undef, undef, undef, undef, undef, undef, undef, undef, undef, undef, undef, undef, undef, undef, undef, undef, undef, undef, undef, undef, undef, undef, undef, undef, undef, undef, undef, undef, undef, undef, undef, undef, undef, undef, undef, undef, undef, undef, undef, undef, undef, undef, undef, undef, undef, undef, undef, undef, undef, undef, undef, undef, undef, undef, undef, undef, undef, undef, undef, undef, undef, undef, undef, undef, undef, undef, undef, undef, undef, undef, undef, undef, undef, undef, undef, undef, undef, undef, undef, undef, undef, undef, undef, undef, undef, undef, undef, undef, undef, undef, undef, undef, undef, undef, undef, undef, undef, undef, undef, undef, undef, undef, undef, undef, undef, undef, undef, undef, undef, undef, undef, undef, undef, undef, undef, undef, undef, undef, undef, undef, undef, undef, undef, undef, undef, undef, undef, undef, undef, undef, undef, undef, undef, undef, undef, undef, undef, undef, undef, undef, undef, undef, undef, undef, undef, undef, undef, undef, undef, undef, undef, undef, undef, undef, undef, undef, undef, undef, undef, undef, undef, undef, undef, undef, undef, undef, undef, undef, undef, undef, undef, undef, undef, undef, undef, undef, undef, undef, undef, undef], []⟩ ∧ i ≤ 1 ∧ Fed w0 w g 0 0 neg
/-- Behind the digits. -/
def SetB (g : Nat) (s : ByteArray) (w0 : World) (a : Act) (w : World) : Prop := ∃ (f : Nat → Value) (i : Nat) (neg sd sg : Bool), a = ⟨#[.pointer (some ⟨g, 0, none⟩), .string s, undef, undef, .bool false, .int .i64 (i : Int), .bool sd, .bool sg, undef, undef, f 10, f 11, f 12, f 13, f 14, f 15, f 16, f 17, f 18, f 19, f 20, f 21, f 22, f 23, f 24, f 25, f 26, f 27, f 28, f 29, f 30, f 31, f 32, f 33, f 34, f 35, f 36, f 37, f 38, f 39, f 40, f 41, f 42, f 43, f 44, f 45, f 46, f 47, f 48, f 49, f 50, f 51, f 52, f 53, f 54, f 55, f 56, f 57, f 58, f 59, f 60, f 61, f 62, f 63, f 64, f 65, f 66, f 67, f 68, f 69, f 70, f 71, f 72, f 73, f 74, f 75, f 76, f 77, f 78, f 79, f 80, f 81, f 82, f 83, f 84, f 85, f 86, f 87, f 88, f 89, f 90, f 91, f 92, f 93, f 94, f 95, f 96, f 97, f 98, f 99, f 100, f 101, f 102, f 103, f 104, f 105, f 106, f 107, f 108, f 109, f 110, f 111, f 112, f 113, f 114, f 115, f 116, undef, undef, undef, undef, undef, undef, undef, undef, undef, undef, undef, undef, undef, undef, undef, undef, undef, undef, undef, undef, undef, undef, undef, undef, undef, undef, undef, undef, undef, undef, undef, undef, undef, undef, undef, undef, undef, undef, undef, undef, undef, undef, undef, undef, undef, undef, undef, undef, undef, undef, undef, undef, undef, undef, undef, undef, undef, undef, undef, undef, undef, undef, undef, undef, undef, undef, undef, undef, undef, undef, undef, undef, undef, undef, undef, undef, undef, undef, undef, undef, undef, undef, undef, undef, undef, undef, undef, undef, undef, undef, undef, undef, undef, undef, undef, undef, undef, undef, undef, undef, undef, undef, undef, undef, undef, undef, undef], []⟩ ∧ i ≤ s.size ∧ Fed w0 w g (-1000) 1000 neg
/-- Behind the point. -/
def SetC (g : Nat) (s : ByteArray) (w0 : World) (a : Act) (w : World) : Prop := ∃ (f : Nat → Value) (i : Nat) (neg sd : Bool), a = ⟨#[.pointer (some ⟨g, 0, none⟩), .string s, undef, undef, .bool false, .int .i64 (i : Int), .bool sd, .bool true, undef, undef, f 10, f 11, f 12, f 13, f 14, f 15, f 16, f 17, f 18, f 19, f 20, f 21, f 22, f 23, f 24, f 25, f 26, f 27, f 28, f 29, f 30, f 31, f 32, f 33, f 34, f 35, f 36, f 37, f 38, f 39, f 40, f 41, f 42, f 43, f 44, f 45, f 46, f 47, f 48, f 49, f 50, f 51, f 52, f 53, f 54, f 55, f 56, f 57, f 58, f 59, f 60, f 61, f 62, f 63, f 64, f 65, f 66, f 67, f 68, f 69, f 70, f 71, f 72, f 73, f 74, f 75, f 76, f 77, f 78, f 79, f 80, f 81, f 82, f 83, f 84, f 85, f 86, f 87, f 88, f 89, f 90, f 91, f 92, f 93, f 94, f 95, f 96, f 97, f 98, f 99, f 100, f 101, f 102, f 103, f 104, f 105, f 106, f 107, f 108, f 109, f 110, f 111, f 112, f 113, f 114, f 115, f 116, f 117, f 118, f 119, f 120, f 121, f 122, f 123, f 124, f 125, f 126, f 127, undef, undef, undef, undef, undef, undef, undef, undef, undef, undef, undef, undef, undef, undef, undef, undef, undef, undef, undef, undef, undef, undef, undef, undef, undef, undef, undef, undef, undef, undef, undef, undef, undef, undef, undef, undef, undef, undef, undef, undef, undef, undef, undef, undef, undef, undef, undef, undef, undef, undef, undef, undef, undef, undef, undef, undef, undef, undef, undef, undef, undef, undef, undef, undef, undef, undef, undef, undef, undef, undef, undef, undef, undef, undef, undef, undef, undef, undef, undef, undef, undef, undef, undef, undef, undef, undef, undef, undef, undef, undef, undef, undef, undef, undef, undef, undef], []⟩ ∧ i ≤ s.size ∧ Fed w0 w g (-1000) 1000 neg
/-- Behind the exponent's sign. -/
def SetD (g : Nat) (s : ByteArray) (w0 : World) (a : Act) (w : World) : Prop := ∃ (f : Nat → Value) (i : Nat) (neg sd : Bool) (es : Int), a = ⟨#[.pointer (some ⟨g, 0, none⟩), .string s, undef, undef, .bool false, .int .i64 (i : Int), .bool sd, .bool true, .int .i64 es, undef, f 10, f 11, f 12, f 13, f 14, f 15, f 16, f 17, f 18, f 19, f 20, f 21, f 22, f 23, f 24, f 25, f 26, f 27, f 28, f 29, f 30, f 31, f 32, f 33, f 34, f 35, f 36, f 37, f 38, f 39, f 40, f 41, f 42, f 43, f 44, f 45, f 46, f 47, f 48, f 49, f 50, f 51, f 52, f 53, f 54, f 55, f 56, f 57, f 58, f 59, f 60, f 61, f 62, f 63, f 64, f 65, f 66, f 67, f 68, f 69, f 70, f 71, f 72, f 73, f 74, f 75, f 76, f 77, f 78, f 79, f 80, f 81, f 82, f 83, f 84, f 85, f 86, f 87, f 88, f 89, f 90, f 91, f 92, f 93, f 94, f 95, f 96, f 97, f 98, f 99, f 100, f 101, f 102, f 103, f 104, f 105, f 106, f 107, f 108, f 109, f 110, f 111, f 112, f 113, f 114, f 115, f 116, f 117, f 118, f 119, f 120, f 121, f 122, f 123, f 124, f 125, f 126, f 127, f 128, f 129, f 130, f 131, f 132, f 133, f 134, f 135, f 136, f 137, f 138, f 139, f 140, f 141, f 142, f 143, f 144, f 145, f 146, f 147, f 148, f 149, f 150, f 151, f 152, f 153, f 154, f 155, undef, undef, undef, undef, undef, undef, undef, undef, undef, undef, undef, undef, undef, undef, undef, undef, undef, undef, undef, undef, undef, undef, undef, undef, undef, undef, undef, undef, undef, undef, undef, undef, undef, undef, undef, undef, undef, undef, undef, undef, undef, undef, undef, undef, undef, undef, undef, undef, undef, undef, undef, undef, undef, undef, undef, undef, undef, undef, undef, undef, undef, undef, undef, undef, undef, undef, undef, undef], []⟩ ∧ i ≤ s.size ∧ (es = 1 ∨ es = -1) ∧ Fed w0 w g (-1000) 1000 neg

/-- What set hands back. -/
def Sett (g : Nat) (w : World) (e : Ending) (w' : World) : Prop := (∃ b : Bool, e = .returned (.bool b)) ∧ ∃ neg, Fed w w' g (-300000) 300000 neg
theorem Fed.wide {w0 w : World} {g : Nat} {lo hi lo' hi' : Int} {neg : Bool} (h : Fed w0 w g lo hi neg) (h1 : lo' ≤ lo) (h2 : hi ≤ hi') : Fed w0 w g lo' hi' neg := by
  obtain ⟨cur, nd, dp, tr, a, b, c, d, e⟩ := h
  exact ⟨cur, nd, dp, tr, a, b, c, by omega, by omega⟩

theorem SetA.of {g : Nat} {s : ByteArray} {w0 w : World} {tm : Array Value} (i : Nat) (neg : Bool) (h : tm = #[.pointer (some ⟨g, 0, none⟩), .string s, undef, undef, .bool false, .int .i64 (i : Int), undef, undef, undef, undef, tm.getD 10 undef, tm.getD 11 undef, tm.getD 12 undef, tm.getD 13 undef, tm.getD 14 undef, tm.getD 15 undef, tm.getD 16 undef, tm.getD 17 undef, tm.getD 18 undef, tm.getD 19 undef, tm.getD 20 undef, tm.getD 21 undef, tm.getD 22 undef, tm.getD 23 undef, tm.getD 24 undef, tm.getD 25 undef, tm.getD 26 undef, tm.getD 27 undef, tm.getD 28 undef, tm.getD 29 undef, tm.getD 30 undef, tm.getD 31 undef, tm.getD 32 undef, tm.getD 33 undef, undef, undef, undef, undef, undef, undef, undef, undef, undef, undef, undef, undef, undef, undef, undef, undef, undef, undef, undef, undef, undef, undef, undef, undef, undef, undef, undef, undef, undef, undef, undef, undef, undef, undef, undef, undef, undef, undef, undef, undef, undef, undef, undef, undef, undef, undef, undef, undef, undef, undef, undef, undef, undef, undef, undef, undef, undef, undef, undef, undef, undef, undef, undef, undef, undef, undef, undef, undef, undef, undef, undef, undef, undef, undef, undef, undef, undef, undef, undef, undef, undef, undef, undef, undef, undef, undef, undef, undef, undef, undef, undef, undef, undef, undef, undef, undef, undef, undef, undef, undef, undef, undef, undef, undef, undef, undef, undef, undef, undef, undef, undef, undef, undef, undef, undef, undef, undef, undef, undef, undef, undef, undef, undef, undef, undef, undef, undef, undef, undef, undef, undef, undef, undef, undef, undef, undef, undef, undef, undef, undef, undef, undef, undef, undef, undef, undef, undef, undef, undef, undef, undef, undef, undef, undef, undef, undef, undef, undef, undef, undef, undef, undef, undef, undef, undef, undef, undef, undef, undef, undef, undef, undef, undef, undef, undef, undef, undef, undef, undef, undef, undef, undef, undef, undef, undef, undef, undef, undef, undef, undef]) (hi : i ≤ 1) (hf : Fed w0 w g 0 0 neg) : SetA g s w0 ⟨tm, []⟩ w := ⟨fun i => tm.getD i undef, i, neg, congrArg (fun t => (⟨t, []⟩ : Act)) h, hi, hf⟩
theorem SetB.of {g : Nat} {s : ByteArray} {w0 w : World} {tm : Array Value} (i : Nat) (neg sd sg : Bool) (h : tm = #[.pointer (some ⟨g, 0, none⟩), .string s, undef, undef, .bool false, .int .i64 (i : Int), .bool sd, .bool sg, undef, undef, tm.getD 10 undef, tm.getD 11 undef, tm.getD 12 undef, tm.getD 13 undef, tm.getD 14 undef, tm.getD 15 undef, tm.getD 16 undef, tm.getD 17 undef, tm.getD 18 undef, tm.getD 19 undef, tm.getD 20 undef, tm.getD 21 undef, tm.getD 22 undef, tm.getD 23 undef, tm.getD 24 undef, tm.getD 25 undef, tm.getD 26 undef, tm.getD 27 undef, tm.getD 28 undef, tm.getD 29 undef, tm.getD 30 undef, tm.getD 31 undef, tm.getD 32 undef, tm.getD 33 undef, tm.getD 34 undef, tm.getD 35 undef, tm.getD 36 undef, tm.getD 37 undef, tm.getD 38 undef, tm.getD 39 undef, tm.getD 40 undef, tm.getD 41 undef, tm.getD 42 undef, tm.getD 43 undef, tm.getD 44 undef, tm.getD 45 undef, tm.getD 46 undef, tm.getD 47 undef, tm.getD 48 undef, tm.getD 49 undef, tm.getD 50 undef, tm.getD 51 undef, tm.getD 52 undef, tm.getD 53 undef, tm.getD 54 undef, tm.getD 55 undef, tm.getD 56 undef, tm.getD 57 undef, tm.getD 58 undef, tm.getD 59 undef, tm.getD 60 undef, tm.getD 61 undef, tm.getD 62 undef, tm.getD 63 undef, tm.getD 64 undef, tm.getD 65 undef, tm.getD 66 undef, tm.getD 67 undef, tm.getD 68 undef, tm.getD 69 undef, tm.getD 70 undef, tm.getD 71 undef, tm.getD 72 undef, tm.getD 73 undef, tm.getD 74 undef, tm.getD 75 undef, tm.getD 76 undef, tm.getD 77 undef, tm.getD 78 undef, tm.getD 79 undef, tm.getD 80 undef, tm.getD 81 undef, tm.getD 82 undef, tm.getD 83 undef, tm.getD 84 undef, tm.getD 85 undef, tm.getD 86 undef, tm.getD 87 undef, tm.getD 88 undef, tm.getD 89 undef, tm.getD 90 undef, tm.getD 91 undef, tm.getD 92 undef, tm.getD 93 undef, tm.getD 94 undef, tm.getD 95 undef, tm.getD 96 undef, tm.getD 97 undef, tm.getD 98 undef, tm.getD 99 undef, tm.getD 100 undef, tm.getD 101 undef, tm.getD 102 undef, tm.getD 103 undef, tm.getD 104 undef, tm.getD 105 undef, tm.getD 106 undef, tm.getD 107 undef, tm.getD 108 undef, tm.getD 109 undef, tm.getD 110 undef, tm.getD 111 undef, tm.getD 112 undef, tm.getD 113 undef, tm.getD 114 undef, tm.getD 115 undef, tm.getD 116 undef, undef, undef, undef, undef, undef, undef, undef, undef, undef, undef, undef, undef, undef, undef, undef, undef, undef, undef, undef, undef, undef, undef, undef, undef, undef, undef, undef, undef, undef, undef, undef, undef, undef, undef, undef, undef, undef, undef, undef, undef, undef, undef, undef, undef, undef, undef, undef, undef, undef, undef, undef, undef, undef, undef, undef, undef, undef, undef, undef, undef, undef, undef, undef, undef, undef, undef, undef, undef, undef, undef, undef, undef, undef, undef, undef, undef, undef, undef, undef, undef, undef, undef, undef, undef, undef, undef, undef, undef, undef, undef, undef, undef, undef, undef, undef, undef, undef, undef, undef, undef, undef, undef, undef, undef, undef, undef, undef]) (hi : i ≤ s.size) (hf : Fed w0 w g (-1000) 1000 neg) : SetB g s w0 ⟨tm, []⟩ w := ⟨fun i => tm.getD i undef, i, neg, sd, sg, congrArg (fun t => (⟨t, []⟩ : Act)) h, hi, hf⟩
theorem SetC.of {g : Nat} {s : ByteArray} {w0 w : World} {tm : Array Value} (i : Nat) (neg sd : Bool) (h : tm = #[.pointer (some ⟨g, 0, none⟩), .string s, undef, undef, .bool false, .int .i64 (i : Int), .bool sd, .bool true, undef, undef, tm.getD 10 undef, tm.getD 11 undef, tm.getD 12 undef, tm.getD 13 undef, tm.getD 14 undef, tm.getD 15 undef, tm.getD 16 undef, tm.getD 17 undef, tm.getD 18 undef, tm.getD 19 undef, tm.getD 20 undef, tm.getD 21 undef, tm.getD 22 undef, tm.getD 23 undef, tm.getD 24 undef, tm.getD 25 undef, tm.getD 26 undef, tm.getD 27 undef, tm.getD 28 undef, tm.getD 29 undef, tm.getD 30 undef, tm.getD 31 undef, tm.getD 32 undef, tm.getD 33 undef, tm.getD 34 undef, tm.getD 35 undef, tm.getD 36 undef, tm.getD 37 undef, tm.getD 38 undef, tm.getD 39 undef, tm.getD 40 undef, tm.getD 41 undef, tm.getD 42 undef, tm.getD 43 undef, tm.getD 44 undef, tm.getD 45 undef, tm.getD 46 undef, tm.getD 47 undef, tm.getD 48 undef, tm.getD 49 undef, tm.getD 50 undef, tm.getD 51 undef, tm.getD 52 undef, tm.getD 53 undef, tm.getD 54 undef, tm.getD 55 undef, tm.getD 56 undef, tm.getD 57 undef, tm.getD 58 undef, tm.getD 59 undef, tm.getD 60 undef, tm.getD 61 undef, tm.getD 62 undef, tm.getD 63 undef, tm.getD 64 undef, tm.getD 65 undef, tm.getD 66 undef, tm.getD 67 undef, tm.getD 68 undef, tm.getD 69 undef, tm.getD 70 undef, tm.getD 71 undef, tm.getD 72 undef, tm.getD 73 undef, tm.getD 74 undef, tm.getD 75 undef, tm.getD 76 undef, tm.getD 77 undef, tm.getD 78 undef, tm.getD 79 undef, tm.getD 80 undef, tm.getD 81 undef, tm.getD 82 undef, tm.getD 83 undef, tm.getD 84 undef, tm.getD 85 undef, tm.getD 86 undef, tm.getD 87 undef, tm.getD 88 undef, tm.getD 89 undef, tm.getD 90 undef, tm.getD 91 undef, tm.getD 92 undef, tm.getD 93 undef, tm.getD 94 undef, tm.getD 95 undef, tm.getD 96 undef, tm.getD 97 undef, tm.getD 98 undef, tm.getD 99 undef, tm.getD 100 undef, tm.getD 101 undef, tm.getD 102 undef, tm.getD 103 undef, tm.getD 104 undef, tm.getD 105 undef, tm.getD 106 undef, tm.getD 107 undef, tm.getD 108 undef, tm.getD 109 undef, tm.getD 110 undef, tm.getD 111 undef, tm.getD 112 undef, tm.getD 113 undef, tm.getD 114 undef, tm.getD 115 undef, tm.getD 116 undef, tm.getD 117 undef, tm.getD 118 undef, tm.getD 119 undef, tm.getD 120 undef, tm.getD 121 undef, tm.getD 122 undef, tm.getD 123 undef, tm.getD 124 undef, tm.getD 125 undef, tm.getD 126 undef, tm.getD 127 undef, undef, undef, undef, undef, undef, undef, undef, undef, undef, undef, undef, undef, undef, undef, undef, undef, undef, undef, undef, undef, undef, undef, undef, undef, undef, undef, undef, undef, undef, undef, undef, undef, undef, undef, undef, undef, undef, undef, undef, undef, undef, undef, undef, undef, undef, undef, undef, undef, undef, undef, undef, undef, undef, undef, undef, undef, undef, undef, undef, undef, undef, undef, undef, undef, undef, undef, undef, undef, undef, undef, undef, undef, undef, undef, undef, undef, undef, undef, undef, undef, undef, undef, undef, undef, undef, undef, undef, undef, undef, undef, undef, undef, undef, undef, undef, undef]) (hi : i ≤ s.size) (hf : Fed w0 w g (-1000) 1000 neg) : SetC g s w0 ⟨tm, []⟩ w := ⟨fun i => tm.getD i undef, i, neg, sd, congrArg (fun t => (⟨t, []⟩ : Act)) h, hi, hf⟩
theorem SetD.of {g : Nat} {s : ByteArray} {w0 w : World} {tm : Array Value} (i : Nat) (neg sd : Bool) (es : Int) (h : tm = #[.pointer (some ⟨g, 0, none⟩), .string s, undef, undef, .bool false, .int .i64 (i : Int), .bool sd, .bool true, .int .i64 es, undef, tm.getD 10 undef, tm.getD 11 undef, tm.getD 12 undef, tm.getD 13 undef, tm.getD 14 undef, tm.getD 15 undef, tm.getD 16 undef, tm.getD 17 undef, tm.getD 18 undef, tm.getD 19 undef, tm.getD 20 undef, tm.getD 21 undef, tm.getD 22 undef, tm.getD 23 undef, tm.getD 24 undef, tm.getD 25 undef, tm.getD 26 undef, tm.getD 27 undef, tm.getD 28 undef, tm.getD 29 undef, tm.getD 30 undef, tm.getD 31 undef, tm.getD 32 undef, tm.getD 33 undef, tm.getD 34 undef, tm.getD 35 undef, tm.getD 36 undef, tm.getD 37 undef, tm.getD 38 undef, tm.getD 39 undef, tm.getD 40 undef, tm.getD 41 undef, tm.getD 42 undef, tm.getD 43 undef, tm.getD 44 undef, tm.getD 45 undef, tm.getD 46 undef, tm.getD 47 undef, tm.getD 48 undef, tm.getD 49 undef, tm.getD 50 undef, tm.getD 51 undef, tm.getD 52 undef, tm.getD 53 undef, tm.getD 54 undef, tm.getD 55 undef, tm.getD 56 undef, tm.getD 57 undef, tm.getD 58 undef, tm.getD 59 undef, tm.getD 60 undef, tm.getD 61 undef, tm.getD 62 undef, tm.getD 63 undef, tm.getD 64 undef, tm.getD 65 undef, tm.getD 66 undef, tm.getD 67 undef, tm.getD 68 undef, tm.getD 69 undef, tm.getD 70 undef, tm.getD 71 undef, tm.getD 72 undef, tm.getD 73 undef, tm.getD 74 undef, tm.getD 75 undef, tm.getD 76 undef, tm.getD 77 undef, tm.getD 78 undef, tm.getD 79 undef, tm.getD 80 undef, tm.getD 81 undef, tm.getD 82 undef, tm.getD 83 undef, tm.getD 84 undef, tm.getD 85 undef, tm.getD 86 undef, tm.getD 87 undef, tm.getD 88 undef, tm.getD 89 undef, tm.getD 90 undef, tm.getD 91 undef, tm.getD 92 undef, tm.getD 93 undef, tm.getD 94 undef, tm.getD 95 undef, tm.getD 96 undef, tm.getD 97 undef, tm.getD 98 undef, tm.getD 99 undef, tm.getD 100 undef, tm.getD 101 undef, tm.getD 102 undef, tm.getD 103 undef, tm.getD 104 undef, tm.getD 105 undef, tm.getD 106 undef, tm.getD 107 undef, tm.getD 108 undef, tm.getD 109 undef, tm.getD 110 undef, tm.getD 111 undef, tm.getD 112 undef, tm.getD 113 undef, tm.getD 114 undef, tm.getD 115 undef, tm.getD 116 undef, tm.getD 117 undef, tm.getD 118 undef, tm.getD 119 undef, tm.getD 120 undef, tm.getD 121 undef, tm.getD 122 undef, tm.getD 123 undef, tm.getD 124 undef, tm.getD 125 undef, tm.getD 126 undef, tm.getD 127 undef, tm.getD 128 undef, tm.getD 129 undef, tm.getD 130 undef, tm.getD 131 undef, tm.getD 132 undef, tm.getD 133 undef, tm.getD 134 undef, tm.getD 135 undef, tm.getD 136 undef, tm.getD 137 undef, tm.getD 138 undef, tm.getD 139 undef, tm.getD 140 undef, tm.getD 141 undef, tm.getD 142 undef, tm.getD 143 undef, tm.getD 144 undef, tm.getD 145 undef, tm.getD 146 undef, tm.getD 147 undef, tm.getD 148 undef, tm.getD 149 undef, tm.getD 150 undef, tm.getD 151 undef, tm.getD 152 undef, tm.getD 153 undef, tm.getD 154 undef, tm.getD 155 undef, undef, undef, undef, undef, undef, undef, undef, undef, undef, undef, undef, undef, undef, undef, undef, undef, undef, undef, undef, undef, undef, undef, undef, undef, undef, undef, undef, undef, undef, undef, undef, undef, undef, undef, undef, undef, undef, undef, undef, undef, undef, undef, undef, undef, undef, undef, undef, undef, undef, undef, undef, undef, undef, undef, undef, undef, undef, undef, undef, undef, undef, undef, undef, undef, undef, undef, undef, undef]) (hi : i ≤ s.size) (he : es = 1 ∨ es = -1) (hf : Fed w0 w g (-1000) 1000 neg) : SetD g s w0 ⟨tm, []⟩ w := ⟨fun i => tm.getD i undef, i, neg, sd, es, congrArg (fun t => (⟨t, []⟩ : Act)) h, hi, he, hf⟩

set_option maxRecDepth 8000 in
set_option maxHeartbeats 16000000 in
theorem set_any {w : World} {g : Nat} {s : ByteArray} {cur : List Nat} {neg tr : Bool} (hs0 : 0 < s.size) (hs : s.size ≤ 1000) (hm : DM w g cur 0 0 neg tr) :
    Calls Tryz.prog 86 #[.pointer (some ⟨g, 0, none⟩), .string s] w (Sett g w) := by
  have he : ¬ s = ByteArray.empty := fun e => by rw [e] at hs0; exact absurd hs0 (by decide)
  have hcn := hm.c_neg
  have hct := hm.c_tr
  have hfn := hm.frozen 802
  have hft := hm.frozen 803
  have hmH := Lib.hid hm
  clear hm
  go_enter Tryz.func86, Tryz.ntmps86
  iterate 87 (first | go_skip | go_guarded | go_step | go_upon)
  refine wp_cut (c := Code.block 0 _) (M := SetA g s w) ?_ ?_
  · show Code.wp _ _ _ _ _
    have hm0 := (hmH.out.setG false).setT false
    have hmm := Lib.hid hm0
    have hc9 := hm0.c_neg
    have hf9 := hm0.frozen 802
    have hon : Only g w ((w.setCell ⟨g, 802, none⟩ (.bool false)).setCell ⟨g, 803, none⟩ (.bool false)) := (only_set _ _ _ _).trans (only_set _ _ _ _)
    have honH := Lib.hid hon
    have hok : SetOk cur 0 := ⟨by omega, fun i h1 h2 => by omega, fun h => by omega⟩
    clear hm0 hcn hct hfn hft hon
    generalize (w.setCell ⟨g, 802, none⟩ (.bool false)).setCell ⟨g, 803, none⟩ (.bool false) = w1 at *
    rcases Bool.eq_false_or_eq_true (((s[0]'hs0).toNat : Int) == 43) with c1 | c1
    · go_wp2_with fail
      exact SetA.of 1 false rfl (by omega) ⟨cur, 0, 0, false, hmm.out, hok, honH.out, by omega, by omega⟩
    rcases Bool.eq_false_or_eq_true (((s[0]'hs0).toNat : Int) == 45) with c2 | c2
    · go_wp2_with fail
      exact SetA.of 1 true rfl (by omega) ⟨cur, 0, 0, false, hmm.out.setG true, hok, honH.out.trans (only_set _ _ _ _), by omega, by omega⟩
    · go_wp2_with fail
      exact SetA.of 0 false rfl (by omega) ⟨cur, 0, 0, false, hmm.out, hok, honH.out, by omega, by omega⟩
  · clear hcn hct hfn hft hmH
    intro a1 w1 ⟨f, i, neg, ha, hi, hfed⟩
    subst ha
    have hfH := Lib.hid hfed
    clear hfed
    iterate 18 (first | go_skip | go_guarded | go_step | go_upon)
    refine wp_cut (c := Code.block 1 _) (M := SetB g s w) ?_ ?_
    · show Code.wp _ _ _ _ _
      go_step
      go_loopw [5, 6, 7] (fun i5 d6 g7 wr => ∃ (i : Nat) (sd sg : Bool), i5 = .int .i64 i ∧ d6 = .bool sd ∧ g7 = .bool sg ∧ Hid (i ≤ s.size) ∧ Hid (Fed w wr g (-(i : Int)) 800 neg)) (fun i5 _ _ _ => s.size - (intOf i5).toNat)
      case atStart => exact ⟨i, false, false, rfl, rfl, rfl, Lib.hid (by omega), Lib.hid (hfH.out.wide (by omega) (by omega))⟩
      case round =>
        clear hfH hi
        obtain ⟨i, sd, sg, rfl, rfl, rfl, hi, hfed⟩ := hrel
        have hi8 : (i : Int) ≤ 1000 := by have := hi.out; omega
        obtain ⟨cur, nd, dp, tr, h1, h2, h3, h4, h5⟩ := hfed.out
        have hmH := Lib.hid h1
        have hokH := Lib.hid h2
        have honH := Lib.hid h3
        have hdpH := Lib.hid (And.intro h4 h5)
        have hc0 := h1.c_nd
        have hc1 := h1.c_dp
        have hf0 := h1.frozen 800
        have hf1 := h1.frozen 801
        have hdp8 : -1000 ≤ dp ∧ dp ≤ 800 := by have := hi.out; omega
        have hnd8 : (nd : Int) ≤ 800 := by have := h2.1; omega
        clear hfed h1 h2 h3 h4 h5
        by_cases hlt : i < s.size
        · rcases Bool.eq_false_or_eq_true (((s[i]'hlt).toNat : Int) == 95) with u1 | u1
          · go_wp2_with fail
            refine ⟨⟨i + 1, sd, sg, by go_num, rfl, rfl, Lib.hid (by omega), Lib.hid ⟨cur, nd, dp, tr, hmH.out, hokH.out, honH.out, by have := hdpH.out; omega, hdpH.out.2⟩⟩, ?_⟩
            simp [intOf]; omega
          rcases Bool.eq_false_or_eq_true (((s[i]'hlt).toNat : Int) == 46) with u2 | u2
          · cases sd with
            | true =>
              go_wp2_with fail
              go_ret
              exact ⟨⟨_, rfl⟩, neg, cur, nd, dp, tr, hmH.out, hokH.out, honH.out, by omega, by omega⟩
            | false =>
              go_wp2_with fail
              refine ⟨⟨i + 1, true, sg, by go_num, rfl, rfl, Lib.hid (by omega), Lib.hid ⟨cur, nd, nd, tr, hmH.out.setP _, hokH.out, honH.out.trans (only_set _ _ _ _), by omega, by omega⟩⟩, ?_⟩
              simp [intOf]; omega
          by_cases u3 : (48 : Int) ≤ ((s[i]'hlt).toNat : Int)
          · by_cases u4 : ((s[i]'hlt).toNat : Int) ≤ 57
            · rcases Bool.eq_false_or_eq_true (((s[i]'hlt).toNat : Int) == 48) with u5 | u5
              · by_cases hn0 : nd = 0
                · subst hn0
                  go_wp2_with fail
                  refine ⟨⟨i + 1, sd, true, by go_num, rfl, rfl, Lib.hid (by omega), Lib.hid ⟨cur, 0, dp - 1, tr, hmH.out.setP _, hokH.out, honH.out.trans (only_set _ _ _ _), by have := hdpH.out; omega, by omega⟩⟩, ?_⟩
                  simp [intOf]; omega
                · have q0 : ((nd : Int) == 0) = false := beq_eq_false_iff_ne.2 (by omega)
                  by_cases hn8 : (nd : Int) < 800
                  · have hnn : nd < 800 := by omega
                    obtain ⟨b0, hb0, _⟩ := hmH.out.get hnn
                    have hcv := hmH.out.digit hb0
                    have hfv := hmH.out.frozen nd
                    have hz0 : nd = 0 → (s[i]'hlt).toNat ≠ 48 := by
                      intro e
                      first
                      | exact absurd e hn0
                      | (have := beq_eq_false_iff_ne.1 u5; omega)
                    have hokS := Lib.hid (hokH.out.snoc hmH.out.len hnn (b := (s[i]'hlt).toNat) (by omega) hz0)
                    have hmS := Lib.hid (((hmH.out.setD hnn (b := (s[i]'hlt).toNat) (by omega)).drew).setN (nd + 1))
                    have hbw : (((s[i]'hlt).toNat : Int)) < 256 := by omega
                    clear hb0 hz0
                    go_wp2_with fail
                    go_region
                    go_wp2_with fail
                    refine ⟨⟨i + 1, sd, true, by go_num, rfl, rfl, Lib.hid (by omega), Lib.hid ⟨_, nd + 1, dp, tr, hmS.out, hokS.out, ((honH.out.trans (only_set _ _ _ _)).drew).trans (only_set _ _ _ _), by have := hdpH.out; omega, hdpH.out.2⟩⟩, ?_⟩
                    simp [intOf]; omega
                  · have u6 : (((s[i]'hlt).toNat : Int) != 48) = false := by rw [bne_eq_false_iff_eq]; exact eq_of_beq u5
                    go_wp2_with fail
                    refine ⟨⟨i + 1, sd, true, by go_num, rfl, rfl, Lib.hid (by omega), Lib.hid ⟨cur, nd, dp, tr, hmH.out, hokH.out, honH.out, by have := hdpH.out; omega, hdpH.out.2⟩⟩, ?_⟩
                    simp [intOf]; omega
              · by_cases hn8 : (nd : Int) < 800
                · have hnn : nd < 800 := by omega
                  obtain ⟨b0, hb0, _⟩ := hmH.out.get hnn
                  have hcv := hmH.out.digit hb0
                  have hfv := hmH.out.frozen nd
                  have hz0 : nd = 0 → (s[i]'hlt).toNat ≠ 48 := by
                    intro e
                    first
                    | exact absurd e hn0
                    | (have := beq_eq_false_iff_ne.1 u5; omega)
                  have hokS := Lib.hid (hokH.out.snoc hmH.out.len hnn (b := (s[i]'hlt).toNat) (by omega) hz0)
                  have hmS := Lib.hid (((hmH.out.setD hnn (b := (s[i]'hlt).toNat) (by omega)).drew).setN (nd + 1))
                  have hbw : (((s[i]'hlt).toNat : Int)) < 256 := by omega
                  clear hb0 hz0
                  go_wp2_with fail
                  go_region
                  go_wp2_with fail
                  refine ⟨⟨i + 1, sd, true, by go_num, rfl, rfl, Lib.hid (by omega), Lib.hid ⟨_, nd + 1, dp, tr, hmS.out, hokS.out, ((honH.out.trans (only_set _ _ _ _)).drew).trans (only_set _ _ _ _), by have := hdpH.out; omega, hdpH.out.2⟩⟩, ?_⟩
                  simp [intOf]; omega
                · have u6 : (((s[i]'hlt).toNat : Int) != 48) = true := by rw [bne_iff_ne]; exact beq_eq_false_iff_ne.1 u5
                  have hc3 := hmH.out.c_tr
                  have hf3 := hmH.out.frozen 803
                  go_wp2_with fail
                  refine ⟨⟨i + 1, sd, true, by go_num, rfl, rfl, Lib.hid (by omega), Lib.hid ⟨cur, nd, dp, true, hmH.out.setT true, hokH.out, honH.out.trans (only_set _ _ _ _), by have := hdpH.out; omega, hdpH.out.2⟩⟩, ?_⟩
                  simp [intOf]; omega
            · go_wp2_with fail
              exact SetB.of i neg sd sg rfl (by omega) ⟨cur, nd, dp, tr, hmH.out, hokH.out, honH.out, by omega, by omega⟩
          · go_wp2_with fail
            exact SetB.of i neg sd sg rfl (by omega) ⟨cur, nd, dp, tr, hmH.out, hokH.out, honH.out, by omega, by omega⟩
        · go_wp2_with fail
          exact SetB.of i neg sd sg rfl hi.out ⟨cur, nd, dp, tr, hmH.out, hokH.out, honH.out, by omega, by omega⟩
    · clear hfH hi
      intro a1 wB ⟨f, i, neg, sd, sg, ha, hi, cur, nd, dp, tr, h1, h2, h3, h4, h5⟩
      subst ha
      have hmH := Lib.hid h1
      have hokH := Lib.hid h2
      have honH := Lib.hid h3
      have hi8 : (i : Int) ≤ 1000 := by omega
      have hnd8 : (nd : Int) ≤ 800 := by have := h2.1; omega
      cases sg with
      | false =>
        go_wp2_with fail
        go_ret
        exact ⟨⟨_, rfl⟩, neg, cur, nd, dp, tr, hmH.out, hokH.out, honH.out, by omega, by omega⟩
      | true =>
      have hc0 := h1.c_nd
      have hc1 := h1.c_dp
      have hf1 := h1.frozen 801
      clear h1 h2 h3
      iterate 29 (first | go_skip | go_guarded | go_step | go_upon)
      refine wp_cut (M := SetC g s w) ?_ ?_
      · show Code.wp _ _ _ _ _
        cases sd with
        | true =>
          go_wp2_with fail
          exact SetC.of i neg true rfl hi ⟨cur, nd, dp, tr, hmH.out, hokH.out, honH.out, by omega, by omega⟩
        | false =>
          go_wp2_with fail
          exact SetC.of i neg false rfl hi ⟨cur, nd, _, tr, hmH.out.setP _, hokH.out, honH.out.trans (only_set _ _ _ _), by omega, by omega⟩
      · clear hmH hokH honH hi hi8 hnd8 hc0 hc1 hf1 h4 h5
        intro a1 wC ⟨f, i, neg, sd, ha, hi, cur, nd, dp, tr, h1, h2, h3, h4, h5⟩
        subst ha
        have hmH := Lib.hid h1
        have hokH := Lib.hid h2
        have honH := Lib.hid h3
        have hi8 : (i : Int) ≤ 1000 := by omega
        have hnd8 : (nd : Int) ≤ 800 := by have := h2.1; omega
        clear h1 h2 h3
        by_cases hlt : i < s.size
        · have w5 : ((i : Int) != (s.size : Int)) = true := by rw [bne_iff_ne]; omega
          go_wp2_with fail
          refine (lower_any _ _).mono ?_
          rintro e w' ⟨rfl, r, rfl⟩
          rcases Bool.eq_false_or_eq_true (r == 101) with r1 | r1
          · by_cases x0 : i + 1 < s.size
            · have x0i : ((i : Int) + 1) < (s.size : Int) := by omega
              iterate 73 (first | go_values | go_skip | go_guarded | go_step | go_upon | (simp only [Int.not_lt, Int.not_le] at *; go_simp) | (go_ite <;> go_prune <;> (try go_simp)) | (split <;> (first | (rename_i hx; exact (hx _ rfl).elim) | go_prune)))
              refine wp_cut (c := Code.block 4 _) (M := SetD g s w) ?_ ?_
              · show Code.wp _ _ _ _ _
                rcases Bool.eq_false_or_eq_true (((s[i + 1]'x0).toNat : Int) == 43) with c1 | c1
                · go_wp2_with fail
                  exact SetD.of (i + 2) neg sd 1 rfl (by omega) (Or.inl rfl) ⟨cur, nd, dp, tr, hmH.out, hokH.out, honH.out, by omega, by omega⟩
                rcases Bool.eq_false_or_eq_true (((s[i + 1]'x0).toNat : Int) == 45) with c2 | c2
                · go_wp2_with fail
                  exact SetD.of (i + 2) neg sd (-1) rfl (by omega) (Or.inr rfl) ⟨cur, nd, dp, tr, hmH.out, hokH.out, honH.out, by omega, by omega⟩
                · go_wp2_with fail
                  exact SetD.of (i + 1) neg sd 1 rfl (by omega) (Or.inl rfl) ⟨cur, nd, dp, tr, hmH.out, hokH.out, honH.out, by omega, by omega⟩
              · clear hmH hokH honH hi hi8 hnd8 h4 h5 x0 x0i w5 r1 hlt
                intro a1 wB ⟨f, i, neg, sd, es, ha, hi, hes, cur, nd, dp, tr, h1, h2, h3, h4, h5⟩
                subst ha
                have hmH := Lib.hid h1
                have hokH := Lib.hid h2
                have honH := Lib.hid h3
                have hi8 : (i : Int) ≤ 1000 := by omega
                have hc1 := h1.c_dp
                have hf1 := h1.frozen 801
                clear h1 h2 h3
                by_cases x1 : i < s.size
                · by_cases y1 : (48 : Int) ≤ ((s[i]'x1).toNat : Int)
                  · by_cases y2 : ((s[i]'x1).toNat : Int) ≤ 57
                    · rcases hes with rfl | rfl
                      · go_wp2_with fail
                        go_loopw [5, 9] (fun i5 e9 wr => wB = wr ∧ ∃ (j : Nat) (E : Int), i5 = .int .i64 j ∧ e9 = .int .i64 E ∧ Hid (j ≤ s.size) ∧ 0 ≤ E ∧ E ≤ 99999) (fun i5 _ _ => s.size - (intOf i5).toNat)
                        case atStart => exact ⟨rfl, i, 0, by go_num, rfl, Lib.hid (by omega), by omega, by omega⟩
                        case round =>
                          obtain ⟨rfl, j, E, rfl, rfl, hj, hE0, hE1⟩ := hrel
                          have hj8 : (j : Int) ≤ 1000 := by have := hj.out; omega
                          by_cases hjl : j < s.size
                          · rcases Bool.eq_false_or_eq_true (((s[j]'hjl).toNat : Int) == 95) with v1 | v1
                            · have v2 : ¬ ((s[j]'hjl).toNat : Int) ≤ 57 := by have := eq_of_beq v1; omega
                              go_wp2_with fail
                              go_roundw
                              case rel => first | exact ⟨by trivial, j + 1, E, by go_num, rfl, Lib.hid (by omega), hE0, hE1⟩ | exact ⟨j + 1, by go_num, Lib.hid (by omega)⟩
                              case measure => simp [intOf]; omega
                            by_cases v2 : (48 : Int) ≤ ((s[j]'hjl).toNat : Int)
                            · by_cases v3 : ((s[j]'hjl).toNat : Int) ≤ 57
                              · by_cases v4 : E < 10000
                                · go_wp2_with fail
                                  go_roundw
                                  case rel => exact ⟨by trivial, j + 1, _, by go_num, rfl, Lib.hid (by omega), by omega, by omega⟩
                                  case measure => simp [intOf]; omega
                                · go_wp2_with fail
                                  go_roundw
                                  case rel => first | exact ⟨by trivial, j + 1, E, by go_num, rfl, Lib.hid (by omega), hE0, hE1⟩ | exact ⟨j + 1, by go_num, Lib.hid (by omega)⟩
                                  case measure => simp [intOf]; omega
                              · have v5 : ((j : Int) != (s.size : Int)) = true := by rw [bne_iff_ne]; omega
                                go_wp2_with fail
                                go_ret
                                exact ⟨⟨_, rfl⟩, neg, cur, nd, _, tr, hmH.out.setP _, hokH.out, honH.out.trans (only_set _ _ _ _), by omega, by omega⟩
                            · have v5 : ((j : Int) != (s.size : Int)) = true := by rw [bne_iff_ne]; omega
                              go_wp2_with fail
                              go_ret
                              exact ⟨⟨_, rfl⟩, neg, cur, nd, _, tr, hmH.out.setP _, hokH.out, honH.out.trans (only_set _ _ _ _), by omega, by omega⟩
                          · have v5 : ((j : Int) != (s.size : Int)) = false := by rw [bne_eq_false_iff_eq]; have := hj.out; omega
                            go_wp2_with fail
                            go_ret
                            exact ⟨⟨_, rfl⟩, neg, cur, nd, _, tr, hmH.out.setP _, hokH.out, honH.out.trans (only_set _ _ _ _), by omega, by omega⟩
                      · go_wp2_with fail
                        go_loopw [5, 9] (fun i5 e9 wr => wB = wr ∧ ∃ (j : Nat) (E : Int), i5 = .int .i64 j ∧ e9 = .int .i64 E ∧ Hid (j ≤ s.size) ∧ 0 ≤ E ∧ E ≤ 99999) (fun i5 _ _ => s.size - (intOf i5).toNat)
                        case atStart => exact ⟨rfl, i, 0, by go_num, rfl, Lib.hid (by omega), by omega, by omega⟩
                        case round =>
                          obtain ⟨rfl, j, E, rfl, rfl, hj, hE0, hE1⟩ := hrel
                          have hj8 : (j : Int) ≤ 1000 := by have := hj.out; omega
                          by_cases hjl : j < s.size
                          · rcases Bool.eq_false_or_eq_true (((s[j]'hjl).toNat : Int) == 95) with v1 | v1
                            · have v2 : ¬ ((s[j]'hjl).toNat : Int) ≤ 57 := by have := eq_of_beq v1; omega
                              go_wp2_with fail
                              go_roundw
                              case rel => first | exact ⟨by trivial, j + 1, E, by go_num, rfl, Lib.hid (by omega), hE0, hE1⟩ | exact ⟨j + 1, by go_num, Lib.hid (by omega)⟩
                              case measure => simp [intOf]; omega
                            by_cases v2 : (48 : Int) ≤ ((s[j]'hjl).toNat : Int)
                            · by_cases v3 : ((s[j]'hjl).toNat : Int) ≤ 57
                              · by_cases v4 : E < 10000
                                · go_wp2_with fail
                                  go_roundw
                                  case rel => exact ⟨by trivial, j + 1, _, by go_num, rfl, Lib.hid (by omega), by omega, by omega⟩
                                  case measure => simp [intOf]; omega
                                · go_wp2_with fail
                                  go_roundw
                                  case rel => first | exact ⟨by trivial, j + 1, E, by go_num, rfl, Lib.hid (by omega), hE0, hE1⟩ | exact ⟨j + 1, by go_num, Lib.hid (by omega)⟩
                                  case measure => simp [intOf]; omega
                              · have v5 : ((j : Int) != (s.size : Int)) = true := by rw [bne_iff_ne]; omega
                                go_wp2_with fail
                                go_ret
                                exact ⟨⟨_, rfl⟩, neg, cur, nd, _, tr, hmH.out.setP _, hokH.out, honH.out.trans (only_set _ _ _ _), by omega, by omega⟩
                            · have v5 : ((j : Int) != (s.size : Int)) = true := by rw [bne_iff_ne]; omega
                              go_wp2_with fail
                              go_ret
                              exact ⟨⟨_, rfl⟩, neg, cur, nd, _, tr, hmH.out.setP _, hokH.out, honH.out.trans (only_set _ _ _ _), by omega, by omega⟩
                          · have v5 : ((j : Int) != (s.size : Int)) = false := by rw [bne_eq_false_iff_eq]; have := hj.out; omega
                            go_wp2_with fail
                            go_ret
                            exact ⟨⟨_, rfl⟩, neg, cur, nd, _, tr, hmH.out.setP _, hokH.out, honH.out.trans (only_set _ _ _ _), by omega, by omega⟩
                    · go_wp2_with fail
                      go_ret
                      exact ⟨⟨_, rfl⟩, neg, cur, nd, dp, tr, hmH.out, hokH.out, honH.out, by omega, by omega⟩
                  · go_wp2_with fail
                    go_ret
                    exact ⟨⟨_, rfl⟩, neg, cur, nd, dp, tr, hmH.out, hokH.out, honH.out, by omega, by omega⟩
                · go_wp2_with fail
                  go_ret
                  exact ⟨⟨_, rfl⟩, neg, cur, nd, dp, tr, hmH.out, hokH.out, honH.out, by omega, by omega⟩
            · have x0i : ¬ ((i : Int) + 1) < (s.size : Int) := by omega
              go_wp2_with fail
              go_ret
              exact ⟨⟨_, rfl⟩, neg, cur, nd, dp, tr, hmH.out, hokH.out, honH.out, by omega, by omega⟩
          · go_wp2_with fail
            go_ret
            exact ⟨⟨_, rfl⟩, neg, cur, nd, dp, tr, hmH.out, hokH.out, honH.out, by omega, by omega⟩
        · have w5 : ((i : Int) != (s.size : Int)) = false := by rw [bne_eq_false_iff_eq]; omega
          go_wp2_with fail
          go_ret
          exact ⟨⟨_, rfl⟩, neg, cur, nd, dp, tr, hmH.out, hokH.out, honH.out, by omega, by omega⟩
end Go.Proofs.YthagnngckegekaaGreatDoor
