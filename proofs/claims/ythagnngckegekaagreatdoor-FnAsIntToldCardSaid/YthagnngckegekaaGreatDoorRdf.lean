/-
  readFloat returns. Conditions: none.
-/
import Derived.Test.YthagnngckegekaaGreatDoorUnd
import Derived.Test.YthagnngckegekaaGreatDoorPf2
namespace Go.Proofs.YthagnngckegekaaGreatDoor
open Go.ChangeShapes Go.WideShapes Go.ChangeAt Go.RowKit
set_option linter.unusedVariables false
set_option linter.unusedSimpArgs false

def rdB (hx : Bool) : Int := if hx then 16 else 10
def rdM (hx : Bool) : Int := if hx then 16 else 19
def lowF (z : Int) : Int := bits .or .u8 z 32
theorem lower_fn (z : Int) (w : World) : Calls Tryz.prog 65 #[.int .u8 z] w (fun e w' => w = w' ∧ e = .returned (.int .u8 (lowF z))) := by
  go_enter Tryz.func65, Tryz.ntmps65
  go_wp2
  all_goals (go_ret; exact ⟨rfl, rfl⟩)

def RdA (s : ByteArray) (w0 : World) (a : Act) (w : World) : Prop := ∃ (f : Nat → Value) (i : Nat) (neg : Bool), a = ⟨#[.string s, undef, .int .u64 0, .int .i64 0, .bool neg, .bool false, .bool false, .int .i64 (i : Int), .bool false, .bool false, undef, undef, undef, undef, undef, undef, undef, undef, undef, undef, undef, f 21, f 22, f 23, f 24, f 25, f 26, f 27, f 28, f 29, f 30, f 31, f 32, f 33, f 34, f 35, undef, undef, undef, undef, undef, undef, undef, undef, undef, undef, undef, undef, undef, undef, undef, undef, undef, undef, undef, undef, undef, undef, undef, undef, undef, undef, undef, undef, undef, undef, undef, undef, undef, undef, undef, undef, undef, undef, undef, undef, undef, undef, undef, undef, undef, undef, undef, undef, undef, undef, undef, undef, undef, undef, undef, undef, undef, undef, undef, undef, undef, undef, undef, undef, undef, undef, undef, undef, undef, undef, undef, undef, undef, undef, undef, undef, undef, undef, undef, undef, undef, undef, undef, undef, undef, undef, undef, undef, undef, undef, undef, undef, undef, undef, undef, undef, undef, undef, undef, undef, undef, undef, undef, undef, undef, undef, undef, undef, undef, undef, undef, undef, undef, undef, undef, undef, undef, undef, undef, undef, undef, undef, undef, undef, undef, undef, undef, undef, undef, undef, undef, undef, undef, undef, undef, undef, undef, undef, undef, undef, undef, undef, undef, undef, undef, undef, undef, undef, undef, undef, undef, undef, undef, undef, undef, undef, undef, undef, undef, undef, undef, undef, undef, undef, undef, undef, undef, undef, undef, undef, undef, undef, undef, undef, undef, undef, undef, undef, undef, undef, undef, undef, undef, undef, undef, undef, undef, undef, undef, undef, undef, undef, undef, undef, undef, undef, undef, undef, undef, undef, undef, undef, undef, undef, undef, undef, undef, undef, undef, undef, undef, undef, undef, undef, undef, undef, undef], []⟩ ∧ i ≤ 1 ∧ i ≤ s.size ∧ w0 = w
theorem RdA.of {s : ByteArray} {w : World} {tm : Array Value} (i : Nat) (neg : Bool) (h : tm = #[.string s, undef, .int .u64 0, .int .i64 0, .bool neg, .bool false, .bool false, .int .i64 (i : Int), .bool false, .bool false, undef, undef, undef, undef, undef, undef, undef, undef, undef, undef, undef, tm.getD 21 undef, tm.getD 22 undef, tm.getD 23 undef, tm.getD 24 undef, tm.getD 25 undef, tm.getD 26 undef, tm.getD 27 undef, tm.getD 28 undef, tm.getD 29 undef, tm.getD 30 undef, tm.getD 31 undef, tm.getD 32 undef, tm.getD 33 undef, tm.getD 34 undef, tm.getD 35 undef, undef, undef, undef, undef, undef, undef, undef, undef, undef, undef, undef, undef, undef, undef, undef, undef, undef, undef, undef, undef, undef, undef, undef, undef, undef, undef, undef, undef, undef, undef, undef, undef, undef, undef, undef, undef, undef, undef, undef, undef, undef, undef, undef, undef, undef, undef, undef, undef, undef, undef, undef, undef, undef, undef, undef, undef, undef, undef, undef, undef, undef, undef, undef, undef, undef, undef, undef, undef, undef, undef, undef, undef, undef, undef, undef, undef, undef, undef, undef, undef, undef, undef, undef, undef, undef, undef, undef, undef, undef, undef, undef, undef, undef, undef, undef, undef, undef, undef, undef, undef, undef, undef, undef, undef, undef, undef, undef, undef, undef, undef, undef, undef, undef, undef, undef, undef, undef, undef, undef, undef, undef, undef, undef, undef, undef, undef, undef, undef, undef, undef, undef, undef, undef, undef, undef, undef, undef, undef, undef, undef, undef, undef, undef, undef, undef, undef, undef, undef, undef, undef, undef, undef, undef, undef, undef, undef, undef, undef, undef, undef, undef, undef, undef, undef, undef, undef, undef, undef, undef, undef, undef, undef, undef, undef, undef, undef, undef, undef, undef, undef, undef, undef, undef, undef, undef, undef, undef, undef, undef, undef, undef, undef, undef, undef, undef, undef, undef, undef, undef, undef, undef, undef, undef, undef, undef, undef, undef, undef, undef, undef, undef, undef, undef, undef, undef, undef, undef]) (hc : i ≤ 1 ∧ i ≤ s.size) : RdA s w ⟨tm, []⟩ w := ⟨fun i => tm.getD i undef, i, neg, congrArg (fun t => (⟨t, []⟩ : Act)) h, hc.1, hc.2, rfl⟩
def RdB (s : ByteArray) (w0 : World) (a : Act) (w : World) : Prop := ∃ (f : Nat → Value) (i : Nat) (neg : Bool) (hx : Bool) (C : Int), a = ⟨#[.string s, undef, .int .u64 0, .int .i64 0, .bool neg, .bool false, .bool hx, .int .i64 (i : Int), .bool false, .bool false, .int .u64 (rdB hx), .int .i64 (rdM hx), .int .u8 C, undef, undef, undef, undef, undef, undef, undef, undef, f 21, f 22, f 23, f 24, f 25, f 26, f 27, f 28, f 29, f 30, f 31, f 32, f 33, f 34, f 35, f 36, f 37, f 38, f 39, f 40, f 41, f 42, f 43, f 44, f 45, f 46, f 47, f 48, f 49, f 50, f 51, f 52, f 53, f 54, f 55, f 56, undef, undef, undef, undef, undef, undef, undef, undef, undef, undef, undef, undef, undef, undef, undef, undef, undef, undef, undef, undef, undef, undef, undef, undef, undef, undef, undef, undef, undef, undef, undef, undef, undef, undef, undef, undef, undef, undef, undef, undef, undef, undef, undef, undef, undef, undef, undef, undef, undef, undef, undef, undef, undef, undef, undef, undef, undef, undef, undef, undef, undef, undef, undef, undef, undef, undef, undef, undef, undef, undef, undef, undef, undef, undef, undef, undef, undef, undef, undef, undef, undef, undef, undef, undef, undef, undef, undef, undef, undef, undef, undef, undef, undef, undef, undef, undef, undef, undef, undef, undef, undef, undef, undef, undef, undef, undef, undef, undef, undef, undef, undef, undef, undef, undef, undef, undef, undef, undef, undef, undef, undef, undef, undef, undef, undef, undef, undef, undef, undef, undef, undef, undef, undef, undef, undef, undef, undef, undef, undef, undef, undef, undef, undef, undef, undef, undef, undef, undef, undef, undef, undef, undef, undef, undef, undef, undef, undef, undef, undef, undef, undef, undef, undef, undef, undef, undef, undef, undef, undef, undef, undef, undef, undef, undef, undef, undef, undef, undef, undef, undef, undef, undef, undef, undef, undef, undef, undef, undef, undef, undef, undef, undef, undef, undef, undef, undef], []⟩ ∧ i ≤ 3 ∧ i ≤ s.size ∧ w0 = w
theorem RdB.of {s : ByteArray} {w : World} {tm : Array Value} (i : Nat) (neg : Bool) (hx : Bool) (C : Int) (h : tm = #[.string s, undef, .int .u64 0, .int .i64 0, .bool neg, .bool false, .bool hx, .int .i64 (i : Int), .bool false, .bool false, .int .u64 (rdB hx), .int .i64 (rdM hx), .int .u8 C, undef, undef, undef, undef, undef, undef, undef, undef, tm.getD 21 undef, tm.getD 22 undef, tm.getD 23 undef, tm.getD 24 undef, tm.getD 25 undef, tm.getD 26 undef, tm.getD 27 undef, tm.getD 28 undef, tm.getD 29 undef, tm.getD 30 undef, tm.getD 31 undef, tm.getD 32 undef, tm.getD 33 undef, tm.getD 34 undef, tm.getD 35 undef, tm.getD 36 undef, tm.getD 37 undef, tm.getD 38 undef, tm.getD 39 undef, tm.getD 40 undef, tm.getD 41 undef, tm.getD 42 undef, tm.getD 43 undef, tm.getD 44 undef, tm.getD 45 undef, tm.getD 46 undef, tm.getD 47 undef, tm.getD 48 undef, tm.getD 49 undef, tm.getD 50 undef, tm.getD 51 undef, tm.getD 52 undef, tm.getD 53 undef, tm.getD 54 undef, tm.getD 55 undef, tm.getD 56 undef, undef, undef, undef, undef, undef, undef, undef, undef, undef, undef, undef, undef, undef, undef, undef, undef, undef, undef, undef, undef, undef, undef, undef, undef, undef, undef, undef, undef, undef, undef, undef, undef, undef, undef, undef, undef, undef, undef, undef, undef, undef, undef, undef, undef, undef, undef, undef, undef, undef, undef, undef, undef, undef, undef, undef, undef, undef, undef, undef, undef, undef, undef, undef, undef, undef, undef, undef, undef, undef, undef, undef, undef, undef, undef, undef, undef, undef, undef, undef, undef, undef, undef, undef, undef, undef, undef, undef, undef, undef, undef, undef, undef, undef, undef, undef, undef, undef, undef, undef, undef, undef, undef, undef, undef, undef, undef, undef, undef, undef, undef, undef, undef, undef, undef, undef, undef, undef, undef, undef, undef, undef, undef, undef, undef, undef, undef, undef, undef, undef, undef, undef, undef, undef, undef, undef, undef, undef, undef, undef, undef, undef, undef, undef, undef, undef, undef, undef, undef, undef, undef, undef, undef, undef, undef, undef, undef, undef, undef, undef, undef, undef, undef, undef, undef, undef, undef, undef, undef, undef, undef, undef, undef, undef, undef, undef, undef, undef, undef, undef, undef, undef, undef, undef, undef, undef, undef, undef, undef, undef, undef, undef, undef, undef, undef, undef, undef]) (hc : i ≤ 3 ∧ i ≤ s.size) : RdB s w ⟨tm, []⟩ w := ⟨fun i => tm.getD i undef, i, neg, hx, C, congrArg (fun t => (⟨t, []⟩ : Act)) h, hc.1, hc.2, rfl⟩
def RdC (s : ByteArray) (w0 : World) (a : Act) (w : World) : Prop := ∃ (f : Nat → Value) (i : Nat) (neg : Bool) (hx : Bool) (C : Int) (tr : Bool) (us : Bool) (sd : Bool) (sg : Bool) (m : Nat) (nd : Nat) (q : Nat) (dp : Int), a = ⟨#[.string s, undef, .int .u64 (m : Int), .int .i64 0, .bool neg, .bool tr, .bool hx, .int .i64 (i : Int), .bool false, .bool us, .int .u64 (rdB hx), .int .i64 (rdM hx), .int .u8 C, .bool sd, .bool sg, .int .i64 (nd : Int), .int .i64 (q : Int), .int .i64 dp, f 18, undef, undef, f 21, f 22, f 23, f 24, f 25, f 26, f 27, f 28, f 29, f 30, f 31, f 32, f 33, f 34, f 35, f 36, f 37, f 38, f 39, f 40, f 41, f 42, f 43, f 44, f 45, f 46, f 47, f 48, f 49, f 50, f 51, f 52, f 53, f 54, f 55, f 56, f 57, f 58, f 59, f 60, f 61, f 62, f 63, f 64, f 65, f 66, f 67, f 68, f 69, f 70, f 71, f 72, f 73, f 74, f 75, f 76, f 77, f 78, f 79, f 80, f 81, f 82, f 83, f 84, f 85, f 86, f 87, f 88, f 89, f 90, f 91, f 92, f 93, f 94, f 95, f 96, f 97, f 98, f 99, f 100, f 101, f 102, f 103, f 104, f 105, f 106, f 107, f 108, f 109, f 110, f 111, f 112, f 113, f 114, f 115, f 116, f 117, f 118, f 119, f 120, f 121, f 122, f 123, f 124, f 125, f 126, f 127, f 128, f 129, f 130, f 131, f 132, f 133, f 134, f 135, f 136, f 137, f 138, undef, undef, undef, undef, undef, undef, undef, undef, undef, undef, undef, undef, undef, undef, undef, undef, undef, undef, undef, undef, undef, undef, undef, undef, undef, undef, undef, undef, undef, undef, undef, undef, undef, undef, undef, undef, undef, undef, undef, undef, undef, undef, undef, undef, undef, undef, undef, undef, undef, undef, undef, undef, undef, undef, undef, undef, undef, undef, undef, undef, undef, undef, undef, undef, undef, undef, undef, undef, undef, undef, undef, undef, undef, undef, undef, undef, undef, undef, undef, undef, undef, undef, undef, undef, undef, undef, undef, undef, undef, undef, undef, undef, undef, undef, undef, undef, undef, undef, undef, undef, undef, undef, undef, undef, undef, undef, undef, undef, undef, undef, undef, undef, undef, undef], []⟩ ∧ i ≤ s.size ∧ m < (if hx then 16 else 10) ^ q ∧ q ≤ (if hx then 16 else 19) ∧ nd ≤ 2000 ∧ -2000 ≤ dp ∧ dp ≤ 2000 ∧ (sg = true → 1 ≤ i) ∧ w0 = w
theorem RdC.of {s : ByteArray} {w : World} {tm : Array Value} (i : Nat) (neg : Bool) (hx : Bool) (C : Int) (tr : Bool) (us : Bool) (sd : Bool) (sg : Bool) (m : Nat) (nd : Nat) (q : Nat) (dp : Int) (h : tm = #[.string s, undef, .int .u64 (m : Int), .int .i64 0, .bool neg, .bool tr, .bool hx, .int .i64 (i : Int), .bool false, .bool us, .int .u64 (rdB hx), .int .i64 (rdM hx), .int .u8 C, .bool sd, .bool sg, .int .i64 (nd : Int), .int .i64 (q : Int), .int .i64 dp, tm.getD 18 undef, undef, undef, tm.getD 21 undef, tm.getD 22 undef, tm.getD 23 undef, tm.getD 24 undef, tm.getD 25 undef, tm.getD 26 undef, tm.getD 27 undef, tm.getD 28 undef, tm.getD 29 undef, tm.getD 30 undef, tm.getD 31 undef, tm.getD 32 undef, tm.getD 33 undef, tm.getD 34 undef, tm.getD 35 undef, tm.getD 36 undef, tm.getD 37 undef, tm.getD 38 undef, tm.getD 39 undef, tm.getD 40 undef, tm.getD 41 undef, tm.getD 42 undef, tm.getD 43 undef, tm.getD 44 undef, tm.getD 45 undef, tm.getD 46 undef, tm.getD 47 undef, tm.getD 48 undef, tm.getD 49 undef, tm.getD 50 undef, tm.getD 51 undef, tm.getD 52 undef, tm.getD 53 undef, tm.getD 54 undef, tm.getD 55 undef, tm.getD 56 undef, tm.getD 57 undef, tm.getD 58 undef, tm.getD 59 undef, tm.getD 60 undef, tm.getD 61 undef, tm.getD 62 undef, tm.getD 63 undef, tm.getD 64 undef, tm.getD 65 undef, tm.getD 66 undef, tm.getD 67 undef, tm.getD 68 undef, tm.getD 69 undef, tm.getD 70 undef, tm.getD 71 undef, tm.getD 72 undef, tm.getD 73 undef, tm.getD 74 undef, tm.getD 75 undef, tm.getD 76 undef, tm.getD 77 undef, tm.getD 78 undef, tm.getD 79 undef, tm.getD 80 undef, tm.getD 81 undef, tm.getD 82 undef, tm.getD 83 undef, tm.getD 84 undef, tm.getD 85 undef, tm.getD 86 undef, tm.getD 87 undef, tm.getD 88 undef, tm.getD 89 undef, tm.getD 90 undef, tm.getD 91 undef, tm.getD 92 undef, tm.getD 93 undef, tm.getD 94 undef, tm.getD 95 undef, tm.getD 96 undef, tm.getD 97 undef, tm.getD 98 undef, tm.getD 99 undef, tm.getD 100 undef, tm.getD 101 undef, tm.getD 102 undef, tm.getD 103 undef, tm.getD 104 undef, tm.getD 105 undef, tm.getD 106 undef, tm.getD 107 undef, tm.getD 108 undef, tm.getD 109 undef, tm.getD 110 undef, tm.getD 111 undef, tm.getD 112 undef, tm.getD 113 undef, tm.getD 114 undef, tm.getD 115 undef, tm.getD 116 undef, tm.getD 117 undef, tm.getD 118 undef, tm.getD 119 undef, tm.getD 120 undef, tm.getD 121 undef, tm.getD 122 undef, tm.getD 123 undef, tm.getD 124 undef, tm.getD 125 undef, tm.getD 126 undef, tm.getD 127 undef, tm.getD 128 undef, tm.getD 129 undef, tm.getD 130 undef, tm.getD 131 undef, tm.getD 132 undef, tm.getD 133 undef, tm.getD 134 undef, tm.getD 135 undef, tm.getD 136 undef, tm.getD 137 undef, tm.getD 138 undef, undef, undef, undef, undef, undef, undef, undef, undef, undef, undef, undef, undef, undef, undef, undef, undef, undef, undef, undef, undef, undef, undef, undef, undef, undef, undef, undef, undef, undef, undef, undef, undef, undef, undef, undef, undef, undef, undef, undef, undef, undef, undef, undef, undef, undef, undef, undef, undef, undef, undef, undef, undef, undef, undef, undef, undef, undef, undef, undef, undef, undef, undef, undef, undef, undef, undef, undef, undef, undef, undef, undef, undef, undef, undef, undef, undef, undef, undef, undef, undef, undef, undef, undef, undef, undef, undef, undef, undef, undef, undef, undef, undef, undef, undef, undef, undef, undef, undef, undef, undef, undef, undef, undef, undef, undef, undef, undef, undef, undef, undef, undef, undef, undef, undef]) (hc : i ≤ s.size ∧ m < (if hx then 16 else 10) ^ q ∧ q ≤ (if hx then 16 else 19) ∧ nd ≤ 2000 ∧ -2000 ≤ dp ∧ dp ≤ 2000 ∧ (sg = true → 1 ≤ i)) : RdC s w ⟨tm, []⟩ w := ⟨fun i => tm.getD i undef, i, neg, hx, C, tr, us, sd, sg, m, nd, q, dp, congrArg (fun t => (⟨t, []⟩ : Act)) h, hc.1, hc.2.1, hc.2.2.1, hc.2.2.2.1, hc.2.2.2.2.1, hc.2.2.2.2.2.1, hc.2.2.2.2.2.2, rfl⟩
def RdD (s : ByteArray) (w0 : World) (a : Act) (w : World) : Prop := ∃ (f : Nat → Value) (i : Nat) (neg : Bool) (hx : Bool) (C : Int) (tr : Bool) (us : Bool) (sd : Bool) (m : Nat) (nd : Nat) (q : Nat) (dp : Int), a = ⟨#[.string s, undef, .int .u64 (m : Int), .int .i64 0, .bool neg, .bool tr, .bool hx, .int .i64 (i : Int), .bool false, .bool us, .int .u64 (rdB hx), .int .i64 (rdM hx), .int .u8 C, .bool sd, .bool true, .int .i64 (nd : Int), .int .i64 (q : Int), .int .i64 dp, f 18, undef, undef, f 21, f 22, f 23, f 24, f 25, f 26, f 27, f 28, f 29, f 30, f 31, f 32, f 33, f 34, f 35, f 36, f 37, f 38, f 39, f 40, f 41, f 42, f 43, f 44, f 45, f 46, f 47, f 48, f 49, f 50, f 51, f 52, f 53, f 54, f 55, f 56, f 57, f 58, f 59, f 60, f 61, f 62, f 63, f 64, f 65, f 66, f 67, f 68, f 69, f 70, f 71, f 72, f 73, f 74, f 75, f 76, f 77, f 78, f 79, f 80, f 81, f 82, f 83, f 84, f 85, f 86, f 87, f 88, f 89, f 90, f 91, f 92, f 93, f 94, f 95, f 96, f 97, f 98, f 99, f 100, f 101, f 102, f 103, f 104, f 105, f 106, f 107, f 108, f 109, f 110, f 111, f 112, f 113, f 114, f 115, f 116, f 117, f 118, f 119, f 120, f 121, f 122, f 123, f 124, f 125, f 126, f 127, f 128, f 129, f 130, f 131, f 132, f 133, f 134, f 135, f 136, f 137, f 138, f 139, f 140, f 141, f 142, f 143, undef, undef, undef, undef, undef, undef, undef, undef, undef, undef, undef, undef, undef, undef, undef, undef, undef, undef, undef, undef, undef, undef, undef, undef, undef, undef, undef, undef, undef, undef, undef, undef, undef, undef, undef, undef, undef, undef, undef, undef, undef, undef, undef, undef, undef, undef, undef, undef, undef, undef, undef, undef, undef, undef, undef, undef, undef, undef, undef, undef, undef, undef, undef, undef, undef, undef, undef, undef, undef, undef, undef, undef, undef, undef, undef, undef, undef, undef, undef, undef, undef, undef, undef, undef, undef, undef, undef, undef, undef, undef, undef, undef, undef, undef, undef, undef, undef, undef, undef, undef, undef, undef, undef, undef, undef, undef, undef, undef, undef], []⟩ ∧ i ≤ s.size ∧ m < (if hx then 16 else 10) ^ q ∧ q ≤ (if hx then 16 else 19) ∧ nd ≤ 2000 ∧ -2000 ≤ dp ∧ dp ≤ 2000 ∧ 1 ≤ i ∧ w0 = w
theorem RdD.of {s : ByteArray} {w : World} {tm : Array Value} (i : Nat) (neg : Bool) (hx : Bool) (C : Int) (tr : Bool) (us : Bool) (sd : Bool) (m : Nat) (nd : Nat) (q : Nat) (dp : Int) (h : tm = #[.string s, undef, .int .u64 (m : Int), .int .i64 0, .bool neg, .bool tr, .bool hx, .int .i64 (i : Int), .bool false, .bool us, .int .u64 (rdB hx), .int .i64 (rdM hx), .int .u8 C, .bool sd, .bool true, .int .i64 (nd : Int), .int .i64 (q : Int), .int .i64 dp, tm.getD 18 undef, undef, undef, tm.getD 21 undef, tm.getD 22 undef, tm.getD 23 undef, tm.getD 24 undef, tm.getD 25 undef, tm.getD 26 undef, tm.getD 27 undef, tm.getD 28 undef, tm.getD 29 undef, tm.getD 30 undef, tm.getD 31 undef, tm.getD 32 undef, tm.getD 33 undef, tm.getD 34 undef, tm.getD 35 undef, tm.getD 36 undef, tm.getD 37 undef, tm.getD 38 undef, tm.getD 39 undef, tm.getD 40 undef, tm.getD 41 undef, tm.getD 42 undef, tm.getD 43 undef, tm.getD 44 undef, tm.getD 45 undef, tm.getD 46 undef, tm.getD 47 undef, tm.getD 48 undef, tm.getD 49 undef, tm.getD 50 undef, tm.getD 51 undef, tm.getD 52 undef, tm.getD 53 undef, tm.getD 54 undef, tm.getD 55 undef, tm.getD 56 undef, tm.getD 57 undef, tm.getD 58 undef, tm.getD 59 undef, tm.getD 60 undef, tm.getD 61 undef, tm.getD 62 undef, tm.getD 63 undef, tm.getD 64 undef, tm.getD 65 undef, tm.getD 66 undef, tm.getD 67 undef, tm.getD 68 undef, tm.getD 69 undef, tm.getD 70 undef, tm.getD 71 undef, tm.getD 72 undef, tm.getD 73 undef, tm.getD 74 undef, tm.getD 75 undef, tm.getD 76 undef, tm.getD 77 undef, tm.getD 78 undef, tm.getD 79 undef, tm.getD 80 undef, tm.getD 81 undef, tm.getD 82 undef, tm.getD 83 undef, tm.getD 84 undef, tm.getD 85 undef, tm.getD 86 undef, tm.getD 87 undef, tm.getD 88 undef, tm.getD 89 undef, tm.getD 90 undef, tm.getD 91 undef, tm.getD 92 undef, tm.getD 93 undef, tm.getD 94 undef, tm.getD 95 undef, tm.getD 96 undef, tm.getD 97 undef, tm.getD 98 undef, tm.getD 99 undef, tm.getD 100 undef, tm.getD 101 undef, tm.getD 102 undef, tm.getD 103 undef, tm.getD 104 undef, tm.getD 105 undef, tm.getD 106 undef, tm.getD 107 undef, tm.getD 108 undef, tm.getD 109 undef, tm.getD 110 undef, tm.getD 111 undef, tm.getD 112 undef, tm.getD 113 undef, tm.getD 114 undef, tm.getD 115 undef, tm.getD 116 undef, tm.getD 117 undef, tm.getD 118 undef, tm.getD 119 undef, tm.getD 120 undef, tm.getD 121 undef, tm.getD 122 undef, tm.getD 123 undef, tm.getD 124 undef, tm.getD 125 undef, tm.getD 126 undef, tm.getD 127 undef, tm.getD 128 undef, tm.getD 129 undef, tm.getD 130 undef, tm.getD 131 undef, tm.getD 132 undef, tm.getD 133 undef, tm.getD 134 undef, tm.getD 135 undef, tm.getD 136 undef, tm.getD 137 undef, tm.getD 138 undef, tm.getD 139 undef, tm.getD 140 undef, tm.getD 141 undef, tm.getD 142 undef, tm.getD 143 undef, undef, undef, undef, undef, undef, undef, undef, undef, undef, undef, undef, undef, undef, undef, undef, undef, undef, undef, undef, undef, undef, undef, undef, undef, undef, undef, undef, undef, undef, undef, undef, undef, undef, undef, undef, undef, undef, undef, undef, undef, undef, undef, undef, undef, undef, undef, undef, undef, undef, undef, undef, undef, undef, undef, undef, undef, undef, undef, undef, undef, undef, undef, undef, undef, undef, undef, undef, undef, undef, undef, undef, undef, undef, undef, undef, undef, undef, undef, undef, undef, undef, undef, undef, undef, undef, undef, undef, undef, undef, undef, undef, undef, undef, undef, undef, undef, undef, undef, undef, undef, undef, undef, undef, undef, undef, undef, undef, undef, undef]) (hc : i ≤ s.size ∧ m < (if hx then 16 else 10) ^ q ∧ q ≤ (if hx then 16 else 19) ∧ nd ≤ 2000 ∧ -2000 ≤ dp ∧ dp ≤ 2000 ∧ 1 ≤ i) : RdD s w ⟨tm, []⟩ w := ⟨fun i => tm.getD i undef, i, neg, hx, C, tr, us, sd, m, nd, q, dp, congrArg (fun t => (⟨t, []⟩ : Act)) h, hc.1, hc.2.1, hc.2.2.1, hc.2.2.2.1, hc.2.2.2.2.1, hc.2.2.2.2.2.1, hc.2.2.2.2.2.2, rfl⟩
def RdE (s : ByteArray) (w0 : World) (a : Act) (w : World) : Prop := ∃ (f : Nat → Value) (i : Nat) (neg : Bool) (hx : Bool) (C : Int) (tr : Bool) (us : Bool) (sd : Bool) (m : Nat) (nd : Nat) (dp : Int) (q : Nat) (qq : Int), a = ⟨#[.string s, undef, .int .u64 (m : Int), .int .i64 0, .bool neg, .bool tr, .bool hx, .int .i64 (i : Int), .bool false, .bool us, .int .u64 (rdB hx), .int .i64 (rdM hx), .int .u8 C, .bool sd, .bool true, .int .i64 (nd : Int), .int .i64 qq, .int .i64 dp, f 18, undef, undef, f 21, f 22, f 23, f 24, f 25, f 26, f 27, f 28, f 29, f 30, f 31, f 32, f 33, f 34, f 35, f 36, f 37, f 38, f 39, f 40, f 41, f 42, f 43, f 44, f 45, f 46, f 47, f 48, f 49, f 50, f 51, f 52, f 53, f 54, f 55, f 56, f 57, f 58, f 59, f 60, f 61, f 62, f 63, f 64, f 65, f 66, f 67, f 68, f 69, f 70, f 71, f 72, f 73, f 74, f 75, f 76, f 77, f 78, f 79, f 80, f 81, f 82, f 83, f 84, f 85, f 86, f 87, f 88, f 89, f 90, f 91, f 92, f 93, f 94, f 95, f 96, f 97, f 98, f 99, f 100, f 101, f 102, f 103, f 104, f 105, f 106, f 107, f 108, f 109, f 110, f 111, f 112, f 113, f 114, f 115, f 116, f 117, f 118, f 119, f 120, f 121, f 122, f 123, f 124, f 125, f 126, f 127, f 128, f 129, f 130, f 131, f 132, f 133, f 134, f 135, f 136, f 137, f 138, f 139, f 140, f 141, f 142, f 143, f 144, f 145, f 146, f 147, f 148, f 149, undef, undef, undef, undef, undef, undef, undef, undef, undef, undef, undef, undef, undef, undef, undef, undef, undef, undef, undef, undef, undef, undef, undef, undef, undef, undef, undef, undef, undef, undef, undef, undef, undef, undef, undef, undef, undef, undef, undef, undef, undef, undef, undef, undef, undef, undef, undef, undef, undef, undef, undef, undef, undef, undef, undef, undef, undef, undef, undef, undef, undef, undef, undef, undef, undef, undef, undef, undef, undef, undef, undef, undef, undef, undef, undef, undef, undef, undef, undef, undef, undef, undef, undef, undef, undef, undef, undef, undef, undef, undef, undef, undef, undef, undef, undef, undef, undef, undef, undef, undef, undef, undef, undef], []⟩ ∧ i ≤ s.size ∧ m < (if hx then 16 else 10) ^ q ∧ q ≤ (if hx then 16 else 19) ∧ nd ≤ 2000 ∧ -10000 ≤ dp ∧ dp ≤ 10000 ∧ 1 ≤ i ∧ -1000 ≤ qq ∧ qq ≤ 1000 ∧ w0 = w
theorem RdE.of {s : ByteArray} {w : World} {tm : Array Value} (i : Nat) (neg : Bool) (hx : Bool) (C : Int) (tr : Bool) (us : Bool) (sd : Bool) (m : Nat) (nd : Nat) (dp : Int) (q : Nat) (qq : Int) (h : tm = #[.string s, undef, .int .u64 (m : Int), .int .i64 0, .bool neg, .bool tr, .bool hx, .int .i64 (i : Int), .bool false, .bool us, .int .u64 (rdB hx), .int .i64 (rdM hx), .int .u8 C, .bool sd, .bool true, .int .i64 (nd : Int), .int .i64 qq, .int .i64 dp, tm.getD 18 undef, undef, undef, tm.getD 21 undef, tm.getD 22 undef, tm.getD 23 undef, tm.getD 24 undef, tm.getD 25 undef, tm.getD 26 undef, tm.getD 27 undef, tm.getD 28 undef, tm.getD 29 undef, tm.getD 30 undef, tm.getD 31 undef, tm.getD 32 undef, tm.getD 33 undef, tm.getD 34 undef, tm.getD 35 undef, tm.getD 36 undef, tm.getD 37 undef, tm.getD 38 undef, tm.getD 39 undef, tm.getD 40 undef, tm.getD 41 undef, tm.getD 42 undef, tm.getD 43 undef, tm.getD 44 undef, tm.getD 45 undef, tm.getD 46 undef, tm.getD 47 undef, tm.getD 48 undef, tm.getD 49 undef, tm.getD 50 undef, tm.getD 51 undef, tm.getD 52 undef, tm.getD 53 undef, tm.getD 54 undef, tm.getD 55 undef, tm.getD 56 undef, tm.getD 57 undef, tm.getD 58 undef, tm.getD 59 undef, tm.getD 60 undef, tm.getD 61 undef, tm.getD 62 undef, tm.getD 63 undef, tm.getD 64 undef, tm.getD 65 undef, tm.getD 66 undef, tm.getD 67 undef, tm.getD 68 undef, tm.getD 69 undef, tm.getD 70 undef, tm.getD 71 undef, tm.getD 72 undef, tm.getD 73 undef, tm.getD 74 undef, tm.getD 75 undef, tm.getD 76 undef, tm.getD 77 undef, tm.getD 78 undef, tm.getD 79 undef, tm.getD 80 undef, tm.getD 81 undef, tm.getD 82 undef, tm.getD 83 undef, tm.getD 84 undef, tm.getD 85 undef, tm.getD 86 undef, tm.getD 87 undef, tm.getD 88 undef, tm.getD 89 undef, tm.getD 90 undef, tm.getD 91 undef, tm.getD 92 undef, tm.getD 93 undef, tm.getD 94 undef, tm.getD 95 undef, tm.getD 96 undef, tm.getD 97 undef, tm.getD 98 undef, tm.getD 99 undef, tm.getD 100 undef, tm.getD 101 undef, tm.getD 102 undef, tm.getD 103 undef, tm.getD 104 undef, tm.getD 105 undef, tm.getD 106 undef, tm.getD 107 undef, tm.getD 108 undef, tm.getD 109 undef, tm.getD 110 undef, tm.getD 111 undef, tm.getD 112 undef, tm.getD 113 undef, tm.getD 114 undef, tm.getD 115 undef, tm.getD 116 undef, tm.getD 117 undef, tm.getD 118 undef, tm.getD 119 undef, tm.getD 120 undef, tm.getD 121 undef, tm.getD 122 undef, tm.getD 123 undef, tm.getD 124 undef, tm.getD 125 undef, tm.getD 126 undef, tm.getD 127 undef, tm.getD 128 undef, tm.getD 129 undef, tm.getD 130 undef, tm.getD 131 undef, tm.getD 132 undef, tm.getD 133 undef, tm.getD 134 undef, tm.getD 135 undef, tm.getD 136 undef, tm.getD 137 undef, tm.getD 138 undef, tm.getD 139 undef, tm.getD 140 undef, tm.getD 141 undef, tm.getD 142 undef, tm.getD 143 undef, tm.getD 144 undef, tm.getD 145 undef, tm.getD 146 undef, tm.getD 147 undef, tm.getD 148 undef, tm.getD 149 undef, undef, undef, undef, undef, undef, undef, undef, undef, undef, undef, undef, undef, undef, undef, undef, undef, undef, undef, undef, undef, undef, undef, undef, undef, undef, undef, undef, undef, undef, undef, undef, undef, undef, undef, undef, undef, undef, undef, undef, undef, undef, undef, undef, undef, undef, undef, undef, undef, undef, undef, undef, undef, undef, undef, undef, undef, undef, undef, undef, undef, undef, undef, undef, undef, undef, undef, undef, undef, undef, undef, undef, undef, undef, undef, undef, undef, undef, undef, undef, undef, undef, undef, undef, undef, undef, undef, undef, undef, undef, undef, undef, undef, undef, undef, undef, undef, undef, undef, undef, undef, undef, undef, undef]) (hc : i ≤ s.size ∧ m < (if hx then 16 else 10) ^ q ∧ q ≤ (if hx then 16 else 19) ∧ nd ≤ 2000 ∧ -10000 ≤ dp ∧ dp ≤ 10000 ∧ 1 ≤ i ∧ -1000 ≤ qq ∧ qq ≤ 1000) : RdE s w ⟨tm, []⟩ w := ⟨fun i => tm.getD i undef, i, neg, hx, C, tr, us, sd, m, nd, dp, q, qq, congrArg (fun t => (⟨t, []⟩ : Act)) h, hc.1, hc.2.1, hc.2.2.1, hc.2.2.2.1, hc.2.2.2.2.1, hc.2.2.2.2.2.1, hc.2.2.2.2.2.2.1, hc.2.2.2.2.2.2.2.1, hc.2.2.2.2.2.2.2.2, rfl⟩
def RdF (s : ByteArray) (w0 : World) (a : Act) (w : World) : Prop := ∃ (f : Nat → Value) (i : Nat) (neg : Bool) (hx : Bool) (C : Int) (tr : Bool) (us : Bool) (sd : Bool) (m : Nat) (nd : Nat) (dp : Int) (q : Nat) (qq : Int) (es : Int), a = ⟨#[.string s, undef, .int .u64 (m : Int), .int .i64 0, .bool neg, .bool tr, .bool hx, .int .i64 (i : Int), .bool false, .bool us, .int .u64 (rdB hx), .int .i64 (rdM hx), .int .u8 C, .bool sd, .bool true, .int .i64 (nd : Int), .int .i64 qq, .int .i64 dp, f 18, .int .i64 es, undef, f 21, f 22, f 23, f 24, f 25, f 26, f 27, f 28, f 29, f 30, f 31, f 32, f 33, f 34, f 35, f 36, f 37, f 38, f 39, f 40, f 41, f 42, f 43, f 44, f 45, f 46, f 47, f 48, f 49, f 50, f 51, f 52, f 53, f 54, f 55, f 56, f 57, f 58, f 59, f 60, f 61, f 62, f 63, f 64, f 65, f 66, f 67, f 68, f 69, f 70, f 71, f 72, f 73, f 74, f 75, f 76, f 77, f 78, f 79, f 80, f 81, f 82, f 83, f 84, f 85, f 86, f 87, f 88, f 89, f 90, f 91, f 92, f 93, f 94, f 95, f 96, f 97, f 98, f 99, f 100, f 101, f 102, f 103, f 104, f 105, f 106, f 107, f 108, f 109, f 110, f 111, f 112, f 113, f 114, f 115, f 116, f 117, f 118, f 119, f 120, f 121, f 122, f 123, f 124, f 125, f 126, f 127, f 128, f 129, f 130, f 131, f 132, f 133, f 134, f 135, f 136, f 137, f 138, f 139, f 140, f 141, f 142, f 143, f 144, f 145, f 146, f 147, f 148, f 149, f 150, f 151, f 152, f 153, f 154, f 155, f 156, f 157, f 158, f 159, f 160, f 161, f 162, f 163, f 164, f 165, f 166, f 167, f 168, f 169, f 170, f 171, f 172, f 173, f 174, f 175, f 176, f 177, f 178, undef, undef, undef, undef, undef, undef, undef, undef, undef, undef, undef, undef, undef, undef, undef, undef, undef, undef, undef, undef, undef, undef, undef, undef, undef, undef, undef, undef, undef, undef, undef, undef, undef, undef, undef, undef, undef, undef, undef, undef, undef, undef, undef, undef, undef, undef, undef, undef, undef, undef, undef, undef, undef, undef, undef, undef, undef, undef, undef, undef, undef, undef, undef, undef, undef, undef, undef, undef, undef, undef, undef, undef, undef, undef], []⟩ ∧ i ≤ s.size ∧ m < (if hx then 16 else 10) ^ q ∧ q ≤ (if hx then 16 else 19) ∧ nd ≤ 2000 ∧ -10000 ≤ dp ∧ dp ≤ 10000 ∧ 1 ≤ i ∧ -1000 ≤ qq ∧ qq ≤ 1000 ∧ (es = 1 ∨ es = -1) ∧ w0 = w
theorem RdF.of {s : ByteArray} {w : World} {tm : Array Value} (i : Nat) (neg : Bool) (hx : Bool) (C : Int) (tr : Bool) (us : Bool) (sd : Bool) (m : Nat) (nd : Nat) (dp : Int) (q : Nat) (qq : Int) (es : Int) (h : tm = #[.string s, undef, .int .u64 (m : Int), .int .i64 0, .bool neg, .bool tr, .bool hx, .int .i64 (i : Int), .bool false, .bool us, .int .u64 (rdB hx), .int .i64 (rdM hx), .int .u8 C, .bool sd, .bool true, .int .i64 (nd : Int), .int .i64 qq, .int .i64 dp, tm.getD 18 undef, .int .i64 es, undef, tm.getD 21 undef, tm.getD 22 undef, tm.getD 23 undef, tm.getD 24 undef, tm.getD 25 undef, tm.getD 26 undef, tm.getD 27 undef, tm.getD 28 undef, tm.getD 29 undef, tm.getD 30 undef, tm.getD 31 undef, tm.getD 32 undef, tm.getD 33 undef, tm.getD 34 undef, tm.getD 35 undef, tm.getD 36 undef, tm.getD 37 undef, tm.getD 38 undef, tm.getD 39 undef, tm.getD 40 undef, tm.getD 41 undef, tm.getD 42 undef, tm.getD 43 undef, tm.getD 44 undef, tm.getD 45 undef, tm.getD 46 undef, tm.getD 47 undef, tm.getD 48 undef, tm.getD 49 undef, tm.getD 50 undef, tm.getD 51 undef, tm.getD 52 undef, tm.getD 53 undef, tm.getD 54 undef, tm.getD 55 undef, tm.getD 56 undef, tm.getD 57 undef, tm.getD 58 undef, tm.getD 59 undef, tm.getD 60 undef, tm.getD 61 undef, tm.getD 62 undef, tm.getD 63 undef, tm.getD 64 undef, tm.getD 65 undef, tm.getD 66 undef, tm.getD 67 undef, tm.getD 68 undef, tm.getD 69 undef, tm.getD 70 undef, tm.getD 71 undef, tm.getD 72 undef, tm.getD 73 undef, tm.getD 74 undef, tm.getD 75 undef, tm.getD 76 undef, tm.getD 77 undef, tm.getD 78 undef, tm.getD 79 undef, tm.getD 80 undef, tm.getD 81 undef, tm.getD 82 undef, tm.getD 83 undef, tm.getD 84 undef, tm.getD 85 undef, tm.getD 86 undef, tm.getD 87 undef, tm.getD 88 undef, tm.getD 89 undef, tm.getD 90 undef, tm.getD 91 undef, tm.getD 92 undef, tm.getD 93 undef, tm.getD 94 undef, tm.getD 95 undef, tm.getD 96 undef, tm.getD 97 undef, tm.getD 98 undef, tm.getD 99 undef, tm.getD 100 undef, tm.getD 101 undef, tm.getD 102 undef, tm.getD 103 undef, tm.getD 104 undef, tm.getD 105 undef, tm.getD 106 undef, tm.getD 107 undef, tm.getD 108 undef, tm.getD 109 undef, tm.getD 110 undef, tm.getD 111 undef, tm.getD 112 undef, tm.getD 113 undef, tm.getD 114 undef, tm.getD 115 undef, tm.getD 116 undef, tm.getD 117 undef, tm.getD 118 undef, tm.getD 119 undef, tm.getD 120 undef, tm.getD 121 undef, tm.getD 122 undef, tm.getD 123 undef, tm.getD 124 undef, tm.getD 125 undef, tm.getD 126 undef, tm.getD 127 undef, tm.getD 128 undef, tm.getD 129 undef, tm.getD 130 undef, tm.getD 131 undef, tm.getD 132 undef, tm.getD 133 undef, tm.getD 134 undef, tm.getD 135 undef, tm.getD 136 undef, tm.getD 137 undef, tm.getD 138 undef, tm.getD 139 undef, tm.getD 140 undef, tm.getD 141 undef, tm.getD 142 undef, tm.getD 143 undef, tm.getD 144 undef, tm.getD 145 undef, tm.getD 146 undef, tm.getD 147 undef, tm.getD 148 undef, tm.getD 149 undef, tm.getD 150 undef, tm.getD 151 undef, tm.getD 152 undef, tm.getD 153 undef, tm.getD 154 undef, tm.getD 155 undef, tm.getD 156 undef, tm.getD 157 undef, tm.getD 158 undef, tm.getD 159 undef, tm.getD 160 undef, tm.getD 161 undef, tm.getD 162 undef, tm.getD 163 undef, tm.getD 164 undef, tm.getD 165 undef, tm.getD 166 undef, tm.getD 167 undef, tm.getD 168 undef, tm.getD 169 undef, tm.getD 170 undef, tm.getD 171 undef, tm.getD 172 undef, tm.getD 173 undef, tm.getD 174 undef, tm.getD 175 undef, tm.getD 176 undef, tm.getD 177 undef, tm.getD 178 undef, undef, undef, undef, undef, undef, undef, undef, undef, undef, undef, undef, undef, undef, undef, undef, undef, undef, undef, undef, undef, undef, undef, undef, undef, undef, undef, undef, undef, undef, undef, undef, undef, undef, undef, undef, undef, undef, undef, undef, undef, undef, undef, undef, undef, undef, undef, undef, undef, undef, undef, undef, undef, undef, undef, undef, undef, undef, undef, undef, undef, undef, undef, undef, undef, undef, undef, undef, undef, undef, undef, undef, undef, undef, undef]) (hc : i ≤ s.size ∧ m < (if hx then 16 else 10) ^ q ∧ q ≤ (if hx then 16 else 19) ∧ nd ≤ 2000 ∧ -10000 ≤ dp ∧ dp ≤ 10000 ∧ 1 ≤ i ∧ -1000 ≤ qq ∧ qq ≤ 1000 ∧ (es = 1 ∨ es = -1)) : RdF s w ⟨tm, []⟩ w := ⟨fun i => tm.getD i undef, i, neg, hx, C, tr, us, sd, m, nd, dp, q, qq, es, congrArg (fun t => (⟨t, []⟩ : Act)) h, hc.1, hc.2.1, hc.2.2.1, hc.2.2.2.1, hc.2.2.2.2.1, hc.2.2.2.2.2.1, hc.2.2.2.2.2.2.1, hc.2.2.2.2.2.2.2.1, hc.2.2.2.2.2.2.2.2.1, hc.2.2.2.2.2.2.2.2.2, rfl⟩
def RdG (s : ByteArray) (w0 : World) (a : Act) (w : World) : Prop := ∃ (f : Nat → Value) (i : Nat) (neg : Bool) (hx : Bool) (C : Int) (tr : Bool) (us : Bool) (sd : Bool) (m : Nat) (nd : Nat) (dp : Int) (q : Nat) (qq : Int), a = ⟨#[.string s, undef, .int .u64 (m : Int), .int .i64 0, .bool neg, .bool tr, .bool hx, .int .i64 (i : Int), .bool false, .bool us, .int .u64 (rdB hx), .int .i64 (rdM hx), .int .u8 C, .bool sd, .bool true, .int .i64 (nd : Int), .int .i64 qq, .int .i64 dp, f 18, f 19, f 20, f 21, f 22, f 23, f 24, f 25, f 26, f 27, f 28, f 29, f 30, f 31, f 32, f 33, f 34, f 35, f 36, f 37, f 38, f 39, f 40, f 41, f 42, f 43, f 44, f 45, f 46, f 47, f 48, f 49, f 50, f 51, f 52, f 53, f 54, f 55, f 56, f 57, f 58, f 59, f 60, f 61, f 62, f 63, f 64, f 65, f 66, f 67, f 68, f 69, f 70, f 71, f 72, f 73, f 74, f 75, f 76, f 77, f 78, f 79, f 80, f 81, f 82, f 83, f 84, f 85, f 86, f 87, f 88, f 89, f 90, f 91, f 92, f 93, f 94, f 95, f 96, f 97, f 98, f 99, f 100, f 101, f 102, f 103, f 104, f 105, f 106, f 107, f 108, f 109, f 110, f 111, f 112, f 113, f 114, f 115, f 116, f 117, f 118, f 119, f 120, f 121, f 122, f 123, f 124, f 125, f 126, f 127, f 128, f 129, f 130, f 131, f 132, f 133, f 134, f 135, f 136, f 137, f 138, f 139, f 140, f 141, f 142, f 143, f 144, f 145, f 146, f 147, f 148, f 149, f 150, f 151, f 152, f 153, f 154, f 155, f 156, f 157, f 158, f 159, f 160, f 161, f 162, f 163, f 164, f 165, f 166, f 167, f 168, f 169, f 170, f 171, f 172, f 173, f 174, f 175, f 176, f 177, f 178, f 179, f 180, f 181, f 182, f 183, f 184, f 185, f 186, f 187, f 188, f 189, f 190, f 191, f 192, f 193, f 194, f 195, f 196, f 197, f 198, f 199, f 200, f 201, f 202, f 203, f 204, f 205, f 206, f 207, f 208, f 209, f 210, f 211, f 212, f 213, f 214, f 215, f 216, f 217, f 218, f 219, f 220, f 221, f 222, f 223, f 224, f 225, f 226, f 227, f 228, f 229, f 230, f 231, f 232, f 233, f 234, f 235, f 236, f 237, f 238, f 239, undef, undef, undef, undef, undef, undef, undef, undef, undef, undef, undef, undef, undef], []⟩ ∧ i ≤ s.size ∧ m < (if hx then 16 else 10) ^ q ∧ q ≤ (if hx then 16 else 19) ∧ nd ≤ 2000 ∧ -500000 ≤ dp ∧ dp ≤ 500000 ∧ 1 ≤ i ∧ -1000 ≤ qq ∧ qq ≤ 1000 ∧ w0 = w
theorem RdG.of {s : ByteArray} {w : World} {tm : Array Value} (i : Nat) (neg : Bool) (hx : Bool) (C : Int) (tr : Bool) (us : Bool) (sd : Bool) (m : Nat) (nd : Nat) (dp : Int) (q : Nat) (qq : Int) (h : tm = #[.string s, undef, .int .u64 (m : Int), .int .i64 0, .bool neg, .bool tr, .bool hx, .int .i64 (i : Int), .bool false, .bool us, .int .u64 (rdB hx), .int .i64 (rdM hx), .int .u8 C, .bool sd, .bool true, .int .i64 (nd : Int), .int .i64 qq, .int .i64 dp, tm.getD 18 undef, tm.getD 19 undef, tm.getD 20 undef, tm.getD 21 undef, tm.getD 22 undef, tm.getD 23 undef, tm.getD 24 undef, tm.getD 25 undef, tm.getD 26 undef, tm.getD 27 undef, tm.getD 28 undef, tm.getD 29 undef, tm.getD 30 undef, tm.getD 31 undef, tm.getD 32 undef, tm.getD 33 undef, tm.getD 34 undef, tm.getD 35 undef, tm.getD 36 undef, tm.getD 37 undef, tm.getD 38 undef, tm.getD 39 undef, tm.getD 40 undef, tm.getD 41 undef, tm.getD 42 undef, tm.getD 43 undef, tm.getD 44 undef, tm.getD 45 undef, tm.getD 46 undef, tm.getD 47 undef, tm.getD 48 undef, tm.getD 49 undef, tm.getD 50 undef, tm.getD 51 undef, tm.getD 52 undef, tm.getD 53 undef, tm.getD 54 undef, tm.getD 55 undef, tm.getD 56 undef, tm.getD 57 undef, tm.getD 58 undef, tm.getD 59 undef, tm.getD 60 undef, tm.getD 61 undef, tm.getD 62 undef, tm.getD 63 undef, tm.getD 64 undef, tm.getD 65 undef, tm.getD 66 undef, tm.getD 67 undef, tm.getD 68 undef, tm.getD 69 undef, tm.getD 70 undef, tm.getD 71 undef, tm.getD 72 undef, tm.getD 73 undef, tm.getD 74 undef, tm.getD 75 undef, tm.getD 76 undef, tm.getD 77 undef, tm.getD 78 undef, tm.getD 79 undef, tm.getD 80 undef, tm.getD 81 undef, tm.getD 82 undef, tm.getD 83 undef, tm.getD 84 undef, tm.getD 85 undef, tm.getD 86 undef, tm.getD 87 undef, tm.getD 88 undef, tm.getD 89 undef, tm.getD 90 undef, tm.getD 91 undef, tm.getD 92 undef, tm.getD 93 undef, tm.getD 94 undef, tm.getD 95 undef, tm.getD 96 undef, tm.getD 97 undef, tm.getD 98 undef, tm.getD 99 undef, tm.getD 100 undef, tm.getD 101 undef, tm.getD 102 undef, tm.getD 103 undef, tm.getD 104 undef, tm.getD 105 undef, tm.getD 106 undef, tm.getD 107 undef, tm.getD 108 undef, tm.getD 109 undef, tm.getD 110 undef, tm.getD 111 undef, tm.getD 112 undef, tm.getD 113 undef, tm.getD 114 undef, tm.getD 115 undef, tm.getD 116 undef, tm.getD 117 undef, tm.getD 118 undef, tm.getD 119 undef, tm.getD 120 undef, tm.getD 121 undef, tm.getD 122 undef, tm.getD 123 undef, tm.getD 124 undef, tm.getD 125 undef, tm.getD 126 undef, tm.getD 127 undef, tm.getD 128 undef, tm.getD 129 undef, tm.getD 130 undef, tm.getD 131 undef, tm.getD 132 undef, tm.getD 133 undef, tm.getD 134 undef, tm.getD 135 undef, tm.getD 136 undef, tm.getD 137 undef, tm.getD 138 undef, tm.getD 139 undef, tm.getD 140 undef, tm.getD 141 undef, tm.getD 142 undef, tm.getD 143 undef, tm.getD 144 undef, tm.getD 145 undef, tm.getD 146 undef, tm.getD 147 undef, tm.getD 148 undef, tm.getD 149 undef, tm.getD 150 undef, tm.getD 151 undef, tm.getD 152 undef, tm.getD 153 undef, tm.getD 154 undef, tm.getD 155 undef, tm.getD 156 undef, tm.getD 157 undef, tm.getD 158 undef, tm.getD 159 undef, tm.getD 160 undef, tm.getD 161 undef, tm.getD 162 undef, tm.getD 163 undef, tm.getD 164 undef, tm.getD 165 undef, tm.getD 166 undef, tm.getD 167 undef, tm.getD 168 undef, tm.getD 169 undef, tm.getD 170 undef, tm.getD 171 undef, tm.getD 172 undef, tm.getD 173 undef, tm.getD 174 undef, tm.getD 175 undef, tm.getD 176 undef, tm.getD 177 undef, tm.getD 178 undef, tm.getD 179 undef, tm.getD 180 undef, tm.getD 181 undef, tm.getD 182 undef, tm.getD 183 undef, tm.getD 184 undef, tm.getD 185 undef, tm.getD 186 undef, tm.getD 187 undef, tm.getD 188 undef, tm.getD 189 undef, tm.getD 190 undef, tm.getD 191 undef, tm.getD 192 undef, tm.getD 193 undef, tm.getD 194 undef, tm.getD 195 undef, tm.getD 196 undef, tm.getD 197 undef, tm.getD 198 undef, tm.getD 199 undef, tm.getD 200 undef, tm.getD 201 undef, tm.getD 202 undef, tm.getD 203 undef, tm.getD 204 undef, tm.getD 205 undef, tm.getD 206 undef, tm.getD 207 undef, tm.getD 208 undef, tm.getD 209 undef, tm.getD 210 undef, tm.getD 211 undef, tm.getD 212 undef, tm.getD 213 undef, tm.getD 214 undef, tm.getD 215 undef, tm.getD 216 undef, tm.getD 217 undef, tm.getD 218 undef, tm.getD 219 undef, tm.getD 220 undef, tm.getD 221 undef, tm.getD 222 undef, tm.getD 223 undef, tm.getD 224 undef, tm.getD 225 undef, tm.getD 226 undef, tm.getD 227 undef, tm.getD 228 undef, tm.getD 229 undef, tm.getD 230 undef, tm.getD 231 undef, tm.getD 232 undef, tm.getD 233 undef, tm.getD 234 undef, tm.getD 235 undef, tm.getD 236 undef, tm.getD 237 undef, tm.getD 238 undef, tm.getD 239 undef, undef, undef, undef, undef, undef, undef, undef, undef, undef, undef, undef, undef, undef]) (hc : i ≤ s.size ∧ m < (if hx then 16 else 10) ^ q ∧ q ≤ (if hx then 16 else 19) ∧ nd ≤ 2000 ∧ -500000 ≤ dp ∧ dp ≤ 500000 ∧ 1 ≤ i ∧ -1000 ≤ qq ∧ qq ≤ 1000) : RdG s w ⟨tm, []⟩ w := ⟨fun i => tm.getD i undef, i, neg, hx, C, tr, us, sd, m, nd, dp, q, qq, congrArg (fun t => (⟨t, []⟩ : Act)) h, hc.1, hc.2.1, hc.2.2.1, hc.2.2.2.1, hc.2.2.2.2.1, hc.2.2.2.2.2.1, hc.2.2.2.2.2.2.1, hc.2.2.2.2.2.2.2.1, hc.2.2.2.2.2.2.2.2, rfl⟩

def RdOut (s : ByteArray) (w : World) (e : Ending) (w' : World) : Prop := w = w' ∧ ∃ (m : Nat) (ex : Int) (neg tr hx : Bool) (i : Nat) (ok : Bool), e = .returned (.tuple #[.int .u64 m, .int .i64 ex, .bool neg, .bool tr, .bool hx, .int .i64 i, .bool ok]) ∧ m < 18446744073709551616 ∧ (hx = false → m < 10000000000000000000) ∧ (ok = true → 1 ≤ i ∧ i ≤ s.size ∧ -1000000 ≤ ex ∧ ex ≤ 1000000)
theorem mant_ok {m q : Nat} {hx : Bool} (h : m < (if hx then 16 else 10) ^ q) (hq : q ≤ (if hx then 16 else 19)) : m < 18446744073709551616 ∧ (hx = false → m < 10000000000000000000) := by
  cases hx with
  | true =>
    simp only [if_true] at h hq
    have : 16 ^ q ≤ 16 ^ 16 := Nat.pow_le_pow_right (by decide) hq
    have e : (16 : Nat) ^ 16 = 18446744073709551616 := by decide
    exact ⟨by omega, fun h => by cases h⟩
  | false =>
    simp only [Bool.false_eq_true, if_false] at h hq
    have : 10 ^ q ≤ 10 ^ 19 := Nat.pow_le_pow_right (by decide) hq
    have e : (10 : Nat) ^ 19 = 10000000000000000000 := by decide
    exact ⟨by omega, fun _ => by omega⟩

/-- While the digits are read. -/
structure RdI (s : ByteArray) (B MX : Nat) (i m nd q : Nat) (sg : Bool) (dp : Int) : Prop where
  le : i ≤ s.size
  lt : m < B ^ q
  mx : q ≤ MX
  nd : nd ≤ i
  lo : -(i : Int) ≤ dp
  hi : dp ≤ i
  some : sg = true → 1 ≤ i
section
variable {s : ByteArray} {B MX i m nd q : Nat} {sg : Bool} {dp : Int}
theorem RdI.next (h : RdI s B MX i m nd q sg dp) (hl : i < s.size) : RdI s B MX (i + 1) m nd q sg dp := ⟨by omega, h.lt, h.mx, by have := h.nd; omega, by have := h.lo; omega, by have := h.hi; omega, fun _ => by omega⟩
theorem RdI.point (h : RdI s B MX i m nd q sg dp) (hl : i < s.size) : RdI s B MX (i + 1) m nd q sg nd := ⟨by omega, h.lt, h.mx, by have := h.nd; omega, by omega, by have := h.nd; omega, fun _ => by omega⟩
theorem RdI.zero (h : RdI s B MX i m nd q sg dp) (hl : i < s.size) : RdI s B MX (i + 1) m nd q true (dp - 1) := ⟨by omega, h.lt, h.mx, by have := h.nd; omega, by have := h.lo; omega, by have := h.hi; omega, fun _ => by omega⟩
theorem RdI.drop (h : RdI s B MX i m nd q sg dp) (hl : i < s.size) : RdI s B MX (i + 1) m (nd + 1) q true dp := ⟨by omega, h.lt, h.mx, by have := h.nd; omega, by have := h.lo; omega, by have := h.hi; omega, fun _ => by omega⟩
theorem RdI.put (h : RdI s B MX i m nd q sg dp) (hl : i < s.size) {d : Nat} (hd : d < B) (hq : q < MX) : RdI s B MX (i + 1) (m * B + d) (nd + 1) (q + 1) true dp := by
  refine ⟨by omega, ?_, by omega, by have := h.nd; omega, by have := h.lo; omega, by have := h.hi; omega, fun _ => by omega⟩
  rw [Nat.pow_succ]
  have : (m + 1) * B ≤ B ^ q * B := Nat.mul_le_mul_right _ h.lt
  rw [Nat.add_mul] at this
  omega
theorem RdI.small {hx : Bool} (h : RdI s (if hx then 16 else 10) (if hx then 16 else 19) i m nd q sg dp) (hq : q < (if hx then 16 else 19)) : m < 1152921504606846976 := by
  cases hx with
  | true =>
    simp only [if_true] at h hq
    have h1 : 16 ^ q ≤ 16 ^ 15 := Nat.pow_le_pow_right (by decide) (by omega)
    have e : (16 : Nat) ^ 15 = 1152921504606846976 := by decide
    have := h.lt
    omega
  | false =>
    simp only [Bool.false_eq_true, if_false] at h hq
    have h1 : 10 ^ q ≤ 10 ^ 18 := Nat.pow_le_pow_right (by decide) (by omega)
    have e : (10 : Nat) ^ 18 = 1000000000000000000 := by decide
    have := h.lt
    omega
end
theorem rd_wraps16 {m t : Nat} (h1 : (97 : Int) ≤ (t : Int)) (h2 : (t : Int) ≤ 102) (hm : m < 1152921504606846976) : ∃ X Y : Nat, IntKind.u64.wrap ((m : Int) * 16) = (X : Int) ∧ IntKind.u64.wrap ((X : Int) + ((t : Int) - 97 + 10)) = (Y : Int) ∧ Y = m * 16 + (t - 87) := by
  refine ⟨m * 16, m * 16 + (t - 87), ?_, ?_, rfl⟩
  · rw [IntKind.wrap_u64]
    omega
  · rw [IntKind.wrap_u64]
    omega
theorem RdI.out {s : ByteArray} {hx : Bool} {i m nd q : Nat} {sg : Bool} {dp : Int} (h : RdI s (if hx then 16 else 10) (if hx then 16 else 19) i m nd q sg dp) (hs : s.size ≤ 1000) : i ≤ s.size ∧ m < (if hx then 16 else 10) ^ q ∧ q ≤ (if hx then 16 else 19) ∧ nd ≤ 2000 ∧ -2000 ≤ dp ∧ dp ≤ 2000 ∧ (sg = true → 1 ≤ i) :=
  ⟨h.le, h.lt, h.mx, by have := h.nd; have := h.le; omega, by have := h.lo; have := h.le; omega, by have := h.hi; have := h.le; omega, h.some⟩
theorem rd_wraps (B : Nat) {m b : Nat} (hB : B ≤ 16) (hb : b < 256) (h1 : (48 : Int) ≤ (b : Int)) (h2 : (b : Int) ≤ 57) (hm : m < 1152921504606846976) : ∃ X Y : Nat, IntKind.u64.wrap ((m : Int) * (B : Int)) = (X : Int) ∧ IntKind.u64.wrap ((X : Int) + ((b : Int) - 48)) = (Y : Int) ∧ Y = m * B + (b - 48) := by
  have h3 : m * B ≤ m * 16 := Nat.mul_le_mul_left _ hB
  refine ⟨m * B, m * B + (b - 48), ?_, ?_, rfl⟩
  · rw [IntKind.wrap_u64]
    have : (m : Int) * (B : Int) = ((m * B : Nat) : Int) := by push_cast; rfl
    rw [this]
    omega
  · rw [IntKind.wrap_u64]
    omega

set_option maxRecDepth 8000 in
set_option maxHeartbeats 16000000 in
theorem read_any {w : World} {s : ByteArray} (hs0 : 0 < s.size) (hs : s.size ≤ 1000) :
    Calls Tryz.prog 80 #[.string s] w (RdOut s w) := by
  have he : ¬ s = ByteArray.empty := fun e => by rw [e] at hs0; exact absurd hs0 (by decide)
  have hs1 : (1 : Int) ≤ (s.size : Int) := by omega
  have hs2 : (s.size : Int) ≤ 1000 := by omega
  go_enter Tryz.func80, Tryz.ntmps80
  go_wp2_with fail
  go_step3
  repeat ((fail_if_success (refine wp_cut (c := Code.block 0 _) (M := fun _ _ => True) ?_ ?_)); (first | go_values | go_skip | go_guarded | go_step | go_upon | (refine wp_label ?_)))
  refine wp_cut (c := Code.block 0 _) (M := RdA s w) ?_ ?_
  · show Code.wp _ _ _ _ _
    rcases Bool.eq_false_or_eq_true (((s[0]'hs0).toNat : Int) == 43) with c1 | c1
    · go_wp2_with fail
      exact RdA.of 1 false rfl ⟨by omega, by omega⟩
    rcases Bool.eq_false_or_eq_true (((s[0]'hs0).toNat : Int) == 45) with c2 | c2
    · go_wp2_with fail
      exact RdA.of 1 true rfl ⟨by omega, by omega⟩
    · go_wp2_with fail
      exact RdA.of 0 false rfl ⟨by omega, by omega⟩
  clear he hs1 hs0
  intro a1 w1 ⟨f, i, neg, ha, hi, his, hw⟩
  subst ha hw
  try dsimp only
  have hi1 : (i : Int) ≤ 1 := by omega
  repeat ((fail_if_success (refine wp_cut (c := Code.seq (Code.region 12 _ _) _) (M := fun _ _ => True) ?_ ?_)); (first | go_values | go_skip | go_guarded | go_step | go_upon | (refine wp_label ?_)))
  refine wp_cut (c := Code.seq (Code.region 12 _ _) _) (M := RdB s w) ?_ ?_
  · show Code.wp _ _ _ _ _
    by_cases h2 : (i : Int) + 2 < (s.size : Int)
    · have hl0 : i < s.size := by omega
      have hl1 : i + 1 < s.size := by omega
      rcases Bool.eq_false_or_eq_true (((s[i]'hl0).toNat : Int) == 48) with c1 | c1
      · go_wp2_with fail
        refine (lower_fn _ _).mono ?_
        rintro e w' ⟨rfl, rfl⟩
        generalize lowF _ = r
        rcases Bool.eq_false_or_eq_true (r == 120) with d1 | d1
        · go_wp2_with fail
          exact RdB.of (i + 2) neg true 112 rfl ⟨by omega, by omega⟩
        · go_wp2_with fail
          exact RdB.of i neg false 101 rfl ⟨by omega, by omega⟩
      · go_wp2_with fail
        exact RdB.of i neg false 101 rfl ⟨by omega, by omega⟩
    · go_wp2_with fail
      exact RdB.of i neg false 101 rfl ⟨by omega, by omega⟩
  clear hi his hi1
  intro a1 w1 ⟨f, i, neg, hx, C, ha, hi, his, hw⟩
  subst ha hw
  try dsimp only
  have hi1 : (i : Int) ≤ 3 := by omega
  repeat ((fail_if_success (refine wp_cut (c := Code.block 1 _) (M := fun _ _ => True) ?_ ?_)); (first | go_values | go_skip | go_guarded | go_step | go_upon | (refine wp_label ?_)))
  refine wp_cut (c := Code.block 1 _) (M := RdC s w) ?_ ?_
  · show Code.wp _ _ _ _ _
    cases hx with
    | false =>
      simp only [rdB, rdM, Bool.false_eq_true, if_false]
      go_step
      go_loopw [2, 5, 7, 9, 13, 14, 15, 16, 17, 18] (fun m2 t5 i7 u9 d13 g14 n15 q16 p17 _ wr => w = wr ∧ ∃ (i m nd q : Nat) (tr us sd sg : Bool) (dp : Int), m2 = .int .u64 m ∧ t5 = .bool tr ∧ i7 = .int .i64 i ∧ u9 = .bool us ∧ d13 = .bool sd ∧ g14 = .bool sg ∧ n15 = .int .i64 nd ∧ q16 = .int .i64 q ∧ p17 = .int .i64 dp ∧ Hid (RdI s 10 19 i m nd q sg dp)) (fun _ _ i7 _ _ _ _ _ _ _ _ => s.size - (intOf i7).toNat)
      case atStart => exact ⟨rfl, i, 0, 0, 0, false, false, false, false, 0, rfl, rfl, rfl, rfl, rfl, rfl, rfl, rfl, rfl, Lib.hid ⟨his, by decide, by decide, by omega, by omega, by omega, fun h => by cases h⟩⟩
      case round =>
        clear hi his hi1
        obtain ⟨rfl, i, m, nd, q, tr, us, sd, sg, dp, rfl, rfl, rfl, rfl, rfl, rfl, rfl, rfl, rfl, hI⟩ := hrel
        have hi8 : (i : Int) ≤ 1000 := by have := hI.out.le; omega
        have hnd8 : (nd : Int) ≤ 1000 := by have := hI.out.nd; have := hI.out.le; omega
        have hdp8 : -1000 ≤ dp ∧ dp ≤ 1000 := by have := hI.out.lo; have := hI.out.hi; have := hI.out.le; omega
        have hq8 : (q : Int) ≤ 19 := by have := hI.out.mx; omega
        by_cases hlt : i < s.size
        · rcases Bool.eq_false_or_eq_true (((s[i]'hlt).toNat : Int) == 95) with u1 | u1
          · go_wp2_with fail
            refine ⟨⟨by trivial, i + 1, m, nd, q, tr, true, sd, sg, dp, rfl, rfl, by go_num, rfl, rfl, rfl, by go_num, by go_num, rfl, Lib.hid (hI.out.next hlt)⟩, ?_⟩
            simp [intOf]
            omega
          rcases Bool.eq_false_or_eq_true (((s[i]'hlt).toNat : Int) == 46) with u2 | u2
          · cases sd with
            | true =>
              go_wp2_with fail
              exact RdC.of i neg false C tr us true sg m nd q dp rfl (RdI.out (hx := false) hI.out hs)
            | false =>
              go_wp2_with fail
              refine ⟨⟨by trivial, i + 1, m, nd, q, tr, us, true, sg, nd, rfl, rfl, by go_num, rfl, rfl, rfl, by go_num, by go_num, rfl, Lib.hid (hI.out.point hlt)⟩, ?_⟩
              simp [intOf]
              omega
          by_cases u3 : (48 : Int) ≤ ((s[i]'hlt).toNat : Int)
          · by_cases u4 : ((s[i]'hlt).toNat : Int) ≤ 57
            · rcases Bool.eq_false_or_eq_true (((s[i]'hlt).toNat : Int) == 48) with u5 | u5
              · have u6 : (((s[i]'hlt).toNat : Int) != 48) = false := by rw [bne_eq_false_iff_eq]; exact eq_of_beq u5
                rcases Bool.eq_false_or_eq_true ((nd : Int) == 0) with n0 | n0
                · go_wp2_with fail
                  refine ⟨⟨by trivial, i + 1, m, nd, q, tr, us, sd, true, (dp-1), rfl, rfl, by go_num, rfl, rfl, rfl, by go_num, by go_num, rfl, Lib.hid (hI.out.zero hlt)⟩, ?_⟩
                  simp [intOf]
                  omega
                · by_cases hqm : (q : Int) < 19
                  · obtain ⟨X, Y, wX0, wY, eY⟩ := rd_wraps 10 (b := (s[i]'hlt).toNat) (by omega) (by omega) u3 u4 (RdI.small (hx := false) hI.out (by simp only [Bool.false_eq_true, if_false, if_true]; omega))
                    have wX : IntKind.u64.wrap ((m : Int) * 10) = (X : Int) := wX0
                    clear wX0
                    have hst := hI.out.put hlt (d := (s[i]'hlt).toNat - 48) (by omega) (by omega)
                    rw [← eY] at hst
                    have hstH := Lib.hid hst
                    clear hst eY
                    go_wp2_with fail
                    refine ⟨⟨by trivial, i + 1, Y, (nd+1), (q+1), tr, us, sd, true, dp, rfl, rfl, by go_num, rfl, rfl, rfl, by go_num, by go_num, rfl, Lib.hid (hstH.out)⟩, ?_⟩
                    simp [intOf]
                    omega
                  · go_wp2_with fail
                    refine ⟨⟨by trivial, i + 1, m, (nd+1), q, tr, us, sd, true, dp, rfl, rfl, by go_num, rfl, rfl, rfl, by go_num, by go_num, rfl, Lib.hid (hI.out.drop hlt)⟩, ?_⟩
                    simp [intOf]
                    omega
              · have u6 : (((s[i]'hlt).toNat : Int) != 48) = true := by rw [bne_iff_ne]; exact beq_eq_false_iff_ne.1 u5
                by_cases hqm : (q : Int) < 19
                · obtain ⟨X, Y, wX0, wY, eY⟩ := rd_wraps 10 (b := (s[i]'hlt).toNat) (by omega) (by omega) u3 u4 (RdI.small (hx := false) hI.out (by simp only [Bool.false_eq_true, if_false, if_true]; omega))
                  have wX : IntKind.u64.wrap ((m : Int) * 10) = (X : Int) := wX0
                  clear wX0
                  have hst := hI.out.put hlt (d := (s[i]'hlt).toNat - 48) (by omega) (by omega)
                  rw [← eY] at hst
                  have hstH := Lib.hid hst
                  clear hst eY
                  go_wp2_with fail
                  refine ⟨⟨by trivial, i + 1, Y, (nd+1), (q+1), tr, us, sd, true, dp, rfl, rfl, by go_num, rfl, rfl, rfl, by go_num, by go_num, rfl, Lib.hid (hstH.out)⟩, ?_⟩
                  simp [intOf]
                  omega
                · go_wp2_with fail
                  refine ⟨⟨by trivial, i + 1, m, (nd+1), q, true, us, sd, true, dp, rfl, rfl, by go_num, rfl, rfl, rfl, by go_num, by go_num, rfl, Lib.hid (hI.out.drop hlt)⟩, ?_⟩
                  simp [intOf]
                  omega
            · have u34 : ¬ (48 ≤ (s[i]'hlt).toNat ∧ (s[i]'hlt).toNat ≤ 57) := by omega
              clear u34
              go_wp2_with fail
              exact RdC.of i neg false C tr us sd sg m nd q dp rfl (RdI.out (hx := false) hI.out hs)
          · go_wp2_with fail
            exact RdC.of i neg false C tr us sd sg m nd q dp rfl (RdI.out (hx := false) hI.out hs)
        · go_wp2_with fail
          exact RdC.of i neg false C tr us sd sg m nd q dp rfl (RdI.out (hx := false) hI.out hs)
    | true =>
      simp only [rdB, rdM, if_true]
      go_step
      go_loopw [2, 5, 7, 9, 13, 14, 15, 16, 17, 18] (fun m2 t5 i7 u9 d13 g14 n15 q16 p17 _ wr => w = wr ∧ ∃ (i m nd q : Nat) (tr us sd sg : Bool) (dp : Int), m2 = .int .u64 m ∧ t5 = .bool tr ∧ i7 = .int .i64 i ∧ u9 = .bool us ∧ d13 = .bool sd ∧ g14 = .bool sg ∧ n15 = .int .i64 nd ∧ q16 = .int .i64 q ∧ p17 = .int .i64 dp ∧ Hid (RdI s 16 16 i m nd q sg dp)) (fun _ _ i7 _ _ _ _ _ _ _ _ => s.size - (intOf i7).toNat)
      case atStart => exact ⟨rfl, i, 0, 0, 0, false, false, false, false, 0, rfl, rfl, rfl, rfl, rfl, rfl, rfl, rfl, rfl, Lib.hid ⟨his, by decide, by decide, by omega, by omega, by omega, fun h => by cases h⟩⟩
      case round =>
        clear hi his hi1
        obtain ⟨rfl, i, m, nd, q, tr, us, sd, sg, dp, rfl, rfl, rfl, rfl, rfl, rfl, rfl, rfl, rfl, hI⟩ := hrel
        have hi8 : (i : Int) ≤ 1000 := by have := hI.out.le; omega
        have hnd8 : (nd : Int) ≤ 1000 := by have := hI.out.nd; have := hI.out.le; omega
        have hdp8 : -1000 ≤ dp ∧ dp ≤ 1000 := by have := hI.out.lo; have := hI.out.hi; have := hI.out.le; omega
        have hq8 : (q : Int) ≤ 19 := by have := hI.out.mx; omega
        by_cases hlt : i < s.size
        · rcases Bool.eq_false_or_eq_true (((s[i]'hlt).toNat : Int) == 95) with u1 | u1
          · go_wp2_with fail
            refine ⟨⟨by trivial, i + 1, m, nd, q, tr, true, sd, sg, dp, rfl, rfl, by go_num, rfl, rfl, rfl, by go_num, by go_num, rfl, Lib.hid (hI.out.next hlt)⟩, ?_⟩
            simp [intOf]
            omega
          rcases Bool.eq_false_or_eq_true (((s[i]'hlt).toNat : Int) == 46) with u2 | u2
          · cases sd with
            | true =>
              go_wp2_with fail
              exact RdC.of i neg true C tr us true sg m nd q dp rfl (RdI.out (hx := true) hI.out hs)
            | false =>
              go_wp2_with fail
              refine ⟨⟨by trivial, i + 1, m, nd, q, tr, us, true, sg, nd, rfl, rfl, by go_num, rfl, rfl, rfl, by go_num, by go_num, rfl, Lib.hid (hI.out.point hlt)⟩, ?_⟩
              simp [intOf]
              omega
          by_cases u3 : (48 : Int) ≤ ((s[i]'hlt).toNat : Int)
          · by_cases u4 : ((s[i]'hlt).toNat : Int) ≤ 57
            · rcases Bool.eq_false_or_eq_true (((s[i]'hlt).toNat : Int) == 48) with u5 | u5
              · have u6 : (((s[i]'hlt).toNat : Int) != 48) = false := by rw [bne_eq_false_iff_eq]; exact eq_of_beq u5
                rcases Bool.eq_false_or_eq_true ((nd : Int) == 0) with n0 | n0
                · go_wp2_with fail
                  refine ⟨⟨by trivial, i + 1, m, nd, q, tr, us, sd, true, (dp-1), rfl, rfl, by go_num, rfl, rfl, rfl, by go_num, by go_num, rfl, Lib.hid (hI.out.zero hlt)⟩, ?_⟩
                  simp [intOf]
                  omega
                · by_cases hqm : (q : Int) < 16
                  · obtain ⟨X, Y, wX0, wY, eY⟩ := rd_wraps 16 (b := (s[i]'hlt).toNat) (by omega) (by omega) u3 u4 (RdI.small (hx := true) hI.out (by simp only [Bool.false_eq_true, if_false, if_true]; omega))
                    have wX : IntKind.u64.wrap ((m : Int) * 16) = (X : Int) := wX0
                    clear wX0
                    have hst := hI.out.put hlt (d := (s[i]'hlt).toNat - 48) (by omega) (by omega)
                    rw [← eY] at hst
                    have hstH := Lib.hid hst
                    clear hst eY
                    go_wp2_with fail
                    refine ⟨⟨by trivial, i + 1, Y, (nd+1), (q+1), tr, us, sd, true, dp, rfl, rfl, by go_num, rfl, rfl, rfl, by go_num, by go_num, rfl, Lib.hid (hstH.out)⟩, ?_⟩
                    simp [intOf]
                    omega
                  · go_wp2_with fail
                    refine ⟨⟨by trivial, i + 1, m, (nd+1), q, tr, us, sd, true, dp, rfl, rfl, by go_num, rfl, rfl, rfl, by go_num, by go_num, rfl, Lib.hid (hI.out.drop hlt)⟩, ?_⟩
                    simp [intOf]
                    omega
              · have u6 : (((s[i]'hlt).toNat : Int) != 48) = true := by rw [bne_iff_ne]; exact beq_eq_false_iff_ne.1 u5
                by_cases hqm : (q : Int) < 16
                · obtain ⟨X, Y, wX0, wY, eY⟩ := rd_wraps 16 (b := (s[i]'hlt).toNat) (by omega) (by omega) u3 u4 (RdI.small (hx := true) hI.out (by simp only [Bool.false_eq_true, if_false, if_true]; omega))
                  have wX : IntKind.u64.wrap ((m : Int) * 16) = (X : Int) := wX0
                  clear wX0
                  have hst := hI.out.put hlt (d := (s[i]'hlt).toNat - 48) (by omega) (by omega)
                  rw [← eY] at hst
                  have hstH := Lib.hid hst
                  clear hst eY
                  go_wp2_with fail
                  refine ⟨⟨by trivial, i + 1, Y, (nd+1), (q+1), tr, us, sd, true, dp, rfl, rfl, by go_num, rfl, rfl, rfl, by go_num, by go_num, rfl, Lib.hid (hstH.out)⟩, ?_⟩
                  simp [intOf]
                  omega
                · go_wp2_with fail
                  refine ⟨⟨by trivial, i + 1, m, (nd+1), q, true, us, sd, true, dp, rfl, rfl, by go_num, rfl, rfl, rfl, by go_num, by go_num, rfl, Lib.hid (hI.out.drop hlt)⟩, ?_⟩
                  simp [intOf]
                  omega
            · have u34 : ¬ (48 ≤ (s[i]'hlt).toNat ∧ (s[i]'hlt).toNat ≤ 57) := by omega
              clear u34
              go_wp2_with fail
              refine (lower_fn _ _).mono ?_
              rintro e w' ⟨rfl, rfl⟩
              obtain ⟨r, hr⟩ : ∃ r, lowF ((s[i]'hlt).toNat : Int) = r := ⟨_, rfl⟩
              rw [hr]
              by_cases r1 : (97 : Int) ≤ r
              · go_wp2_with fail
                refine (lower_fn _ _).mono ?_
                rintro e w' ⟨rfl, rfl⟩
                rw [hr]
                by_cases r2 : r ≤ 102
                · by_cases hqm : (q : Int) < 16
                  · go_wp2_with fail
                    refine (lower_fn _ _).mono ?_
                    rintro e w' ⟨rfl, rfl⟩
                    rw [hr]
                    obtain ⟨t, rfl⟩ : ∃ t : Nat, r = (t : Int) := ⟨r.toNat, by omega⟩
                    obtain ⟨X, Y, wX, wY, eY⟩ := rd_wraps16 (t := t) (by omega) (by omega) (RdI.small (hx := true) hI.out (by simp only [if_true]; omega))
                    have hst := hI.out.put hlt (d := t - 87) (by omega) (by omega)
                    rw [← eY] at hst
                    have hstH := Lib.hid hst
                    clear hst eY
                    go_wp2_with fail
                    refine ⟨⟨by trivial, i + 1, Y, (nd+1), (q+1), tr, us, sd, true, dp, rfl, rfl, by go_num, rfl, rfl, rfl, by go_num, by go_num, rfl, Lib.hid (hstH.out)⟩, ?_⟩
                    simp [intOf]
                    omega
                  · go_wp2_with fail
                    refine ⟨⟨by trivial, i + 1, m, (nd+1), q, true, us, sd, true, dp, rfl, rfl, by go_num, rfl, rfl, rfl, by go_num, by go_num, rfl, Lib.hid (hI.out.drop hlt)⟩, ?_⟩
                    simp [intOf]
                    omega
                · go_wp2_with fail
                  exact RdC.of i neg true C tr us sd sg m nd q dp rfl (RdI.out (hx := true) hI.out hs)
              · go_wp2_with fail
                exact RdC.of i neg true C tr us sd sg m nd q dp rfl (RdI.out (hx := true) hI.out hs)
          · go_wp2_with fail
            refine (lower_fn _ _).mono ?_
            rintro e w' ⟨rfl, rfl⟩
            obtain ⟨r, hr⟩ : ∃ r, lowF ((s[i]'hlt).toNat : Int) = r := ⟨_, rfl⟩
            rw [hr]
            by_cases r1 : (97 : Int) ≤ r
            · go_wp2_with fail
              refine (lower_fn _ _).mono ?_
              rintro e w' ⟨rfl, rfl⟩
              rw [hr]
              by_cases r2 : r ≤ 102
              · by_cases hqm : (q : Int) < 16
                · go_wp2_with fail
                  refine (lower_fn _ _).mono ?_
                  rintro e w' ⟨rfl, rfl⟩
                  rw [hr]
                  obtain ⟨t, rfl⟩ : ∃ t : Nat, r = (t : Int) := ⟨r.toNat, by omega⟩
                  obtain ⟨X, Y, wX, wY, eY⟩ := rd_wraps16 (t := t) (by omega) (by omega) (RdI.small (hx := true) hI.out (by simp only [if_true]; omega))
                  have hst := hI.out.put hlt (d := t - 87) (by omega) (by omega)
                  rw [← eY] at hst
                  have hstH := Lib.hid hst
                  clear hst eY
                  go_wp2_with fail
                  refine ⟨⟨by trivial, i + 1, Y, (nd+1), (q+1), tr, us, sd, true, dp, rfl, rfl, by go_num, rfl, rfl, rfl, by go_num, by go_num, rfl, Lib.hid (hstH.out)⟩, ?_⟩
                  simp [intOf]
                  omega
                · go_wp2_with fail
                  refine ⟨⟨by trivial, i + 1, m, (nd+1), q, true, us, sd, true, dp, rfl, rfl, by go_num, rfl, rfl, rfl, by go_num, by go_num, rfl, Lib.hid (hI.out.drop hlt)⟩, ?_⟩
                  simp [intOf]
                  omega
              · go_wp2_with fail
                exact RdC.of i neg true C tr us sd sg m nd q dp rfl (RdI.out (hx := true) hI.out hs)
            · go_wp2_with fail
              exact RdC.of i neg true C tr us sd sg m nd q dp rfl (RdI.out (hx := true) hI.out hs)
        · go_wp2_with fail
          exact RdC.of i neg true C tr us sd sg m nd q dp rfl (RdI.out (hx := true) hI.out hs)
  clear hi his hi1
  intro a1 w1 ⟨f, i, neg, hx, C, tr, us, sd, sg, m, nd, q, dp, ha, hi, hm, hq, hnd, hd1, hd2, hsg, hw⟩
  subst ha hw
  try dsimp only
  cases sg with
  | false =>
    go_wp2_with fail
    (try simp only [Exit.inBlock, Exit.then]); (try rw [Exit.noGoto_ret]); refine bodyPost_ret (results_tmp7 rfl _ _ _) rfl ?_
    first
    | exact ⟨rfl, m, _, neg, tr, hx, _, false, rfl, (mant_ok hm hq).1, (mant_ok hm hq).2, fun h => by cases h⟩
    | exact ⟨rfl, m, _, neg, tr, hx, i, false, rfl, (mant_ok hmH.out hqH.out).1, (mant_ok hmH.out hqH.out).2, fun h => by cases h⟩
    | exact ⟨rfl, m, _, neg, tr, hx, i + 1, false, rfl, (mant_ok hmH.out hqH.out).1, (mant_ok hmH.out hqH.out).2, fun h => by cases h⟩
    | exact ⟨rfl, m, _, neg, tr, true, i, false, rfl, (mant_ok (hx := true) hmH.out hqH.out).1, (mant_ok (hx := true) hmH.out hqH.out).2, fun h => by cases h⟩
  | true =>
  have hsg1 := hsg rfl
  clear hsg
  have hi8 : (i : Int) ≤ 1000 := by omega
  have hnd8 : (nd : Int) ≤ 2000 := by omega
  have hmH := Lib.hid hm
  have hqH := Lib.hid hq
  clear hm hq
  repeat ((fail_if_success (refine wp_cut (c := Code.seq (Code.region 52 _ _) _) (M := fun _ _ => True) ?_ ?_)); (first | go_values | go_skip | go_guarded | go_step | go_upon | (refine wp_label ?_)))
  refine wp_cut (c := Code.seq (Code.region 52 _ _) _) (M := RdD s w) ?_ ?_
  · show Code.wp _ _ _ _ _
    cases sd with
    | true =>
      go_wp2_with fail
      exact RdD.of i neg hx C tr us true m nd q dp rfl ⟨hi, hmH.out, hqH.out, hnd, hd1, hd2, hsg1⟩
    | false =>
      go_wp2_with fail
      exact RdD.of i neg hx C tr us false m nd q nd rfl ⟨hi, hmH.out, hqH.out, hnd, by omega, by omega, hsg1⟩
  clear hmH hqH hi hnd hd1 hd2 hsg1 hi8 hnd8
  intro a1 w1 ⟨f, i, neg, hx, C, tr, us, sd, m, nd, q, dp, ha, hi, hm, hq, hnd, hd1, hd2, hsg, hw⟩
  subst ha hw
  try dsimp only
  have hmH := Lib.hid hm
  have hqH := Lib.hid hq
  have hq8 : (q : Int) ≤ 19 := by have := hq; split at this <;> omega
  clear hm hq
  repeat ((fail_if_success (refine wp_cut (c := Code.seq (Code.region 54 _ _) _) (M := fun _ _ => True) ?_ ?_)); (first | go_values | go_skip | go_guarded | go_step | go_upon | (refine wp_label ?_)))
  refine wp_cut (c := Code.seq (Code.region 54 _ _) _) (M := RdE s w) ?_ ?_
  · show Code.wp _ _ _ _ _
    cases hx with
    | true =>
      simp only [rdB, rdM, if_true]
      go_wp2_with fail
      exact RdE.of i neg true C tr us sd m nd (dp * 4) q ((q : Int) * 4) rfl ⟨hi, hmH.out, hqH.out, hnd, by omega, by omega, hsg, by omega, by omega⟩
    | false =>
      simp only [rdB, rdM, Bool.false_eq_true, if_false]
      go_wp2_with fail
      exact RdE.of i neg false C tr us sd m nd dp q q rfl ⟨hi, hmH.out, hqH.out, hnd, by omega, by omega, hsg, by omega, by omega⟩
  clear hmH hqH hi hnd hd1 hd2 hsg hq8
  intro a1 w1 ⟨f, i, neg, hx, C, tr, us, sd, m, nd, dp, q, qq, ha, hi, hm, hq, hnd, hd1, hd2, hsg, hq1, hq2, hw⟩
  subst ha hw
  try dsimp only
  have hmH := Lib.hid hm
  have hqH := Lib.hid hq
  have hi8 : (i : Int) ≤ 1000 := by omega
  clear hm hq
  repeat ((fail_if_success (refine wp_cut (c := Code.seq (Code.region 57 _ _) _) (M := fun _ _ => True) ?_ ?_)); (first | go_values | go_skip | go_guarded | go_step | go_upon | (refine wp_label ?_)))
  refine wp_cut (c := Code.seq (Code.region 57 _ _) _) (M := RdG s w) ?_ ?_
  · show Code.wp _ _ _ _ _
    by_cases hlt : i < s.size
    · go_wp2_with fail
      refine (lower_fn _ _).mono ?_
      rintro e w' ⟨rfl, rfl⟩
      generalize lowF _ = r
      rcases Bool.eq_false_or_eq_true (r == C) with r1 | r1
      · by_cases x0 : i + 1 < s.size
        · have x0i : ((i : Int) + 1) < (s.size : Int) := by omega
          repeat ((fail_if_success (refine wp_cut (c := Code.block 4 _) (M := fun _ _ => True) ?_ ?_)); (first | go_values | go_skip | go_guarded | go_step | go_upon | (simp only [Int.not_lt, Int.not_le] at *; go_simp) | (go_ite <;> go_prune <;> (try go_simp)) | (split <;> (first | (rename_i hx; exact (hx _ rfl).elim) | go_prune))))
          refine wp_cut (c := Code.block 4 _) (M := RdF s w) ?_ ?_
          · show Code.wp _ _ _ _ _
            rcases Bool.eq_false_or_eq_true (((s[i + 1]'x0).toNat : Int) == 43) with c1 | c1
            · go_wp2_with fail
              exact RdF.of (i + 2) neg hx C tr us sd m nd dp q qq 1 rfl ⟨by omega, hmH.out, hqH.out, hnd, hd1, hd2, by omega, hq1, hq2, Or.inl rfl⟩
            rcases Bool.eq_false_or_eq_true (((s[i + 1]'x0).toNat : Int) == 45) with c2 | c2
            · go_wp2_with fail
              exact RdF.of (i + 2) neg hx C tr us sd m nd dp q qq (-1) rfl ⟨by omega, hmH.out, hqH.out, hnd, hd1, hd2, by omega, hq1, hq2, Or.inr rfl⟩
            · go_wp2_with fail
              exact RdF.of (i + 1) neg hx C tr us sd m nd dp q qq 1 rfl ⟨by omega, hmH.out, hqH.out, hnd, hd1, hd2, by omega, hq1, hq2, Or.inl rfl⟩
          · clear hmH hqH hi hnd hd1 hd2 hsg hq1 hq2 hi8 x0 x0i hlt r1
            intro a1 w1 ⟨f, i, neg, hx, C, tr, us, sd, m, nd, dp, q, qq, es, ha, hi, hm, hq, hnd, hd1, hd2, hsg, hq1, hq2, hes, hw⟩
            subst ha hw
            try dsimp only
            have hmH := Lib.hid hm
            have hqH := Lib.hid hq
            have hi8 : (i : Int) ≤ 1000 := by omega
            clear hm hq
            by_cases x1 : i < s.size
            · by_cases y1 : (48 : Int) ≤ ((s[i]'x1).toNat : Int)
              · by_cases y2 : ((s[i]'x1).toNat : Int) ≤ 57
                · rcases hes with rfl | rfl
                  · go_wp2_with fail
                    go_loopw [7, 9, 20] (fun i7 u9 e20 wr => w = wr ∧ ∃ (j : Nat) (u : Bool) (E : Int), i7 = .int .i64 j ∧ u9 = .bool u ∧ e20 = .int .i64 E ∧ Hid (i ≤ j ∧ j ≤ s.size) ∧ Hid (0 ≤ E ∧ E ≤ 99999)) (fun i7 _ _ _ => s.size - (intOf i7).toNat)
                    case atStart => exact ⟨rfl, i, us, 0, rfl, rfl, rfl, Lib.hid ⟨Nat.le_refl _, hi⟩, Lib.hid (by omega)⟩
                    case round =>
                      obtain ⟨rfl, j, u, E, rfl, rfl, rfl, hj, hE⟩ := hrel
                      have hj8 : (j : Int) ≤ 1000 := by have := hj.out; omega
                      have hE0 := hE.out.1
                      have hE1 := hE.out.2
                      by_cases hjl : j < s.size
                      · rcases Bool.eq_false_or_eq_true (((s[j]'hjl).toNat : Int) == 95) with v1 | v1
                        · have v2 : ¬ ((s[j]'hjl).toNat : Int) ≤ 57 := by have := eq_of_beq v1; omega
                          go_wp2_with fail
                          first
                          | exact ⟨⟨by trivial, j + 1, true, E, by go_num, rfl, rfl, Lib.hid (by have := hj.out; omega), Lib.hid (by omega)⟩, by simp [intOf]; omega⟩
                          | (go_roundw
                             case rel => first | exact ⟨by trivial, j + 1, true, E, by go_num, rfl, rfl, Lib.hid (by have := hj.out; omega), Lib.hid (by omega)⟩ | exact ⟨.int .i64 ((j : Int) + 1), .bool true, .int .i64 E, ⟨j + 1, by go_num, Or.inr rfl, E, rfl, Lib.hid (by have := hj.out; omega), Lib.hid (by omega)⟩, rfl, rfl, rfl⟩ | exact ⟨.int .i64 ((j : Int) + 1), .bool true, .int .i64 E, ⟨j + 1, by go_num, Or.inr rfl, E, rfl, Lib.hid (by have := hj.out; omega), Lib.hid (by omega)⟩, by trivial⟩
                             case measure => simp [intOf]; omega)
                        by_cases v2 : (48 : Int) ≤ ((s[j]'hjl).toNat : Int)
                        · by_cases v3 : ((s[j]'hjl).toNat : Int) ≤ 57
                          · by_cases v4 : E < 10000
                            · go_wp2_with fail
                              exact ⟨⟨by trivial, j + 1, u, _, by go_num, rfl, rfl, Lib.hid (by have := hj.out; omega), Lib.hid (by omega)⟩, by simp [intOf]; omega⟩
                            · go_wp2_with fail
                              exact ⟨⟨by trivial, j + 1, u, E, by go_num, rfl, rfl, Lib.hid (by have := hj.out; omega), Lib.hid (by omega)⟩, by simp [intOf]; omega⟩
                          · go_wp2_with fail
                            exact RdG.of j neg hx C tr u sd m nd _ q qq rfl ⟨hj.out.2, hmH.out, hqH.out, hnd, by omega, by omega, by have := hj.out.1; omega, hq1, hq2⟩
                        · go_wp2_with fail
                          exact RdG.of j neg hx C tr u sd m nd _ q qq rfl ⟨hj.out.2, hmH.out, hqH.out, hnd, by omega, by omega, by have := hj.out.1; omega, hq1, hq2⟩
                      · go_wp2_with fail
                        exact RdG.of j neg hx C tr u sd m nd _ q qq rfl ⟨hj.out.2, hmH.out, hqH.out, hnd, by omega, by omega, by have := hj.out.1; omega, hq1, hq2⟩
                  · go_wp2_with fail
                    go_loopw [7, 9, 20] (fun i7 u9 e20 wr => w = wr ∧ ∃ (j : Nat) (u : Bool) (E : Int), i7 = .int .i64 j ∧ u9 = .bool u ∧ e20 = .int .i64 E ∧ Hid (i ≤ j ∧ j ≤ s.size) ∧ Hid (0 ≤ E ∧ E ≤ 99999)) (fun i7 _ _ _ => s.size - (intOf i7).toNat)
                    case atStart => exact ⟨rfl, i, us, 0, rfl, rfl, rfl, Lib.hid ⟨Nat.le_refl _, hi⟩, Lib.hid (by omega)⟩
                    case round =>
                      obtain ⟨rfl, j, u, E, rfl, rfl, rfl, hj, hE⟩ := hrel
                      have hj8 : (j : Int) ≤ 1000 := by have := hj.out; omega
                      have hE0 := hE.out.1
                      have hE1 := hE.out.2
                      by_cases hjl : j < s.size
                      · rcases Bool.eq_false_or_eq_true (((s[j]'hjl).toNat : Int) == 95) with v1 | v1
                        · have v2 : ¬ ((s[j]'hjl).toNat : Int) ≤ 57 := by have := eq_of_beq v1; omega
                          go_wp2_with fail
                          first
                          | exact ⟨⟨by trivial, j + 1, true, E, by go_num, rfl, rfl, Lib.hid (by have := hj.out; omega), Lib.hid (by omega)⟩, by simp [intOf]; omega⟩
                          | (go_roundw
                             case rel => first | exact ⟨by trivial, j + 1, true, E, by go_num, rfl, rfl, Lib.hid (by have := hj.out; omega), Lib.hid (by omega)⟩ | exact ⟨.int .i64 ((j : Int) + 1), .bool true, .int .i64 E, ⟨j + 1, by go_num, Or.inr rfl, E, rfl, Lib.hid (by have := hj.out; omega), Lib.hid (by omega)⟩, rfl, rfl, rfl⟩ | exact ⟨.int .i64 ((j : Int) + 1), .bool true, .int .i64 E, ⟨j + 1, by go_num, Or.inr rfl, E, rfl, Lib.hid (by have := hj.out; omega), Lib.hid (by omega)⟩, by trivial⟩
                             case measure => simp [intOf]; omega)
                        by_cases v2 : (48 : Int) ≤ ((s[j]'hjl).toNat : Int)
                        · by_cases v3 : ((s[j]'hjl).toNat : Int) ≤ 57
                          · by_cases v4 : E < 10000
                            · go_wp2_with fail
                              exact ⟨⟨by trivial, j + 1, u, _, by go_num, rfl, rfl, Lib.hid (by have := hj.out; omega), Lib.hid (by omega)⟩, by simp [intOf]; omega⟩
                            · go_wp2_with fail
                              exact ⟨⟨by trivial, j + 1, u, E, by go_num, rfl, rfl, Lib.hid (by have := hj.out; omega), Lib.hid (by omega)⟩, by simp [intOf]; omega⟩
                          · go_wp2_with fail
                            exact RdG.of j neg hx C tr u sd m nd _ q qq rfl ⟨hj.out.2, hmH.out, hqH.out, hnd, by omega, by omega, by have := hj.out.1; omega, hq1, hq2⟩
                        · go_wp2_with fail
                          exact RdG.of j neg hx C tr u sd m nd _ q qq rfl ⟨hj.out.2, hmH.out, hqH.out, hnd, by omega, by omega, by have := hj.out.1; omega, hq1, hq2⟩
                      · go_wp2_with fail
                        exact RdG.of j neg hx C tr u sd m nd _ q qq rfl ⟨hj.out.2, hmH.out, hqH.out, hnd, by omega, by omega, by have := hj.out.1; omega, hq1, hq2⟩
                · go_wp2_with fail
                  (try simp only [Exit.inBlock, Exit.then]); (try rw [Exit.noGoto_ret]); refine bodyPost_ret (results_tmp7 rfl _ _ _) rfl ?_
                  first
                  | exact ⟨rfl, m, _, neg, tr, hx, _, false, rfl, (mant_ok hm hq).1, (mant_ok hm hq).2, fun h => by cases h⟩
                  | exact ⟨rfl, m, _, neg, tr, hx, i, false, rfl, (mant_ok hmH.out hqH.out).1, (mant_ok hmH.out hqH.out).2, fun h => by cases h⟩
                  | exact ⟨rfl, m, _, neg, tr, hx, i + 1, false, rfl, (mant_ok hmH.out hqH.out).1, (mant_ok hmH.out hqH.out).2, fun h => by cases h⟩
                  | exact ⟨rfl, m, _, neg, tr, true, i, false, rfl, (mant_ok (hx := true) hmH.out hqH.out).1, (mant_ok (hx := true) hmH.out hqH.out).2, fun h => by cases h⟩
              · go_wp2_with fail
                (try simp only [Exit.inBlock, Exit.then]); (try rw [Exit.noGoto_ret]); refine bodyPost_ret (results_tmp7 rfl _ _ _) rfl ?_
                first
                | exact ⟨rfl, m, _, neg, tr, hx, _, false, rfl, (mant_ok hm hq).1, (mant_ok hm hq).2, fun h => by cases h⟩
                | exact ⟨rfl, m, _, neg, tr, hx, i, false, rfl, (mant_ok hmH.out hqH.out).1, (mant_ok hmH.out hqH.out).2, fun h => by cases h⟩
                | exact ⟨rfl, m, _, neg, tr, hx, i + 1, false, rfl, (mant_ok hmH.out hqH.out).1, (mant_ok hmH.out hqH.out).2, fun h => by cases h⟩
                | exact ⟨rfl, m, _, neg, tr, true, i, false, rfl, (mant_ok (hx := true) hmH.out hqH.out).1, (mant_ok (hx := true) hmH.out hqH.out).2, fun h => by cases h⟩
            · go_wp2_with fail
              (try simp only [Exit.inBlock, Exit.then]); (try rw [Exit.noGoto_ret]); refine bodyPost_ret (results_tmp7 rfl _ _ _) rfl ?_
              first
              | exact ⟨rfl, m, _, neg, tr, hx, _, false, rfl, (mant_ok hm hq).1, (mant_ok hm hq).2, fun h => by cases h⟩
              | exact ⟨rfl, m, _, neg, tr, hx, i, false, rfl, (mant_ok hmH.out hqH.out).1, (mant_ok hmH.out hqH.out).2, fun h => by cases h⟩
              | exact ⟨rfl, m, _, neg, tr, hx, i + 1, false, rfl, (mant_ok hmH.out hqH.out).1, (mant_ok hmH.out hqH.out).2, fun h => by cases h⟩
              | exact ⟨rfl, m, _, neg, tr, true, i, false, rfl, (mant_ok (hx := true) hmH.out hqH.out).1, (mant_ok (hx := true) hmH.out hqH.out).2, fun h => by cases h⟩
        · have x0i : ¬ ((i : Int) + 1) < (s.size : Int) := by omega
          go_wp2_with fail
          (try simp only [Exit.inBlock, Exit.then]); (try rw [Exit.noGoto_ret]); refine bodyPost_ret (results_tmp7 rfl _ _ _) rfl ?_
          first
          | exact ⟨rfl, m, _, neg, tr, hx, _, false, rfl, (mant_ok hm hq).1, (mant_ok hm hq).2, fun h => by cases h⟩
          | exact ⟨rfl, m, _, neg, tr, hx, i, false, rfl, (mant_ok hmH.out hqH.out).1, (mant_ok hmH.out hqH.out).2, fun h => by cases h⟩
          | exact ⟨rfl, m, _, neg, tr, hx, i + 1, false, rfl, (mant_ok hmH.out hqH.out).1, (mant_ok hmH.out hqH.out).2, fun h => by cases h⟩
          | exact ⟨rfl, m, _, neg, tr, true, i, false, rfl, (mant_ok (hx := true) hmH.out hqH.out).1, (mant_ok (hx := true) hmH.out hqH.out).2, fun h => by cases h⟩
      · cases hx with
        | true =>
          simp only [rdB, rdM, if_true]
          go_wp2_with fail
          (try simp only [Exit.inBlock, Exit.then]); (try rw [Exit.noGoto_ret]); refine bodyPost_ret (results_tmp7 rfl _ _ _) rfl ?_
          first
          | exact ⟨rfl, m, _, neg, tr, hx, _, false, rfl, (mant_ok hm hq).1, (mant_ok hm hq).2, fun h => by cases h⟩
          | exact ⟨rfl, m, _, neg, tr, hx, i, false, rfl, (mant_ok hmH.out hqH.out).1, (mant_ok hmH.out hqH.out).2, fun h => by cases h⟩
          | exact ⟨rfl, m, _, neg, tr, hx, i + 1, false, rfl, (mant_ok hmH.out hqH.out).1, (mant_ok hmH.out hqH.out).2, fun h => by cases h⟩
          | exact ⟨rfl, m, _, neg, tr, true, i, false, rfl, (mant_ok (hx := true) hmH.out hqH.out).1, (mant_ok (hx := true) hmH.out hqH.out).2, fun h => by cases h⟩
        | false =>
          simp only [rdB, rdM, Bool.false_eq_true, if_false]
          go_wp2_with fail
          exact RdG.of i neg false C tr us sd m nd dp q qq rfl ⟨hi, hmH.out, hqH.out, hnd, by omega, by omega, hsg, hq1, hq2⟩
    · cases hx with
      | true =>
        simp only [rdB, rdM, if_true]
        go_wp2_with fail
        (try simp only [Exit.inBlock, Exit.then]); (try rw [Exit.noGoto_ret]); refine bodyPost_ret (results_tmp7 rfl _ _ _) rfl ?_
        first
        | exact ⟨rfl, m, _, neg, tr, hx, _, false, rfl, (mant_ok hm hq).1, (mant_ok hm hq).2, fun h => by cases h⟩
        | exact ⟨rfl, m, _, neg, tr, hx, i, false, rfl, (mant_ok hmH.out hqH.out).1, (mant_ok hmH.out hqH.out).2, fun h => by cases h⟩
        | exact ⟨rfl, m, _, neg, tr, hx, i + 1, false, rfl, (mant_ok hmH.out hqH.out).1, (mant_ok hmH.out hqH.out).2, fun h => by cases h⟩
        | exact ⟨rfl, m, _, neg, tr, true, i, false, rfl, (mant_ok (hx := true) hmH.out hqH.out).1, (mant_ok (hx := true) hmH.out hqH.out).2, fun h => by cases h⟩
      | false =>
        simp only [rdB, rdM, Bool.false_eq_true, if_false]
        go_wp2_with fail
        exact RdG.of i neg false C tr us sd m nd dp q qq rfl ⟨hi, hmH.out, hqH.out, hnd, by omega, by omega, hsg, hq1, hq2⟩
  clear hmH hqH hi hnd hd1 hd2 hsg hq1 hq2 hi8
  intro a1 w1 ⟨f, i, neg, hx, C, tr, us, sd, m, nd, dp, q, qq, ha, hi, hm, hq, hnd, hd1, hd2, hsg, hq1, hq2, hw⟩
  subst ha hw
  try dsimp only
  have hok := mant_ok hm hq
  have hokH := Lib.hid hok
  have hi8 : (i : Int) ≤ 1000 := by omega
  have hxs : 0 < (s.extract 0 i).size := by simp; omega
  have hxl : (s.extract 0 i).size ≤ 1000 := by simp; omega
  have hund := Lib.hid (underscore_any (w := w) hxs hxl)
  clear hm hq hok hxs hxl
  cases us with
  | false =>
    go_wp2_with fail
    all_goals
      (try simp only [Exit.inBlock, Exit.then]); (try rw [Exit.noGoto_ret]); refine bodyPost_ret (results_tmp7 rfl _ _ _) rfl ?_
      first
      | exact ⟨rfl, m, _, neg, tr, hx, i, true, rfl, hokH.out.1, hokH.out.2, fun _ => ⟨hsg, hi, by omega, by omega⟩⟩
  | true =>
    go_wp2_with fail
    all_goals
      refine hund.out.mono ?_
      rintro e w' ⟨rfl, b, rfl⟩
      cases b with
      | true =>
        go_wp2_with fail
        (try simp only [Exit.inBlock, Exit.then]); (try rw [Exit.noGoto_ret]); refine bodyPost_ret (results_tmp7 rfl _ _ _) rfl ?_
        first
        | exact ⟨rfl, m, _, neg, tr, hx, i, true, rfl, hokH.out.1, hokH.out.2, fun _ => ⟨hsg, hi, by omega, by omega⟩⟩
      | false =>
        go_wp2_with fail
        (try simp only [Exit.inBlock, Exit.then]); (try rw [Exit.noGoto_ret]); refine bodyPost_ret (results_tmp7 rfl _ _ _) rfl ?_
        first
        | exact ⟨rfl, m, _, neg, tr, hx, i, false, rfl, hokH.out.1, hokH.out.2, fun h => by cases h⟩
end Go.Proofs.YthagnngckegekaaGreatDoor
