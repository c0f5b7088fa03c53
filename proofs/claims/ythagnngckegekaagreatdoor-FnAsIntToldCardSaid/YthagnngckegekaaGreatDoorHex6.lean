/-
  atofHex returns. Conditions: none.
-/
import Derived.Test.YthagnngckegekaaGreatDoorExa
import Derived.Test.YthagnngckegekaaGreatDoorSet
import Derived.Test.YthagnngckegekaaGreatDoorFbt
import Derived.LaidEqlPtr
namespace Go.Proofs.YthagnngckegekaaGreatDoor
open Go.ChangeShapes Go.WideShapes Go.ChangeAt Go.RowKit Go.Joins
set_option linter.unusedVariables false
set_option linter.unusedSimpArgs false

/-- Ahead of the second loop. -/
def HexA (s : ByteArray) (neg tr : Bool) (w0 : World) (a : Act) (w : World) : Prop := ∃ (f : Nat → Value) (m : Nat) (ex : Int) (n : Nat), a = ⟨#[.string s, .pointer (some ⟨5, 0, none⟩), .int .u64 (m : Int), .int .i64 ex, .bool neg, .bool tr, undef, undef, undef, undef, undef, undef, .float .f64 0, .nilIface, .int .i64 1023, .int .i64 (-1022), undef, undef, undef, f 19, f 20, f 21, f 22, f 23, f 24, f 25, f 26, f 27, f 28, f 29, f 30, f 31, f 32, f 33, f 34, f 35, f 36, f 37, f 38, f 39, f 40, f 41, f 42, f 43, f 44, f 45, f 46, f 47, f 48, f 49, f 50, f 51, f 52, f 53, f 54, f 55, f 56, f 57, f 58, f 59, f 60, undef, undef, undef, undef, undef, undef, undef, undef, undef, undef, undef, undef, undef, undef, undef, undef, undef, undef, undef, undef, undef, undef, undef, undef, undef, undef, undef, undef, undef, undef, undef, undef, undef, undef, undef, undef, undef, undef, undef, undef, undef, undef, undef, undef, undef, undef, undef, undef, undef, undef, undef, undef, undef, undef, undef, undef, undef, undef, undef, undef, undef, undef, undef, undef, undef, undef, undef, undef, undef, undef, undef, undef, undef, undef, undef, undef, undef, undef, undef, undef, undef, undef, undef, undef, undef, undef, undef, undef, undef, undef, undef, undef, undef, undef, undef, undef, undef, undef, undef, undef, undef, undef, undef, undef, undef, undef, undef, undef, undef, undef, undef, undef, undef, undef, undef, undef, undef, undef, undef, undef, undef, undef, undef, undef, undef, undef, undef, undef, undef, undef, undef], []⟩ ∧ m < 2 ^ 64 ∧ -2000000 ≤ ex ∧ ex ≤ 2000000 ∧ w = w0.drewN n
/-- Behind the second loop. -/
def HexB2 (s : ByteArray) (neg tr : Bool) (w0 : World) (a : Act) (w : World) : Prop := ∃ (f : Nat → Value) (m : Nat) (ex : Int) (n : Nat), a = ⟨#[.string s, .pointer (some ⟨5, 0, none⟩), .int .u64 (m : Int), .int .i64 ex, .bool neg, .bool tr, undef, undef, undef, undef, undef, undef, .float .f64 0, .nilIface, .int .i64 1023, .int .i64 (-1022), undef, undef, undef, f 19, f 20, f 21, f 22, f 23, f 24, f 25, f 26, f 27, f 28, f 29, f 30, f 31, f 32, f 33, f 34, f 35, f 36, f 37, f 38, f 39, f 40, f 41, f 42, f 43, f 44, f 45, f 46, f 47, f 48, f 49, f 50, f 51, f 52, f 53, f 54, f 55, f 56, f 57, f 58, f 59, f 60, f 61, f 62, f 63, f 64, f 65, f 66, f 67, f 68, f 69, f 70, f 71, f 72, f 73, f 74, f 75, f 76, undef, undef, undef, undef, undef, undef, undef, undef, undef, undef, undef, undef, undef, undef, undef, undef, undef, undef, undef, undef, undef, undef, undef, undef, undef, undef, undef, undef, undef, undef, undef, undef, undef, undef, undef, undef, undef, undef, undef, undef, undef, undef, undef, undef, undef, undef, undef, undef, undef, undef, undef, undef, undef, undef, undef, undef, undef, undef, undef, undef, undef, undef, undef, undef, undef, undef, undef, undef, undef, undef, undef, undef, undef, undef, undef, undef, undef, undef, undef, undef, undef, undef, undef, undef, undef, undef, undef, undef, undef, undef, undef, undef, undef, undef, undef, undef, undef, undef, undef, undef, undef, undef, undef, undef, undef, undef, undef, undef, undef, undef, undef, undef, undef, undef, undef], []⟩ ∧ m < 2 ^ 64 ∧ -2000000 ≤ ex ∧ ex ≤ 2000100 ∧ w = w0.drewN n
theorem HexB2.of {s : ByteArray} {neg tr : Bool} {w0 : World} {tm : Array Value} (m : Nat) (ex : Int) (n : Nat) (h : tm = #[.string s, .pointer (some ⟨5, 0, none⟩), .int .u64 (m : Int), .int .i64 ex, .bool neg, .bool tr, undef, undef, undef, undef, undef, undef, .float .f64 0, .nilIface, .int .i64 1023, .int .i64 (-1022), undef, undef, undef, tm.getD 19 undef, tm.getD 20 undef, tm.getD 21 undef, tm.getD 22 undef, tm.getD 23 undef, tm.getD 24 undef, tm.getD 25 undef, tm.getD 26 undef, tm.getD 27 undef, tm.getD 28 undef, tm.getD 29 undef, tm.getD 30 undef, tm.getD 31 undef, tm.getD 32 undef, tm.getD 33 undef, tm.getD 34 undef, tm.getD 35 undef, tm.getD 36 undef, tm.getD 37 undef, tm.getD 38 undef, tm.getD 39 undef, tm.getD 40 undef, tm.getD 41 undef, tm.getD 42 undef, tm.getD 43 undef, tm.getD 44 undef, tm.getD 45 undef, tm.getD 46 undef, tm.getD 47 undef, tm.getD 48 undef, tm.getD 49 undef, tm.getD 50 undef, tm.getD 51 undef, tm.getD 52 undef, tm.getD 53 undef, tm.getD 54 undef, tm.getD 55 undef, tm.getD 56 undef, tm.getD 57 undef, tm.getD 58 undef, tm.getD 59 undef, tm.getD 60 undef, tm.getD 61 undef, tm.getD 62 undef, tm.getD 63 undef, tm.getD 64 undef, tm.getD 65 undef, tm.getD 66 undef, tm.getD 67 undef, tm.getD 68 undef, tm.getD 69 undef, tm.getD 70 undef, tm.getD 71 undef, tm.getD 72 undef, tm.getD 73 undef, tm.getD 74 undef, tm.getD 75 undef, tm.getD 76 undef, undef, undef, undef, undef, undef, undef, undef, undef, undef, undef, undef, undef, undef, undef, undef, undef, undef, undef, undef, undef, undef, undef, undef, undef, undef, undef, undef, undef, undef, undef, undef, undef, undef, undef, undef, undef, undef, undef, undef, undef, undef, undef, undef, undef, undef, undef, undef, undef, undef, undef, undef, undef, undef, undef, undef, undef, undef, undef, undef, undef, undef, undef, undef, undef, undef, undef, undef, undef, undef, undef, undef, undef, undef, undef, undef, undef, undef, undef, undef, undef, undef, undef, undef, undef, undef, undef, undef, undef, undef, undef, undef, undef, undef, undef, undef, undef, undef, undef, undef, undef, undef, undef, undef, undef, undef, undef, undef, undef, undef, undef, undef, undef, undef, undef, undef]) (hm : m < 2 ^ 64) (h1 : -2000000 ≤ ex) (h2 : ex ≤ 2000100) : HexB2 s neg tr w0 ⟨tm, []⟩ (w0.drewN n) := ⟨fun i => tm.getD i undef, m, ex, n, congrArg (fun t => (⟨t, []⟩ : Act)) h, hm, h1, h2, rfl⟩
/-- Behind the third loop. -/
def HexC (s : ByteArray) (neg tr : Bool) (w0 : World) (a : Act) (w : World) : Prop := ∃ (f : Nat → Value) (m : Nat) (ex : Int) (n : Nat), a = ⟨#[.string s, .pointer (some ⟨5, 0, none⟩), .int .u64 (m : Int), .int .i64 ex, .bool neg, .bool tr, undef, undef, undef, undef, undef, undef, .float .f64 0, .nilIface, .int .i64 1023, .int .i64 (-1022), undef, undef, undef, f 19, f 20, f 21, f 22, f 23, f 24, f 25, f 26, f 27, f 28, f 29, f 30, f 31, f 32, f 33, f 34, f 35, f 36, f 37, f 38, f 39, f 40, f 41, f 42, f 43, f 44, f 45, f 46, f 47, f 48, f 49, f 50, f 51, f 52, f 53, f 54, f 55, f 56, f 57, f 58, f 59, f 60, f 61, f 62, f 63, f 64, f 65, f 66, f 67, f 68, f 69, f 70, f 71, f 72, f 73, f 74, f 75, f 76, f 77, f 78, f 79, f 80, f 81, f 82, f 83, f 84, f 85, f 86, f 87, f 88, f 89, f 90, f 91, undef, undef, undef, undef, undef, undef, undef, undef, undef, undef, undef, undef, undef, undef, undef, undef, undef, undef, undef, undef, undef, undef, undef, undef, undef, undef, undef, undef, undef, undef, undef, undef, undef, undef, undef, undef, undef, undef, undef, undef, undef, undef, undef, undef, undef, undef, undef, undef, undef, undef, undef, undef, undef, undef, undef, undef, undef, undef, undef, undef, undef, undef, undef, undef, undef, undef, undef, undef, undef, undef, undef, undef, undef, undef, undef, undef, undef, undef, undef, undef, undef, undef, undef, undef, undef, undef, undef, undef, undef, undef, undef, undef, undef, undef, undef, undef, undef, undef, undef, undef], []⟩ ∧ m < 2 ^ 64 ∧ -2100000 ≤ ex ∧ ex ≤ 2000200 ∧ w = w0.drewN n
theorem HexC.of {s : ByteArray} {neg tr : Bool} {w0 : World} {tm : Array Value} (m : Nat) (ex : Int) (n : Nat) (h : tm = #[.string s, .pointer (some ⟨5, 0, none⟩), .int .u64 (m : Int), .int .i64 ex, .bool neg, .bool tr, undef, undef, undef, undef, undef, undef, .float .f64 0, .nilIface, .int .i64 1023, .int .i64 (-1022), undef, undef, undef, tm.getD 19 undef, tm.getD 20 undef, tm.getD 21 undef, tm.getD 22 undef, tm.getD 23 undef, tm.getD 24 undef, tm.getD 25 undef, tm.getD 26 undef, tm.getD 27 undef, tm.getD 28 undef, tm.getD 29 undef, tm.getD 30 undef, tm.getD 31 undef, tm.getD 32 undef, tm.getD 33 undef, tm.getD 34 undef, tm.getD 35 undef, tm.getD 36 undef, tm.getD 37 undef, tm.getD 38 undef, tm.getD 39 undef, tm.getD 40 undef, tm.getD 41 undef, tm.getD 42 undef, tm.getD 43 undef, tm.getD 44 undef, tm.getD 45 undef, tm.getD 46 undef, tm.getD 47 undef, tm.getD 48 undef, tm.getD 49 undef, tm.getD 50 undef, tm.getD 51 undef, tm.getD 52 undef, tm.getD 53 undef, tm.getD 54 undef, tm.getD 55 undef, tm.getD 56 undef, tm.getD 57 undef, tm.getD 58 undef, tm.getD 59 undef, tm.getD 60 undef, tm.getD 61 undef, tm.getD 62 undef, tm.getD 63 undef, tm.getD 64 undef, tm.getD 65 undef, tm.getD 66 undef, tm.getD 67 undef, tm.getD 68 undef, tm.getD 69 undef, tm.getD 70 undef, tm.getD 71 undef, tm.getD 72 undef, tm.getD 73 undef, tm.getD 74 undef, tm.getD 75 undef, tm.getD 76 undef, tm.getD 77 undef, tm.getD 78 undef, tm.getD 79 undef, tm.getD 80 undef, tm.getD 81 undef, tm.getD 82 undef, tm.getD 83 undef, tm.getD 84 undef, tm.getD 85 undef, tm.getD 86 undef, tm.getD 87 undef, tm.getD 88 undef, tm.getD 89 undef, tm.getD 90 undef, tm.getD 91 undef, undef, undef, undef, undef, undef, undef, undef, undef, undef, undef, undef, undef, undef, undef, undef, undef, undef, undef, undef, undef, undef, undef, undef, undef, undef, undef, undef, undef, undef, undef, undef, undef, undef, undef, undef, undef, undef, undef, undef, undef, undef, undef, undef, undef, undef, undef, undef, undef, undef, undef, undef, undef, undef, undef, undef, undef, undef, undef, undef, undef, undef, undef, undef, undef, undef, undef, undef, undef, undef, undef, undef, undef, undef, undef, undef, undef, undef, undef, undef, undef, undef, undef, undef, undef, undef, undef, undef, undef, undef, undef, undef, undef, undef, undef, undef, undef, undef, undef, undef, undef]) (hm : m < 2 ^ 64) (h1 : -2100000 ≤ ex) (h2 : ex ≤ 2000200) : HexC s neg tr w0 ⟨tm, []⟩ (w0.drewN n) := ⟨fun i => tm.getD i undef, m, ex, n, congrArg (fun t => (⟨t, []⟩ : Act)) h, hm, h1, h2, rfl⟩
/-- Behind the rounding. -/
def HexB (s : ByteArray) (neg tr : Bool) (w0 : World) (a : Act) (w : World) : Prop := ∃ (f : Nat → Value) (z ex : Int) (n : Nat), a = ⟨#[.string s, .pointer (some ⟨5, 0, none⟩), .int .u64 z, .int .i64 ex, .bool neg, .bool tr, undef, undef, undef, undef, undef, undef, .float .f64 0, .nilIface, .int .i64 1023, .int .i64 (-1022), f 16, undef, undef, f 19, f 20, f 21, f 22, f 23, f 24, f 25, f 26, f 27, f 28, f 29, f 30, f 31, f 32, f 33, f 34, f 35, f 36, f 37, f 38, f 39, f 40, f 41, f 42, f 43, f 44, f 45, f 46, f 47, f 48, f 49, f 50, f 51, f 52, f 53, f 54, f 55, f 56, f 57, f 58, f 59, f 60, f 61, f 62, f 63, f 64, f 65, f 66, f 67, f 68, f 69, f 70, f 71, f 72, f 73, f 74, f 75, f 76, f 77, f 78, f 79, f 80, f 81, f 82, f 83, f 84, f 85, f 86, f 87, f 88, f 89, f 90, f 91, f 92, f 93, f 94, f 95, f 96, f 97, f 98, f 99, f 100, f 101, f 102, f 103, f 104, f 105, f 106, f 107, f 108, f 109, f 110, f 111, f 112, f 113, f 114, f 115, f 116, f 117, undef, undef, undef, undef, undef, undef, undef, undef, undef, undef, undef, undef, undef, undef, undef, undef, undef, undef, undef, undef, undef, undef, undef, undef, undef, undef, undef, undef, undef, undef, undef, undef, undef, undef, undef, undef, undef, undef, undef, undef, undef, undef, undef, undef, undef, undef, undef, undef, undef, undef, undef, undef, undef, undef, undef, undef, undef, undef, undef, undef, undef, undef, undef, undef, undef, undef, undef, undef, undef, undef, undef, undef, undef, undef], []⟩ ∧ -3000000 ≤ ex ∧ ex ≤ 3000000 ∧ w = w0.drewN n
theorem HexA.of {s : ByteArray} {neg tr : Bool} {w0 : World} {tm : Array Value} (m : Nat) (ex : Int) (n : Nat) (h : tm = #[.string s, .pointer (some ⟨5, 0, none⟩), .int .u64 (m : Int), .int .i64 ex, .bool neg, .bool tr, undef, undef, undef, undef, undef, undef, .float .f64 0, .nilIface, .int .i64 1023, .int .i64 (-1022), undef, undef, undef, tm.getD 19 undef, tm.getD 20 undef, tm.getD 21 undef, tm.getD 22 undef, tm.getD 23 undef, tm.getD 24 undef, tm.getD 25 undef, tm.getD 26 undef, tm.getD 27 undef, tm.getD 28 undef, tm.getD 29 undef, tm.getD 30 undef, tm.getD 31 undef, tm.getD 32 undef, tm.getD 33 undef, tm.getD 34 undef, tm.getD 35 undef, tm.getD 36 undef, tm.getD 37 undef, tm.getD 38 undef, tm.getD 39 undef, tm.getD 40 undef, tm.getD 41 undef, tm.getD 42 undef, tm.getD 43 undef, tm.getD 44 undef, tm.getD 45 undef, tm.getD 46 undef, tm.getD 47 undef, tm.getD 48 undef, tm.getD 49 undef, tm.getD 50 undef, tm.getD 51 undef, tm.getD 52 undef, tm.getD 53 undef, tm.getD 54 undef, tm.getD 55 undef, tm.getD 56 undef, tm.getD 57 undef, tm.getD 58 undef, tm.getD 59 undef, tm.getD 60 undef, undef, undef, undef, undef, undef, undef, undef, undef, undef, undef, undef, undef, undef, undef, undef, undef, undef, undef, undef, undef, undef, undef, undef, undef, undef, undef, undef, undef, undef, undef, undef, undef, undef, undef, undef, undef, undef, undef, undef, undef, undef, undef, undef, undef, undef, undef, undef, undef, undef, undef, undef, undef, undef, undef, undef, undef, undef, undef, undef, undef, undef, undef, undef, undef, undef, undef, undef, undef, undef, undef, undef, undef, undef, undef, undef, undef, undef, undef, undef, undef, undef, undef, undef, undef, undef, undef, undef, undef, undef, undef, undef, undef, undef, undef, undef, undef, undef, undef, undef, undef, undef, undef, undef, undef, undef, undef, undef, undef, undef, undef, undef, undef, undef, undef, undef, undef, undef, undef, undef, undef, undef, undef, undef, undef, undef, undef, undef, undef, undef, undef, undef]) (hm : m < 2 ^ 64) (h1 : -2000000 ≤ ex) (h2 : ex ≤ 2000000) : HexA s neg tr w0 ⟨tm, []⟩ (w0.drewN n) := ⟨fun i => tm.getD i undef, m, ex, n, congrArg (fun t => (⟨t, []⟩ : Act)) h, hm, h1, h2, rfl⟩
theorem HexB.of {s : ByteArray} {neg tr : Bool} {w0 : World} {tm : Array Value} (z ex : Int) (n : Nat) (h : tm = #[.string s, .pointer (some ⟨5, 0, none⟩), .int .u64 z, .int .i64 ex, .bool neg, .bool tr, undef, undef, undef, undef, undef, undef, .float .f64 0, .nilIface, .int .i64 1023, .int .i64 (-1022), tm.getD 16 undef, undef, undef, tm.getD 19 undef, tm.getD 20 undef, tm.getD 21 undef, tm.getD 22 undef, tm.getD 23 undef, tm.getD 24 undef, tm.getD 25 undef, tm.getD 26 undef, tm.getD 27 undef, tm.getD 28 undef, tm.getD 29 undef, tm.getD 30 undef, tm.getD 31 undef, tm.getD 32 undef, tm.getD 33 undef, tm.getD 34 undef, tm.getD 35 undef, tm.getD 36 undef, tm.getD 37 undef, tm.getD 38 undef, tm.getD 39 undef, tm.getD 40 undef, tm.getD 41 undef, tm.getD 42 undef, tm.getD 43 undef, tm.getD 44 undef, tm.getD 45 undef, tm.getD 46 undef, tm.getD 47 undef, tm.getD 48 undef, tm.getD 49 undef, tm.getD 50 undef, tm.getD 51 undef, tm.getD 52 undef, tm.getD 53 undef, tm.getD 54 undef, tm.getD 55 undef, tm.getD 56 undef, tm.getD 57 undef, tm.getD 58 undef, tm.getD 59 undef, tm.getD 60 undef, tm.getD 61 undef, tm.getD 62 undef, tm.getD 63 undef, tm.getD 64 undef, tm.getD 65 undef, tm.getD 66 undef, tm.getD 67 undef, tm.getD 68 undef, tm.getD 69 undef, tm.getD 70 undef, tm.getD 71 undef, tm.getD 72 undef, tm.getD 73 undef, tm.getD 74 undef, tm.getD 75 undef, tm.getD 76 undef, tm.getD 77 undef, tm.getD 78 undef, tm.getD 79 undef, tm.getD 80 undef, tm.getD 81 undef, tm.getD 82 undef, tm.getD 83 undef, tm.getD 84 undef, tm.getD 85 undef, tm.getD 86 undef, tm.getD 87 undef, tm.getD 88 undef, tm.getD 89 undef, tm.getD 90 undef, tm.getD 91 undef, tm.getD 92 undef, tm.getD 93 undef, tm.getD 94 undef, tm.getD 95 undef, tm.getD 96 undef, tm.getD 97 undef, tm.getD 98 undef, tm.getD 99 undef, tm.getD 100 undef, tm.getD 101 undef, tm.getD 102 undef, tm.getD 103 undef, tm.getD 104 undef, tm.getD 105 undef, tm.getD 106 undef, tm.getD 107 undef, tm.getD 108 undef, tm.getD 109 undef, tm.getD 110 undef, tm.getD 111 undef, tm.getD 112 undef, tm.getD 113 undef, tm.getD 114 undef, tm.getD 115 undef, tm.getD 116 undef, tm.getD 117 undef, undef, undef, undef, undef, undef, undef, undef, undef, undef, undef, undef, undef, undef, undef, undef, undef, undef, undef, undef, undef, undef, undef, undef, undef, undef, undef, undef, undef, undef, undef, undef, undef, undef, undef, undef, undef, undef, undef, undef, undef, undef, undef, undef, undef, undef, undef, undef, undef, undef, undef, undef, undef, undef, undef, undef, undef, undef, undef, undef, undef, undef, undef, undef, undef, undef, undef, undef, undef, undef, undef, undef, undef, undef, undef]) (h1 : -3000000 ≤ ex) (h2 : ex ≤ 3000000) : HexB s neg tr w0 ⟨tm, []⟩ (w0.drewN n) := ⟨fun i => tm.getD i undef, z, ex, n, congrArg (fun t => (⟨t, []⟩ : Act)) h, h1, h2, rfl⟩

theorem half_or {m k : Nat} (hm : m < 2 ^ (k + 1)) (hk : 1 ≤ k) (h64 : m < 2 ^ 64) : ∃ a m' : Nat, bits .and .u64 (m : Int) 1 = (a : Int) ∧ bits .or .u64 ((m : Int) / 2) (a : Int) = (m' : Int) ∧ m' < 2 ^ k ∧ m' < 2 ^ 64 := by
  have h1 : m &&& 1 ≤ 1 := Nat.and_le_right
  have h2 : m / 2 < 2 ^ k := by rw [Nat.pow_succ] at hm; omega
  have h3 : m &&& 1 < 2 ^ k := by
    have : 2 ^ 1 ≤ 2 ^ k := Nat.pow_le_pow_right (by decide) hk
    omega
  have h64' : m < 18446744073709551616 := h64
  refine ⟨m &&& 1, m / 2 ||| m &&& 1, bits_and_u64_nat m 1 h64' (by decide), ?_, Nat.or_lt_two_pow h2 h3, Nat.or_lt_two_pow (by omega) (by omega)⟩
  have := bits_or_u64_nat (m / 2) (m &&& 1) (by omega) (by omega)
  rw [← this]
  push_cast
  rfl
theorem half_or1 {m : Nat} (h64 : m < 2 ^ 64) : ∃ m' : Nat, bits .or .u64 (m : Int) 1 = (m' : Int) ∧ m' < 2 ^ 64 := by
  refine ⟨m ||| 1, bits_or_u64_nat m 1 h64 (by decide), Nat.or_lt_two_pow h64 (by decide)⟩

theorem info_fi : (Tryz.prog.info? 121).map (fun i => (i.zero, i.size, i.bytes)) = some (some (.agg #[.int .u64 0, .int .u64 0, .int .i64 0]), 3, 24) := by kernel_rfl
theorem cmp53 {w : World} (h5 : ∃ ca ta, w.heap[5]? = some (.cells ca ta (0, 0))) (h3 : ∃ ca ta, w.heap[3]? = some (.cells ca ta (0, 0))) (n : Nat) : (binOp .eql 119 (.pointer (some ⟨5, 0, none⟩)) (.pointer (some ⟨3, 0, none⟩))).run Tryz.prog (w.drewN n) = .ok (.bool false) (w.drewN n) := by
  obtain ⟨ca, ta, h5⟩ := h5
  obtain ⟨cb, tb, h3⟩ := h3
  obtain ⟨i, hi, hz, hs, -⟩ := info_parts info_fi
  exact run_eql_ptr_other (w.drewN n) Tryz.underlying119 hi (by rw [hs]; decide) (by decide) h5 h3
def HexOut (w : World) (e : Ending) (w' : World) : Prop := (∃ n, w' = w.drewN n) ∧ ∃ (f : Nat) (v : Value), ErrV v ∧ e = .returned (.tuple #[.float .f64 f, v])

set_option maxRecDepth 8000 in
set_option maxHeartbeats 16000000 in
theorem hex_at {w : World} {s : ByteArray} {m : Nat} {ex : Int} {neg tr : Bool} (h64 : m < 2 ^ 64) (hex : -1000000 ≤ ex ∧ ex ≤ 1000000) (t1 : w.cell? ⟨5, 0, none⟩ = some (.int .u64 52)) (t2 : w.cell? ⟨5, 1, none⟩ = some (.int .u64 11)) (t3 : w.cell? ⟨5, 2, none⟩ = some (.int .i64 (-1023))) (h5 : ∃ ca ta, w.heap[5]? = some (.cells ca ta (0, 0))) (h3 : ∃ ca ta, w.heap[3]? = some (.cells ca ta (0, 0))) :
    Calls Tryz.prog 81 #[.string s, .pointer (some ⟨5, 0, none⟩), .int .u64 m, .int .i64 ex, .bool neg, .bool tr] w (HexOut w) := by
  have hr := run_from89
  have hcmp := cmp53 h5 h3
  clear h5 h3
  have h64H := Lib.hid h64
  clear h64
  go_enter Tryz.func81, Tryz.ntmps81
  go_wp2_with fail
  go_quiet (fail)
  repeat ((fail_if_success (refine wp_cut (c := Code.block 0 _) (M := fun _ _ => True) ?_ ?_)); (first | go_values | go_skip | go_guarded | go_step | go_upon))
  refine wp_cut (c := Code.block 0 _) (M := HexA s neg tr w) ?_ ?_
  · show Code.wp _ _ _ _ _
    go_step
    go_loopg [2, 3] 64 (fun gk m2 e3 wr => ∃ (m' : Nat) (ex' : Int), m2 = .int .u64 m' ∧ e3 = .int .i64 ex' ∧ w.drewN nq = wr ∧ Hid (m' < 2 ^ 64) ∧ Hid (gk ≤ 64 ∧ (m' ≠ 0 → 2 ^ (64 - gk) ≤ m')) ∧ Hid (ex' = ex + 52 - (64 - (gk : Int))))
    case atStart => exact ⟨m, ex + 52, rfl, rfl, rfl, h64H, Lib.hid ⟨Nat.le_refl _, fun h => by simp; omega⟩, Lib.hid (by omega)⟩
    case round =>
      obtain ⟨m', ex', rfl, rfl, rfl, hm, hg, he⟩ := hrel
      have hx1 : -1000064 ≤ ex' := by have := he.out; omega
      have hx2 : ex' ≤ 1000100 := by have := he.out; have := hg.out.1; omega
      by_cases h0 : m' = 0
      · subst h0
        go_wp2_with fail
        exact HexA.of 0 ex' nq rfl (by decide) (by omega) (by omega)
      · have q1 : ((m' : Int) != 0) = true := by rw [bne_iff_ne]; omega
        rcases Nat.lt_or_ge m' (2 ^ 54) with hlt | hge
        · have q2 : (((m' : Int) / 18014398509481984) == 0) = true := by
            rw [beq_iff_eq]
            have : m' < 18014398509481984 := hlt
            omega
          have q3 : IntKind.u64.wrap ((m' : Int) * 2) = ((m' * 2 : Nat) : Int) := by
            have : m' < 18014398509481984 := hlt
            rw [IntKind.wrap_u64]
            omega
          have hg2 := hg.out.2 h0
          have hgk : 11 ≤ gk := by
            apply Decidable.byContradiction
            intro hc
            have : 2 ^ 54 ≤ 2 ^ (64 - gk) := Nat.pow_le_pow_right (by decide) (by omega)
            omega
          have hn : (gk - 1 ≤ 64 ∧ (m' * 2 ≠ 0 → 2 ^ (64 - (gk - 1)) ≤ m' * 2)) ∧ m' * 2 < 2 ^ 64 ∧ ex' - 1 = ex + 52 - (64 - ((gk - 1 : Nat) : Int)) := by
            refine ⟨⟨by have := hg.out.1; omega, fun _ => ?_⟩, ?_, by have := he.out; omega⟩
            · rw [show 64 - (gk - 1) = 64 - gk + 1 by have := hg.out.1; omega, Nat.pow_succ]
              omega
            · have e1 : (2 : Nat) ^ 64 = 2 ^ 54 * 1024 := by decide
              omega
          have hnH := Lib.hid hn
          have hgkH := Lib.hid hgk
          generalize m' * 2 = m3 at *
          clear hlt hg2 hn hgk h0
          go_wp2_with fail
          go_roundg (gk - 1)
          case measure => have := hgkH.out; omega
          case rel => exact ⟨m3, ex' - 1, rfl, rfl, rfl, Lib.hid hnH.out.2.1, Lib.hid hnH.out.1, Lib.hid hnH.out.2.2⟩
        · have q2 : (((m' : Int) / 18014398509481984) == 0) = false := by
            rw [beq_eq_false_iff_ne]
            have : 18014398509481984 ≤ m' := hge
            omega
          clear hge
          go_wp2_with fail
          exact HexA.of m' ex' nq rfl hm.out (by omega) (by omega)
  · clear h64H hex
    intro a1 w1 ⟨f, m, ex, n, ha, hm, hx1, hx2, hw⟩
    subst ha hw
    try dsimp only
    have hmH := Lib.hid hm
    clear hm
    repeat ((fail_if_success (refine wp_cut (c := Code.seq (Code.region 7 _ _) _) (M := fun _ _ => True) ?_ ?_)); (first | go_values | go_skip | go_guarded | go_step | go_upon))
    refine wp_cut (c := Code.seq (Code.region 7 _ _) _) (M := HexA s neg tr w) ?_ ?_
    · show Code.wp _ _ _ _ _
      cases tr with
      | true =>
        obtain ⟨m1, e1, e2⟩ := half_or1 hmH.out
        have e2H := Lib.hid e2
        clear e2
        go_wp2_with fail
        exact HexA.of m1 ex n rfl e2H.out (by omega) (by omega)
      | false =>
        go_wp2_with fail
        exact HexA.of m ex n rfl hmH.out (by omega) (by omega)
    · clear hmH hx1 hx2
      intro a1 w1 ⟨f, m, ex, n, ha, hm, hx1, hx2, hw⟩
      subst ha hw
      try dsimp only
      have hmH := Lib.hid hm
      clear hm
      repeat ((fail_if_success (refine wp_cut (c := Code.block 2 _) (M := fun _ _ => True) ?_ ?_)); (first | go_values | go_skip | go_guarded | go_step | go_upon))
      refine wp_cut (c := Code.block 2 _) (M := HexB2 s neg tr w) ?_ ?_
      · show Code.wp _ _ _ _ _
        go_step
        go_loopg [2, 3] 64 (fun gk m2 e3 wr => ∃ (m' : Nat) (ex' : Int), m2 = .int .u64 m' ∧ e3 = .int .i64 ex' ∧ w.drewN n = wr ∧ Hid (m' < 2 ^ 64) ∧ Hid (gk ≤ 64 ∧ m' < 2 ^ gk) ∧ Hid (ex' = ex + (64 - (gk : Int))))
        case atStart => exact ⟨m, ex, rfl, rfl, rfl, hmH, Lib.hid ⟨Nat.le_refl _, hmH.out⟩, Lib.hid (by omega)⟩
        case round =>
          obtain ⟨m', ex', rfl, rfl, rfl, hm, hg, he⟩ := hrel
          have hx3 : -2000000 ≤ ex' := by have := he.out; have := hg.out.1; omega
          have hx4 : ex' ≤ 2000064 := by have := he.out; omega
          rcases Nat.lt_or_ge m' (2 ^ 55) with hlt | hge
          · have q2 : (((m' : Int) / 36028797018963968) != 0) = false := by
              rw [bne_eq_false_iff_eq]
              have : m' < 36028797018963968 := hlt
              omega
            clear hlt
            go_wp2_with fail
            exact HexB2.of m' ex' n rfl hm.out (by omega) (by omega)
          · have q2 : (((m' : Int) / 36028797018963968) != 0) = true := by
              rw [bne_iff_ne]
              have : 36028797018963968 ≤ m' := hge
              omega
            have hgk : 56 ≤ gk := by
              apply Decidable.byContradiction
              intro hc
              have h1 : 2 ^ gk ≤ 2 ^ 55 := Nat.pow_le_pow_right (by decide) (by omega)
              have h2 := hg.out.2
              omega
            obtain ⟨a, m3, b1, b2, b3, b4⟩ := half_or (m := m') (k := gk - 1) (by rw [show gk - 1 + 1 = gk by omega]; exact hg.out.2) (by omega) hm.out
            have b3H := Lib.hid b3
            have b4H := Lib.hid b4
            have hgkH := Lib.hid hgk
            clear hge b3 b4 hgk
            go_wp2_with fail
            go_roundg (gk - 1)
            case measure => have := hgkH.out; omega
            case rel => exact ⟨m3, ex' + 1, rfl, rfl, rfl, b4H, Lib.hid ⟨by have := hg.out.1; omega, b3H.out⟩, Lib.hid (by have := he.out; have := hgkH.out; omega)⟩
      · clear hmH hx1 hx2
        intro a1 w1 ⟨f, m, ex, n, ha, hm, hx1, hx2, hw⟩
        subst ha hw
        try dsimp only
        have hmH := Lib.hid hm
        clear hm
        repeat ((fail_if_success (refine wp_cut (c := Code.block 4 _) (M := fun _ _ => True) ?_ ?_)); (first | go_values | go_skip | go_guarded | go_step | go_upon))
        refine wp_cut (c := Code.block 4 _) (M := HexC s neg tr w) ?_ ?_
        · show Code.wp _ _ _ _ _
          go_step
          go_loopg [2, 3] 64 (fun gk m2 e3 wr => ∃ (m' : Nat) (ex' : Int), m2 = .int .u64 m' ∧ e3 = .int .i64 ex' ∧ w.drewN n = wr ∧ Hid (m' < 2 ^ 64) ∧ Hid (gk ≤ 64 ∧ m' < 2 ^ gk) ∧ Hid (ex' = ex + (64 - (gk : Int))))
          case atStart => exact ⟨m, ex, rfl, rfl, rfl, hmH, Lib.hid ⟨Nat.le_refl _, hmH.out⟩, Lib.hid (by omega)⟩
          case round =>
            obtain ⟨m', ex', rfl, rfl, rfl, hm, hg, he⟩ := hrel
            have hx3 : -2100000 ≤ ex' := by have := he.out; have := hg.out.1; omega
            have hx4 : ex' ≤ 2000164 := by have := he.out; omega
            rcases Nat.lt_or_ge 1 m' with hlt | hge
            · have q1 : (1 : Int) < (m' : Int) := by omega
              by_cases hx5 : ex' < -1024
              · have hgk : 2 ≤ gk := by
                  apply Decidable.byContradiction
                  intro hc
                  have h1 : 2 ^ gk ≤ 2 ^ 1 := Nat.pow_le_pow_right (by decide) (by omega)
                  have h2 := hg.out.2
                  omega
                obtain ⟨a, m3, b1, b2, b3, b4⟩ := half_or (m := m') (k := gk - 1) (by rw [show gk - 1 + 1 = gk by omega]; exact hg.out.2) (by omega) hm.out
                have b3H := Lib.hid b3
                have b4H := Lib.hid b4
                have hgkH := Lib.hid hgk
                clear hlt b3 b4 hgk
                go_wp2_with fail
                go_roundg (gk - 1)
                case measure => have := hgkH.out; omega
                case rel => exact ⟨m3, ex' + 1, rfl, rfl, rfl, b4H, Lib.hid ⟨by have := hg.out.1; omega, b3H.out⟩, Lib.hid (by have := he.out; have := hgkH.out; omega)⟩
              · clear hlt
                go_wp2_with fail
                exact HexC.of m' ex' n rfl hm.out (by omega) (by omega)
            · have q1 : ¬ (1 : Int) < (m' : Int) := by omega
              clear hge
              go_wp2_with fail
              exact HexC.of m' ex' n rfl hm.out (by omega) (by omega)
        · clear hmH hx1 hx2
          intro a1 w1 ⟨f, m, ex, n, ha, hm, hx1, hx2, hw⟩
          subst ha hw
          try dsimp only
          clear hm
          repeat ((fail_if_success (refine wp_cut (c := Code.seq (Code.region 19 _ _) _) (M := fun _ _ => True) ?_ ?_)); (first | go_values | go_skip | go_guarded | go_step | go_upon))
          refine wp_cut (c := Code.seq (Code.region 19 _ _) _) (M := HexB s neg tr w) ?_ ?_
          · show Code.wp _ _ _ _ _
            go_wp2_with fail
            all_goals exact HexB.of _ _ n rfl (by omega) (by omega)
          · clear hx1 hx2
            intro a1 w1 ⟨f, z, ex, n, ha, hx1, hx2, hw⟩
            subst ha hw
            try dsimp only
            go_wp2_with fail
            all_goals
              go_quiet (fail)
              go_wp2_with fail
              all_goals first
              | (go_ret2; first | exact ⟨⟨_, rfl⟩, _, _, Or.inl rfl, rfl⟩ | exact ⟨⟨_, rfl⟩, _, _, (by first | exact Or.inr (Or.inl rfl) | exact Or.inr (Or.inr rfl)), rfl⟩)
              | (go_quiet (fail); go_wp2_with fail; go_ret2; first | exact ⟨⟨_, rfl⟩, _, _, Or.inl rfl, rfl⟩ | exact ⟨⟨_, rfl⟩, _, _, (by first | exact Or.inr (Or.inl rfl) | exact Or.inr (Or.inr rfl)), rfl⟩)
end Go.Proofs.YthagnngckegekaaGreatDoor
