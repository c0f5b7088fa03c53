/-
  How many parts and bytes a tree has: the measure. No program in sight. Conditions: none.
-/
import Derived.Test.YthagnngckegekaaGreatDoorFits
import Derived.Test.YthagnngckegekaaGreatDoorBox
namespace Go.Proofs.YthagnngckegekaaGreatDoor
set_option linter.unusedVariables false

def sumS (xs : List ByteArray) : Nat := (xs.map (·.size)).sum
theorem sumS_snoc {xs : List ByteArray} {k : Nat} {s : ByteArray} (h : xs[k]? = some s) : sumS (xs.take (k + 1)) = sumS (xs.take k) + s.size := by
  rw [take_get h]; simp [sumS]
mutual
def V.wt : V → Nat
  | ⟨_, _, _, s, l, ks⟩ => 1 + s.size + ks.length + sumS ks + V.wts l
def V.wts : List V → Nat
  | [] => 0
  | v :: r => v.wt + V.wts r
end
theorem V.wt_eq (v : V) : v.wt = 1 + v.s.size + v.keys.length + sumS v.keys + V.wts v.l := by cases v; simp [V.wt]
theorem wts_append (a b : List V) : V.wts (a ++ b) = V.wts a + V.wts b := by
  induction a with
  | nil => simp [V.wts]
  | cons x r ih => simp [V.wts, ih]; omega
theorem wts_snoc {l : List V} {k : Nat} {v : V} (h : l[k]? = some v) : V.wts (l.take (k + 1)) = V.wts (l.take k) + v.wt := by
  rw [take_get h, wts_append]; simp [V.wts]
theorem wt_pos (v : V) : 1 ≤ v.wt := by rw [V.wt_eq]; omega
end Go.Proofs.YthagnngckegekaaGreatDoor
