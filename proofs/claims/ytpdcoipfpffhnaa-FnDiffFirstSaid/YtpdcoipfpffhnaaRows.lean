/-
  NARROWER THAN 'FOR EVERY INPUT', by the rows' own cells (each row's printed sentence says how): FnFits: loops · FnFilterNested: loops · FnDiffFirst: loops.
  DERIVED. THE GIVEN ROWS OF THIS SEAT. 3 by the template 'for every input the law returns true; each argument reads behind the call as it read before'; 0 by the template 'total and deterministic' (their statements: YtpdcoipfpffhnaaTotals.lean).
  GIVEN WITH THE SEED: the statements are not yours to turn. If you find one false, say at which input.
  Laid BY PROGRAM, IN A SANDBOX (cutbox-rows.mjs): the forced cells as the released guide's own fill.sh prints them over the translation 105cb11af75deb07… (all of the seat's roots in one cut). By AI agents, Wed Nov 11 2026. No macro, syntax, notation, axiom, sorry.
-/
import Derived.Test.YtpdcoipfpffhnaaChecked
import GoSem.Claim
import GoSem.ClaimJoined
import GoSem.ClaimMapViews
import Derived.JoinedTies
import Derived.KernelRfl
namespace Go.Proofs.Ytpdcoipfpffhnaa
/- THE CELL 'sum', in the pinned program and in every row, IS THE sha256 OF THE DUMP (.gsa) THAT YtpdcoipfpffhnaaProg.lean LOADS. Nothing in Lean hashes anything: it is a label: what it is worth is what the hold of that sum in a sandbox is worth. -/
noncomputable def Try.pinned : Pinned := { name := "ytpdcoipfpffhnaa", sum := "105cb11af75deb07e5d620978baf3a54c659a0ff01abe669ab557f27a0b28bb2", checked := Try.checked }
namespace Rows
def none {H : Type} : Left H := { results := [], args := [] }

/-- 'laws.FnFits': WHATEVER THE INPUT: true; the input reads as it did. -/
def fnFitsSpec : ChangeSpec := { name := "fnFits", fn := fun _ => fun
  | [d1, d2] => { results := [.lit (.bool true)], args := [d1, d2] }
  | _ => none }
def fnFitsRow : OpenClaim := { program := "ytpdcoipfpffhnaa", sum := "105cb11af75deb07e5d620978baf3a54c659a0ff01abe669ab557f27a0b28bb2", func := "pub-hodometer/laws.FnFits", spec := "fnFits", inPlace := ["math.Float64bits", "math.Float64frombits"], unfollowed := true, recurses := true, loops := true, apart := false }
def FnFitsSaid : Prop := fnFitsRow.holds Try.pinned (OpenSpec.ofChange fnFitsSpec)

/-- ITS FALSE NEIGHBOUR: 'it returns false'. Refute it at one input. -/
def fnFitsWrong : ChangeSpec := { name := "fnFits", fn := fun _ => fun
  | [d1, d2] => { results := [.lit (.bool false)], args := [d1, d2] }
  | _ => none }
def FnFitsWrongFalsely : Prop := fnFitsRow.holds Try.pinned (OpenSpec.ofChange fnFitsWrong)

/-- 'laws.FnFilterNested': WHATEVER THE INPUT: true; the input reads as it did. -/
def fnFilterNestedSpec : ChangeSpec := { name := "fnFilterNested", fn := fun _ => fun
  | [d1, d2, d3, d4] => { results := [.lit (.bool true)], args := [d1, d2, d3, d4] }
  | _ => none }
def fnFilterNestedRow : OpenClaim := { program := "ytpdcoipfpffhnaa", sum := "105cb11af75deb07e5d620978baf3a54c659a0ff01abe669ab557f27a0b28bb2", func := "pub-hodometer/laws.FnFilterNested", spec := "fnFilterNested", inPlace := ["math.Float64bits", "math.Float64frombits"], unfollowed := true, recurses := true, loops := true, apart := false }
def FnFilterNestedSaid : Prop := fnFilterNestedRow.holds Try.pinned (OpenSpec.ofChange fnFilterNestedSpec)

/-- ITS FALSE NEIGHBOUR: 'it returns false'. Refute it at one input. -/
def fnFilterNestedWrong : ChangeSpec := { name := "fnFilterNested", fn := fun _ => fun
  | [d1, d2, d3, d4] => { results := [.lit (.bool false)], args := [d1, d2, d3, d4] }
  | _ => none }
def FnFilterNestedWrongFalsely : Prop := fnFilterNestedRow.holds Try.pinned (OpenSpec.ofChange fnFilterNestedWrong)

/-- 'laws.FnDiffFirst': WHATEVER THE INPUT: true; the input reads as it did. -/
def fnDiffFirstSpec : ChangeSpec := { name := "fnDiffFirst", fn := fun _ => fun
  | [d1, d2] => { results := [.lit (.bool true)], args := [d1, d2] }
  | _ => none }
def fnDiffFirstRow : OpenClaim := { program := "ytpdcoipfpffhnaa", sum := "105cb11af75deb07e5d620978baf3a54c659a0ff01abe669ab557f27a0b28bb2", func := "pub-hodometer/laws.FnDiffFirst", spec := "fnDiffFirst", inPlace := ["math.Float64bits", "math.Float64frombits"], unfollowed := true, recurses := true, loops := true, apart := false }
def FnDiffFirstSaid : Prop := fnDiffFirstRow.holds Try.pinned (OpenSpec.ofChange fnDiffFirstSpec)

/-- ITS FALSE NEIGHBOUR: 'it returns false'. Refute it at one input. -/
def fnDiffFirstWrong : ChangeSpec := { name := "fnDiffFirst", fn := fun _ => fun
  | [d1, d2] => { results := [.lit (.bool false)], args := [d1, d2] }
  | _ => none }
def FnDiffFirstWrongFalsely : Prop := fnDiffFirstRow.holds Try.pinned (OpenSpec.ofChange fnDiffFirstWrong)

/- THE SECOND FORM. 'bulk': how many values and letters a reading holds, each counted each time it is reached (what is shared counts as often as it is met; a slice's spare places count too). A statement '..UptoSaid' is the law's where the arguments, and the package variables that the reading takes, are together of bulk at most 1048576: NARROWER than '..Said'. Prove '..Said' where nothing that the law and all that it calls make is longer than what came in: it says more and counts as full. Else prove '..UptoSaid'. A law counts once. -/
mutual
def uptoBulk {H : Type} : DataW H → Nat
  | .lit (.string bytes) => bytes.length + 1
  | .lit _ => 1
  | .nil => 1
  | .ptr d => uptoBulk d + 1
  | .slice elems spare => uptoBulkAll elems + uptoBulkAll spare + 1
  | .agg parts => uptoBulkAll parts + 1
  | .iface _ d => uptoBulk d + 1
  | .map entries => uptoBulkEntries entries + 1
  | .held _ => 1
def uptoBulkAll {H : Type} : List (DataW H) → Nat
  | [] => 0
  | d :: r => uptoBulk d + uptoBulkAll r
def uptoBulkEntries {H : Type} : List (Lit × DataW H) → Nat
  | [] => 0
  | x :: r => uptoBulkEntry x + uptoBulkEntries r
def uptoBulkEntry {H : Type} : Lit × DataW H → Nat
  | (.string bytes, d) => bytes.length + uptoBulk d + 1
  | (_, d) => uptoBulk d + 1
 end
def uptoSmall : (H : Type) → List (DataW H) → Bool := fun _ ds => decide (uptoBulkAll ds ≤ 1048576)
def OpenSpec.upto (s : _root_.Go.ChangeSpec) : _root_.Go.OpenSpec := { _root_.Go.OpenSpec.ofChange s with cond := some uptoSmall }

/-- 'laws.FnFits', WHERE WHAT IT READS IS OF BULK AT MOST 1048576: true; the input reads as it did. -/
def fnFitsUptoRow : OpenClaim := { program := "ytpdcoipfpffhnaa", sum := "105cb11af75deb07e5d620978baf3a54c659a0ff01abe669ab557f27a0b28bb2", func := "pub-hodometer/laws.FnFits", spec := "fnFits", inPlace := ["math.Float64bits", "math.Float64frombits"], unfollowed := true, recurses := true, loops := true, apart := false, narrowed := true }
def FnFitsUptoSaid : Prop := fnFitsUptoRow.holds Try.pinned (OpenSpec.upto fnFitsSpec)

/-- 'laws.FnFilterNested', WHERE WHAT IT READS IS OF BULK AT MOST 1048576: true; the input reads as it did. -/
def fnFilterNestedUptoRow : OpenClaim := { program := "ytpdcoipfpffhnaa", sum := "105cb11af75deb07e5d620978baf3a54c659a0ff01abe669ab557f27a0b28bb2", func := "pub-hodometer/laws.FnFilterNested", spec := "fnFilterNested", inPlace := ["math.Float64bits", "math.Float64frombits"], unfollowed := true, recurses := true, loops := true, apart := false, narrowed := true }
def FnFilterNestedUptoSaid : Prop := fnFilterNestedUptoRow.holds Try.pinned (OpenSpec.upto fnFilterNestedSpec)

/-- 'laws.FnDiffFirst', WHERE WHAT IT READS IS OF BULK AT MOST 1048576: true; the input reads as it did. -/
def fnDiffFirstUptoRow : OpenClaim := { program := "ytpdcoipfpffhnaa", sum := "105cb11af75deb07e5d620978baf3a54c659a0ff01abe669ab557f27a0b28bb2", func := "pub-hodometer/laws.FnDiffFirst", spec := "fnDiffFirst", inPlace := ["math.Float64bits", "math.Float64frombits"], unfollowed := true, recurses := true, loops := true, apart := false, narrowed := true }
def FnDiffFirstUptoSaid : Prop := fnDiffFirstUptoRow.holds Try.pinned (OpenSpec.upto fnDiffFirstSpec)

end Rows
end Go.Proofs.Ytpdcoipfpffhnaa
