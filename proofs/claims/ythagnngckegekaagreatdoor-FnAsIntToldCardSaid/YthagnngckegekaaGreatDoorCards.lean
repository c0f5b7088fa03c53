/-
  DERIVED. GIVEN WITH THE SEED: THE CARDS: each row of YthagnngckegekaaGreatDoorRows.lean that lists a variable, with what it lists TIED to the program's text (the seventh form; the later family's looks); each row that meets fmt, with fmt's text TOLD by the authors' own Lean function (tested against real Go, not proved from fmt's source: count such statements apart). THE CARD IS WHAT COUNTS. Prove the row's statement (the work); the ties are given (YthagnngckegekaaGreatDoorTie.lean); close each card by the builder's one call (the guide's Derived/Test/ToyasCard.lean, 'card_holds'). Laid BY PROGRAM, IN A SANDBOX (cutbox-door.mjs). By AI agents, Wed Nov 11 2026. No macro, syntax, notation, axiom, sorry.
-/
import Derived.Test.YthagnngckegekaaGreatDoorRows
import GoSem.ClaimSeven
namespace Go.Proofs.YthagnngckegekaaGreatDoor
namespace Rows

/-- THE TIED CARD OF 'laws.FnAsIntTold'. -/
def fnAsIntToldCard : Claim7 := { stood := { row := fnAsIntToldRow, standIns := [], harness := (true, "c4f9aa1605ef9438f9b70c3b82f7af5df6d08d641893c6be2400a9912a1bfb47"), looks := true }, kinds := [], alts := [], laidByText := true, laidKinds := [.data, .data, .widerDeep, .widerDeep, .data, .data, .data, .data, .data, .sentinel, .sentinel, .pinned, .pinned], laidTests := true, laidLooks := .later }
def FnAsIntToldCardSaid : Prop := Claim7.holds Tryz.pinned (.plain (OpenSpec.ofChange fnAsIntToldSpec)) fnAsIntToldCard

/-- THE SECOND FORM's CARD OF 'laws.FnAsIntTold'. -/
def fnAsIntToldUptoCard : Claim7 := { stood := { row := fnAsIntToldUptoRow, standIns := [], harness := (true, "c4f9aa1605ef9438f9b70c3b82f7af5df6d08d641893c6be2400a9912a1bfb47"), looks := true }, kinds := [], alts := [], laidByText := true, laidKinds := [.data, .data, .widerDeep, .widerDeep, .data, .data, .data, .data, .data, .sentinel, .sentinel, .pinned, .pinned], laidTests := true, laidLooks := .later }
def FnAsIntToldUptoCardSaid : Prop := Claim7.holds Tryz.pinned (.plain (OpenSpec.upto fnAsIntToldSpec)) fnAsIntToldUptoCard
end Rows
end Go.Proofs.YthagnngckegekaaGreatDoor
