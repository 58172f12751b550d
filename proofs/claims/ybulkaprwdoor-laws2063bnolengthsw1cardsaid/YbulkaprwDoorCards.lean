/-
  DERIVED. GIVEN WITH THE SEED: THE CARDS: each row of YbulkaprwDoorRows.lean that lists a variable, with what it lists TIED to the program's text (the seventh form; the later family's looks); each row that meets fmt, with fmt's text TOLD by the authors' own Lean function (tested against real Go, not proved from fmt's source: count such statements apart). THE CARD IS WHAT COUNTS. Prove the row's statement (the work); the ties are given (YbulkaprwDoorTie.lean); close each card by the builder's one call (the guide's Derived/Test/ToyasCard.lean, 'card_holds'). Laid BY PROGRAM, IN A SANDBOX (cutbox-door.mjs). By AI agents, Wed Nov 11 2026. No macro, syntax, notation, axiom, sorry.
-/
import Derived.Test.YbulkaprwDoorRows
import GoSem.ClaimSeven
namespace Go.Proofs.YbulkaprwDoor
namespace Rows

/-- THE TIED CARD OF 'card.LawS2063BTable'. -/
def lawS2063BTableCard : Claim7 := { stood := { row := lawS2063BTableRow, standIns := [], harness := (true, "6aab6aa288961df4bc576d93b62f5a86736a0ed25dbd0251356c239eb14a0de5"), looks := false }, kinds := [], alts := [], laidByText := true, laidKinds := [.mapped], laidTests := true, laidLooks := .later }
def LawS2063BTableCardSaid : Prop := Claim7.holds Ybad.pinned (.plain (OpenSpec.ofChange lawS2063BTableSpec)) lawS2063BTableCard

/-- THE TIED CARD OF 'card.LawS2063BNoLengthSW1'. -/
def lawS2063BNoLengthSW1Card : Claim7 := { stood := { row := lawS2063BNoLengthSW1Row, standIns := [], harness := (true, "6aab6aa288961df4bc576d93b62f5a86736a0ed25dbd0251356c239eb14a0de5"), looks := false }, kinds := [], alts := [], laidByText := true, laidKinds := [.mapped], laidTests := true, laidLooks := .later }
def LawS2063BNoLengthSW1CardSaid : Prop := Claim7.holds Ybad.pinned (.plain (OpenSpec.ofChange lawS2063BNoLengthSW1Spec)) lawS2063BNoLengthSW1Card
end Rows
end Go.Proofs.YbulkaprwDoor
