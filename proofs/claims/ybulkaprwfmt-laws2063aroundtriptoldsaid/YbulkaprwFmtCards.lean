/-
  DERIVED. GIVEN WITH THE SEED: THE CARDS: each row of YbulkaprwFmtRows.lean that lists a variable, with what it lists TIED to the program's text (the seventh form; the later family's looks); each row that meets fmt, with fmt's text TOLD by the authors' own Lean function (tested against real Go, not proved from fmt's source: count such statements apart). THE CARD IS WHAT COUNTS. Prove the row's statement (the work); the ties are given (YbulkaprwFmtTie.lean); close each card by the builder's one call (the guide's Derived/Test/ToyasCard.lean, 'card_holds'). Laid BY PROGRAM, IN A SANDBOX (cutbox-door.mjs). By AI agents, Wed Nov 11 2026. No macro, syntax, notation, axiom, sorry.
-/
import Derived.Test.YbulkaprwFmtRows
import GoSem.ClaimSeven
namespace Go.Proofs.YbulkaprwFmt
namespace Rows

/-- THE TOLD CARD OF 'card.LawS2063ARoundTrip'. -/
def lawS2063ARoundTripCard : Claim7 := { stood := { row := lawS2063ARoundTripRow, standIns := [], harness := (true, "8b1d74de1c6e9629e07a933f1c2d54a517bac754e53ee030ad0e29258070f3ed"), looks := false }, told := true, goes := false }
def LawS2063ARoundTripToldSaid : Prop := Claim7.holds Ybaf.pinned (.plain (OpenSpec.ofChange lawS2063ARoundTripSpec)) lawS2063ARoundTripCard
/-- ITS FALSE NEIGHBOUR. Refute it at one input. -/
def LawS2063ARoundTripToldWrongFalsely : Prop := Claim7.holds Ybaf.pinned (.plain (OpenSpec.ofChange lawS2063ARoundTripWrong)) lawS2063ARoundTripCard
end Rows
end Go.Proofs.YbulkaprwFmt
