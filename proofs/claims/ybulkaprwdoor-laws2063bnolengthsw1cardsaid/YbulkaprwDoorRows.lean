/-
  NARROWER THAN 'FOR EVERY INPUT', by the rows' own cells (each row's printed sentence says how): LawS2063BTable: maps, laid · LawS2063BNoLengthSW1: maps, laid.
  DERIVED. THE GIVEN ROWS OF THIS SEAT. 2 by the template 'for every input the law returns true; each argument reads behind the call as it read before'; 0 by the template 'total and deterministic' (their statements: YbulkaprwDoorTotals.lean).
  GIVEN WITH THE SEED: the statements are not yours to turn. If you find one false, say at which input.
  Laid BY PROGRAM, IN A SANDBOX (cutbox-rows.mjs): the forced cells as the released guide's own fill.sh prints them over the translation 7db3bdc46277cdfc… (all of the seat's roots in one cut). By AI agents, Wed Nov 11 2026. No macro, syntax, notation, axiom, sorry.
-/
import Derived.Test.YbulkaprwDoorChecked
import GoSem.Claim
import GoSem.ClaimJoined
import GoSem.ClaimMapViews
import Derived.JoinedTies
import Derived.KernelRfl
namespace Go.Proofs.YbulkaprwDoor
/- THE CELL 'sum', in the pinned program and in every row, IS THE sha256 OF THE DUMP (.gsa) THAT YbulkaprwDoorProg.lean LOADS. Nothing in Lean hashes anything: it is a label: what it is worth is what the hold of that sum in a sandbox is worth. -/
noncomputable def Ybad.pinned : Pinned := { name := "ybulkaprwdoor", sum := "7db3bdc46277cdfc6f7bacd53d05793b301691dccd930cf1a6d82ac23a4bb205", checked := Ybad.checked }
namespace Rows
def none {H : Type} : Left H := { results := [], args := [] }

/- WHAT THE LISTED PACKAGE-LEVEL VARIABLES READ AS WHEN THE CALL BEGINS. Each datum BY PROGRAM (the guide's laid-datum.mjs) off the statement by which the dump's own 'gosem.cut.vars' lays the variable. In a bare row this is a premise. The card (YbulkaprwDoorCards.lean) ties it to the program's text. -/
def laid_example_com_quintet_quintet_card_simStatusWords {H : Type} : DataW H := .map [(.int .u16 25985, .lit (.int .u16 37440)), (.int .u16 27009, .lit (.int .u16 37896)), (.int .u16 27013, .lit (.int .u16 38916)), (.int .u16 27014, .lit (.int .u16 37888)), (.int .u16 27266, .lit (.int .u16 37892)), (.int .u16 27270, .lit (.int .u16 27392)), (.int .u16 27392, .lit (.int .u16 37890))]

/-- 'card.LawS2063BTable': WHATEVER THE INPUT: true; the input reads as it did. -/
def lawS2063BTableSpec : ChangeSpec := { name := "lawS2063BTable", vars := ["example.com/quintet/quintet/card.simStatusWords"], fn := fun _ => fun
  | [d, g1] => { results := [.lit (.bool true)], args := [d], vars := [g1] }
  | _ => none }
def lawS2063BTableRow : OpenClaim := { program := "ybulkaprwdoor", sum := "7db3bdc46277cdfc6f7bacd53d05793b301691dccd930cf1a6d82ac23a4bb205", func := "example.com/quintet/quintet/card.LawS2063BTable", spec := "lawS2063BTable", named := ["example.com/quintet/quintet/card.simStatusWords"], maps := true, apart := false, laid := [("example.com/quintet/quintet/card.simStatusWords", laid_example_com_quintet_quintet_card_simStatusWords)] }
def LawS2063BTableSaid : Prop := lawS2063BTableRow.holds Ybad.pinned (OpenSpec.ofChange lawS2063BTableSpec)

/-- ITS FALSE NEIGHBOUR: 'it returns false'. Refute it at one input. -/
def lawS2063BTableWrong : ChangeSpec := { name := "lawS2063BTable", vars := ["example.com/quintet/quintet/card.simStatusWords"], fn := fun _ => fun
  | [d, g1] => { results := [.lit (.bool false)], args := [d], vars := [g1] }
  | _ => none }
def LawS2063BTableWrongFalsely : Prop := lawS2063BTableRow.holds Ybad.pinned (OpenSpec.ofChange lawS2063BTableWrong)

/-- 'card.LawS2063BNoLengthSW1': WHATEVER THE INPUT: true; the input reads as it did. -/
def lawS2063BNoLengthSW1Spec : ChangeSpec := { name := "lawS2063BNoLengthSW1", vars := ["example.com/quintet/quintet/card.simStatusWords"], fn := fun _ => fun
  | [d, g1] => { results := [.lit (.bool true)], args := [d], vars := [g1] }
  | _ => none }
def lawS2063BNoLengthSW1Row : OpenClaim := { program := "ybulkaprwdoor", sum := "7db3bdc46277cdfc6f7bacd53d05793b301691dccd930cf1a6d82ac23a4bb205", func := "example.com/quintet/quintet/card.LawS2063BNoLengthSW1", spec := "lawS2063BNoLengthSW1", named := ["example.com/quintet/quintet/card.simStatusWords"], maps := true, apart := false, laid := [("example.com/quintet/quintet/card.simStatusWords", laid_example_com_quintet_quintet_card_simStatusWords)] }
def LawS2063BNoLengthSW1Said : Prop := lawS2063BNoLengthSW1Row.holds Ybad.pinned (OpenSpec.ofChange lawS2063BNoLengthSW1Spec)

/-- ITS FALSE NEIGHBOUR: 'it returns false'. Refute it at one input. -/
def lawS2063BNoLengthSW1Wrong : ChangeSpec := { name := "lawS2063BNoLengthSW1", vars := ["example.com/quintet/quintet/card.simStatusWords"], fn := fun _ => fun
  | [d, g1] => { results := [.lit (.bool false)], args := [d], vars := [g1] }
  | _ => none }
def LawS2063BNoLengthSW1WrongFalsely : Prop := lawS2063BNoLengthSW1Row.holds Ybad.pinned (OpenSpec.ofChange lawS2063BNoLengthSW1Wrong)

end Rows
end Go.Proofs.YbulkaprwDoor
