/-
  No cell of these rows narrows 'for every input' (looked for: loops, veiled, ifaces, maps, wideKeys, modest, calm, conditions, laid).
  DERIVED. THE GIVEN ROWS OF THIS SEAT. 1 by the template 'for every input the law returns true; each argument reads behind the call as it read before'; 0 by the template 'total and deterministic' (their statements: YbulkaprwFmtTotals.lean).
  GIVEN WITH THE SEED: the statements are not yours to turn. If you find one false, say at which input.
  Laid BY PROGRAM, IN A SANDBOX (cutbox-rows.mjs): the forced cells as the released guide's own fill.sh prints them over the translation d454d9baf5e7fdc1… (all of the seat's roots in one cut). By AI agents, Wed Nov 11 2026. No macro, syntax, notation, axiom, sorry.
-/
import Derived.Test.YbulkaprwFmtChecked
import GoSem.Claim
import GoSem.ClaimJoined
import GoSem.ClaimMapViews
import Derived.JoinedTies
import Derived.KernelRfl
namespace Go.Proofs.YbulkaprwFmt
/- THE CELL 'sum', in the pinned program and in every row, IS THE sha256 OF THE DUMP (.gsa) THAT YbulkaprwFmtProg.lean LOADS. Nothing in Lean hashes anything: it is a label: what it is worth is what the hold of that sum in a sandbox is worth. -/
noncomputable def Ybaf.pinned : Pinned := { name := "ybulkaprwfmt", sum := "d454d9baf5e7fdc11fc561038b7f18be52fdb34190f9676722718eb9f3a04aec", checked := Ybaf.checked }
namespace Rows
def none {H : Type} : Left H := { results := [], args := [] }

/-- 'card.LawS2063ARoundTrip': WHATEVER THE INPUT: true; the input reads as it did. -/
def lawS2063ARoundTripSpec : ChangeSpec := { name := "lawS2063ARoundTrip", fn := fun _ => fun
  | [d1, d2] => { results := [.lit (.bool true)], args := [d1, d2] }
  | _ => none }
def lawS2063ARoundTripRow : OpenClaim := { program := "ybulkaprwfmt", sum := "d454d9baf5e7fdc11fc561038b7f18be52fdb34190f9676722718eb9f3a04aec", func := "example.com/quintet/quintet/card.LawS2063ARoundTrip", spec := "lawS2063ARoundTrip", stops := ["fmt.Sprintf"], inPlace := ["fmt.Sprintf"], apart := false }
/-- NO THEOREM (fmt's text is open here; it may be false): for the released tool's asking of the row's closed facts alone. THE STATEMENT IS 'LawS2063ARoundTripToldSaid' (YbulkaprwFmtCards.lean). -/
def LawS2063ARoundTripFormAsk : Prop := lawS2063ARoundTripRow.holds Ybaf.pinned (OpenSpec.ofChange lawS2063ARoundTripSpec)

/-- ITS FALSE NEIGHBOUR: 'it returns false'. Refute it at one input. -/
def lawS2063ARoundTripWrong : ChangeSpec := { name := "lawS2063ARoundTrip", fn := fun _ => fun
  | [d1, d2] => { results := [.lit (.bool false)], args := [d1, d2] }
  | _ => none }
def LawS2063ARoundTripWrongFormAsk : Prop := lawS2063ARoundTripRow.holds Ybaf.pinned (OpenSpec.ofChange lawS2063ARoundTripWrong)

end Rows
end Go.Proofs.YbulkaprwFmt
