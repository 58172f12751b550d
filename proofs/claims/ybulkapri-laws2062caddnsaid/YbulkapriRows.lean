/-
  No cell of these rows narrows 'for every input' (looked for: loops, veiled, ifaces, maps, wideKeys, modest, calm, conditions, laid).
  DERIVED. THE GIVEN ROWS OF THIS SEAT. 2 by the template 'for every input the law returns true; each argument reads behind the call as it read before'; 0 by the template 'total and deterministic' (their statements: YbulkapriTotals.lean).
  GIVEN WITH THE SEED: the statements are not yours to turn. If you find one false, say at which input.
  Laid BY PROGRAM, IN A SANDBOX (cutbox-rows.mjs): the forced cells as the released guide's own fill.sh prints them over the translation 8a7a29bd04864ff9… (all of the seat's roots in one cut). By AI agents, Wed Nov 11 2026. No macro, syntax, notation, axiom, sorry.
-/
import Derived.Test.YbulkapriChecked
import GoSem.Claim
import GoSem.ClaimJoined
import GoSem.ClaimMapViews
import Derived.JoinedTies
import Derived.KernelRfl
namespace Go.Proofs.Ybulkapri
/- THE CELL 'sum', in the pinned program and in every row, IS THE sha256 OF THE DUMP (.gsa) THAT YbulkapriProg.lean LOADS. Nothing in Lean hashes anything: it is a label: what it is worth is what the hold of that sum in a sandbox is worth. -/
noncomputable def Yba.pinned : Pinned := { name := "ybulkapri", sum := "8a7a29bd04864ff92de786cb6b6f16277f2b532b1667106e73344e6ec0cd106b", checked := Yba.checked }
namespace Rows
def none {H : Type} : Left H := { results := [], args := [] }

/-- 'resource.LawS2062CMinFit': WHATEVER THE INPUT: true; the input reads as it did. -/
def lawS2062CMinFitSpec : ChangeSpec := { name := "lawS2062CMinFit", fn := fun _ => fun
  | [d1, d2, d3, d4] => { results := [.lit (.bool true)], args := [d1, d2, d3, d4] }
  | _ => none }
def lawS2062CMinFitRow : OpenClaim := { program := "ybulkapri", sum := "8a7a29bd04864ff92de786cb6b6f16277f2b532b1667106e73344e6ec0cd106b", func := "example.com/quartermaster/quartermaster/resource.LawS2062CMinFit", spec := "lawS2062CMinFit", apart := false }
def LawS2062CMinFitSaid : Prop := lawS2062CMinFitRow.holds Yba.pinned (OpenSpec.ofChange lawS2062CMinFitSpec)

/-- ITS FALSE NEIGHBOUR: 'it returns false'. Refute it at one input. -/
def lawS2062CMinFitWrong : ChangeSpec := { name := "lawS2062CMinFit", fn := fun _ => fun
  | [d1, d2, d3, d4] => { results := [.lit (.bool false)], args := [d1, d2, d3, d4] }
  | _ => none }
def LawS2062CMinFitWrongFalsely : Prop := lawS2062CMinFitRow.holds Yba.pinned (OpenSpec.ofChange lawS2062CMinFitWrong)

/-- 'resource.LawS2062CAddN': WHATEVER THE INPUT: true; the input reads as it did. -/
def lawS2062CAddNSpec : ChangeSpec := { name := "lawS2062CAddN", fn := fun _ => fun
  | [d1, d2, d3, d4] => { results := [.lit (.bool true)], args := [d1, d2, d3, d4] }
  | _ => none }
def lawS2062CAddNRow : OpenClaim := { program := "ybulkapri", sum := "8a7a29bd04864ff92de786cb6b6f16277f2b532b1667106e73344e6ec0cd106b", func := "example.com/quartermaster/quartermaster/resource.LawS2062CAddN", spec := "lawS2062CAddN", apart := false }
def LawS2062CAddNSaid : Prop := lawS2062CAddNRow.holds Yba.pinned (OpenSpec.ofChange lawS2062CAddNSpec)

/-- ITS FALSE NEIGHBOUR: 'it returns false'. Refute it at one input. -/
def lawS2062CAddNWrong : ChangeSpec := { name := "lawS2062CAddN", fn := fun _ => fun
  | [d1, d2, d3, d4] => { results := [.lit (.bool false)], args := [d1, d2, d3, d4] }
  | _ => none }
def LawS2062CAddNWrongFalsely : Prop := lawS2062CAddNRow.holds Yba.pinned (OpenSpec.ofChange lawS2062CAddNWrong)

end Rows
end Go.Proofs.Ybulkapri
