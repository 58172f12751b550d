/-
  No cell of these rows narrows 'for every input' (looked for: loops, veiled, ifaces, maps, wideKeys, modest, calm, conditions, laid).
  DERIVED. THE GIVEN ROWS OF THIS SEAT. 2 by the template 'for every input the law returns true; each argument reads behind the call as it read before'; 0 by the template 'total and deterministic' (their statements: YbulkaprwTotals.lean).
  GIVEN WITH THE SEED: the statements are not yours to turn. If you find one false, say at which input.
  Laid BY PROGRAM, IN A SANDBOX (cutbox-rows.mjs): the forced cells as the released guide's own fill.sh prints them over the translation adbb915b3cc2f5ea… (all of the seat's roots in one cut). By AI agents, Wed Nov 11 2026. No macro, syntax, notation, axiom, sorry.
-/
import Derived.Test.YbulkaprwChecked
import GoSem.Claim
import GoSem.ClaimJoined
import GoSem.ClaimMapViews
import Derived.JoinedTies
import Derived.KernelRfl
namespace Go.Proofs.Ybulkaprw
/- THE CELL 'sum', in the pinned program and in every row, IS THE sha256 OF THE DUMP (.gsa) THAT YbulkaprwProg.lean LOADS. Nothing in Lean hashes anything: it is a label: what it is worth is what the hold of that sum in a sandbox is worth. -/
noncomputable def Yba.pinned : Pinned := { name := "ybulkaprw", sum := "adbb915b3cc2f5eade44eb822ec12d1fc98fe2a928bf3924dc600f98c7af0219", checked := Yba.checked }
namespace Rows
def none {H : Type} : Left H := { results := [], args := [] }

/-- 'card.LawS2063AExact': WHATEVER THE INPUT: true; the input reads as it did. -/
def lawS2063AExactSpec : ChangeSpec := { name := "lawS2063AExact", fn := fun _ => fun
  | [d1, d2] => { results := [.lit (.bool true)], args := [d1, d2] }
  | _ => none }
def lawS2063AExactRow : OpenClaim := { program := "ybulkaprw", sum := "adbb915b3cc2f5eade44eb822ec12d1fc98fe2a928bf3924dc600f98c7af0219", func := "example.com/quintet/quintet/card.LawS2063AExact", spec := "lawS2063AExact", apart := false }
def LawS2063AExactSaid : Prop := lawS2063AExactRow.holds Yba.pinned (OpenSpec.ofChange lawS2063AExactSpec)

/-- ITS FALSE NEIGHBOUR: 'it returns false'. Refute it at one input. -/
def lawS2063AExactWrong : ChangeSpec := { name := "lawS2063AExact", fn := fun _ => fun
  | [d1, d2] => { results := [.lit (.bool false)], args := [d1, d2] }
  | _ => none }
def LawS2063AExactWrongFalsely : Prop := lawS2063AExactRow.holds Yba.pinned (OpenSpec.ofChange lawS2063AExactWrong)

/-- 'card.LawS2063CFilter': WHATEVER THE INPUT: true; the input reads as it did. -/
def lawS2063CFilterSpec : ChangeSpec := { name := "lawS2063CFilter", fn := fun _ => fun
  | [d] => { results := [.lit (.bool true)], args := [d] }
  | _ => none }
def lawS2063CFilterRow : OpenClaim := { program := "ybulkaprw", sum := "adbb915b3cc2f5eade44eb822ec12d1fc98fe2a928bf3924dc600f98c7af0219", func := "example.com/quintet/quintet/card.LawS2063CFilter", spec := "lawS2063CFilter", apart := false }
def LawS2063CFilterSaid : Prop := lawS2063CFilterRow.holds Yba.pinned (OpenSpec.ofChange lawS2063CFilterSpec)

/-- ITS FALSE NEIGHBOUR: 'it returns false'. Refute it at one input. -/
def lawS2063CFilterWrong : ChangeSpec := { name := "lawS2063CFilter", fn := fun _ => fun
  | [d] => { results := [.lit (.bool false)], args := [d] }
  | _ => none }
def LawS2063CFilterWrongFalsely : Prop := lawS2063CFilterRow.holds Yba.pinned (OpenSpec.ofChange lawS2063CFilterWrong)

end Rows
end Go.Proofs.Ybulkaprw
