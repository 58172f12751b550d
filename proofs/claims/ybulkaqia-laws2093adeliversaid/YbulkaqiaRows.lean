/-
  No cell of these rows narrows 'for every input' (looked for: loops, veiled, ifaces, maps, wideKeys, modest, calm, conditions, laid).
  DERIVED. THE GIVEN ROWS OF THIS SEAT. 1 by the template 'for every input the law returns true; each argument reads behind the call as it read before'; 0 by the template 'total and deterministic' (their statements: YbulkaqiaTotals.lean).
  GIVEN WITH THE SEED: the statements are not yours to turn. If you find one false, say at which input.
  Laid BY PROGRAM, IN A SANDBOX (cutbox-rows.mjs): the forced cells as the released guide's own fill.sh prints them over the translation 417ec9d123458149… (all of the seat's roots in one cut). By AI agents, Wed Nov 11 2026. No macro, syntax, notation, axiom, sorry.
-/
import Derived.Test.YbulkaqiaChecked
import GoSem.Claim
import GoSem.ClaimJoined
import GoSem.ClaimMapViews
import Derived.JoinedTies
import Derived.KernelRfl
namespace Go.Proofs.Ybulkaqia
/- THE CELL 'sum', in the pinned program and in every row, IS THE sha256 OF THE DUMP (.gsa) THAT YbulkaqiaProg.lean LOADS. Nothing in Lean hashes anything: it is a label: what it is worth is what the hold of that sum in a sandbox is worth. -/
noncomputable def Yba.pinned : Pinned := { name := "ybulkaqia", sum := "417ec9d12345814984e34b8a49591d9450835d668e1d3f4a5f6a13b8b4bf16c6", checked := Yba.checked }
namespace Rows
def none {H : Type} : Left H := { results := [], args := [] }

/-- 'nearkey.LawS2093ADeliver': WHATEVER THE INPUT: true; the input reads as it did. -/
def lawS2093ADeliverSpec : ChangeSpec := { name := "lawS2093ADeliver", fn := fun _ => fun
  | [d1, d2, d3, d4, d5, d6, d7, d8, d9, d10] => { results := [.lit (.bool true)], args := [d1, d2, d3, d4, d5, d6, d7, d8, d9, d10] }
  | _ => none }
def lawS2093ADeliverRow : OpenClaim := { program := "ybulkaqia", sum := "417ec9d12345814984e34b8a49591d9450835d668e1d3f4a5f6a13b8b4bf16c6", func := "example.com/nearkey/nearkey.LawS2093ADeliver", spec := "lawS2093ADeliver", inPlace := ["(*internal/sync.Mutex).Lock", "internal/race.Disable", "sync/atomic.CompareAndSwapInt32", "internal/race.Enable", "internal/race.Acquire", "(*internal/sync.Mutex).lockSlow", "internal/sync.runtime_canSpin", "internal/sync.runtime_doSpin", "internal/sync.throw", "internal/sync.runtime_nanotime", "internal/sync.runtime_SemacquireMutex", "sync/atomic.AddInt32", "(*internal/sync.Mutex).Unlock", "internal/race.ReleaseMerge", "(*internal/sync.Mutex).unlockSlow", "internal/sync.fatal", "internal/sync.runtime_Semrelease", "sync/atomic.StoreUint32", "sync/atomic.AddInt64", "(*internal/sync.Mutex).TryLock", "sync/atomic.LoadUint32", "sync/atomic.LoadInt64"], unfollowed := true, recurses := true, plainKeys := false, apart := false }
def LawS2093ADeliverSaid : Prop := lawS2093ADeliverRow.holds Yba.pinned (OpenSpec.ofChange lawS2093ADeliverSpec)

/-- ITS FALSE NEIGHBOUR: 'it returns false'. Refute it at one input. -/
def lawS2093ADeliverWrong : ChangeSpec := { name := "lawS2093ADeliver", fn := fun _ => fun
  | [d1, d2, d3, d4, d5, d6, d7, d8, d9, d10] => { results := [.lit (.bool false)], args := [d1, d2, d3, d4, d5, d6, d7, d8, d9, d10] }
  | _ => none }
def LawS2093ADeliverWrongFalsely : Prop := lawS2093ADeliverRow.holds Yba.pinned (OpenSpec.ofChange lawS2093ADeliverWrong)

end Rows
end Go.Proofs.Ybulkaqia
