/-
  No cell of these rows narrows 'for every input' (looked for: loops, veiled, ifaces, maps, wideKeys, modest, calm, conditions, laid).
  DERIVED. THE GIVEN ROWS OF THIS SEAT. 1 by the template 'for every input the law returns true; each argument reads behind the call as it read before'; 0 by the template 'total and deterministic' (their statements: YbulkbklkTotals.lean).
  GIVEN WITH THE SEED: the statements are not yours to turn. If you find one false, say at which input.
  Laid BY PROGRAM, IN A SANDBOX (cutbox-rows.mjs): the forced cells as the released guide's own fill.sh prints them over the translation c5433d55a803496d… (all of the seat's roots in one cut). By AI agents, Wed Nov 11 2026. No macro, syntax, notation, axiom, sorry.
-/
import Derived.Test.YbulkbklkChecked
import GoSem.Claim
import GoSem.ClaimJoined
import GoSem.ClaimMapViews
import Derived.JoinedTies
import Derived.KernelRfl
namespace Go.Proofs.Ybulkbklk
/- THE CELL 'sum', in the pinned program and in every row, IS THE sha256 OF THE DUMP (.gsa) THAT YbulkbklkProg.lean LOADS. Nothing in Lean hashes anything: it is a label: what it is worth is what the hold of that sum in a sandbox is worth. -/
noncomputable def Yba.pinned : Pinned := { name := "ybulkbklk", sum := "c5433d55a803496d7f13b4d7aa028cfc261f3bd448f13cd37a56771ee533df9b", checked := Yba.checked }
namespace Rows
def none {H : Type} : Left H := { results := [], args := [] }

/-- 'hashbarrow.LawS3065ADamagedSorted': WHATEVER THE INPUT: true; the input reads as it did. -/
def lawS3065ADamagedSortedSpec : ChangeSpec := { name := "lawS3065ADamagedSorted", fn := fun _ => fun
  | [d1, d2, d3] => { results := [.lit (.bool true)], args := [d1, d2, d3] }
  | _ => none }
def lawS3065ADamagedSortedRow : OpenClaim := { program := "ybulkbklk", sum := "c5433d55a803496d7f13b4d7aa028cfc261f3bd448f13cd37a56771ee533df9b", func := "example.com/hashbarrow/hashbarrow.LawS3065ADamagedSorted", spec := "lawS3065ADamagedSorted", inPlace := ["(*sync.RWMutex).RLock", "internal/race.Read", "internal/race.Disable", "sync/atomic.AddInt32", "sync.runtime_SemacquireRWMutexR", "internal/race.Enable", "internal/race.Acquire", "(*sync.RWMutex).RUnlock", "internal/race.ReleaseMerge", "(*sync.RWMutex).rUnlockSlow", "sync.fatal", "sync.runtime_Semrelease"], recurses := true, apart := false }
def LawS3065ADamagedSortedSaid : Prop := lawS3065ADamagedSortedRow.holds Yba.pinned (OpenSpec.ofChange lawS3065ADamagedSortedSpec)

/-- ITS FALSE NEIGHBOUR: 'it returns false'. Refute it at one input. -/
def lawS3065ADamagedSortedWrong : ChangeSpec := { name := "lawS3065ADamagedSorted", fn := fun _ => fun
  | [d1, d2, d3] => { results := [.lit (.bool false)], args := [d1, d2, d3] }
  | _ => none }
def LawS3065ADamagedSortedWrongFalsely : Prop := lawS3065ADamagedSortedRow.holds Yba.pinned (OpenSpec.ofChange lawS3065ADamagedSortedWrong)

end Rows
end Go.Proofs.Ybulkbklk
