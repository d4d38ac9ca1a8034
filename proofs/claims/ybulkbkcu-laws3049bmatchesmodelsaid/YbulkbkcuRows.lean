/-
  No cell of these rows narrows 'for every input' (looked for: loops, veiled, ifaces, maps, wideKeys, modest, calm, conditions, laid).
  DERIVED. THE GIVEN ROWS OF THIS SEAT. 2 by the template 'for every input the law returns true; each argument reads behind the call as it read before'; 0 by the template 'total and deterministic' (their statements: YbulkbkcuTotals.lean).
  GIVEN WITH THE SEED: the statements are not yours to turn. If you find one false, say at which input.
  Laid BY PROGRAM, IN A SANDBOX (cutbox-rows.mjs): the forced cells as the released guide's own fill.sh prints them over the translation 9defc7a7e7f30f59… (all of the seat's roots in one cut). By AI agents, Wed Nov 11 2026. No macro, syntax, notation, axiom, sorry.
-/
import Derived.Test.YbulkbkcuChecked
import GoSem.Claim
import GoSem.ClaimJoined
import GoSem.ClaimMapViews
import Derived.JoinedTies
import Derived.KernelRfl
namespace Go.Proofs.Ybulkbkcu
/- THE CELL 'sum', in the pinned program and in every row, IS THE sha256 OF THE DUMP (.gsa) THAT YbulkbkcuProg.lean LOADS. Nothing in Lean hashes anything: it is a label: what it is worth is what the hold of that sum in a sandbox is worth. -/
noncomputable def Yba.pinned : Pinned := { name := "ybulkbkcu", sum := "9defc7a7e7f30f59173380adddbdecab1fdf03fe31d54c804b5e03c8e758b6c2", checked := Yba.checked }
namespace Rows
def none {H : Type} : Left H := { results := [], args := [] }

/-- 'halfway.LawS3049BMatchesModel': WHATEVER THE INPUT: true; the input reads as it did. -/
def lawS3049BMatchesModelSpec : ChangeSpec := { name := "lawS3049BMatchesModel", fn := fun _ => fun
  | [d1, d2] => { results := [.lit (.bool true)], args := [d1, d2] }
  | _ => none }
def lawS3049BMatchesModelRow : OpenClaim := { program := "ybulkbkcu", sum := "9defc7a7e7f30f59173380adddbdecab1fdf03fe31d54c804b5e03c8e758b6c2", func := "example.com/halfway/halfway.LawS3049BMatchesModel", spec := "lawS3049BMatchesModel", apart := false }
def LawS3049BMatchesModelSaid : Prop := lawS3049BMatchesModelRow.holds Yba.pinned (OpenSpec.ofChange lawS3049BMatchesModelSpec)

/-- ITS FALSE NEIGHBOUR: 'it returns false'. Refute it at one input. -/
def lawS3049BMatchesModelWrong : ChangeSpec := { name := "lawS3049BMatchesModel", fn := fun _ => fun
  | [d1, d2] => { results := [.lit (.bool false)], args := [d1, d2] }
  | _ => none }
def LawS3049BMatchesModelWrongFalsely : Prop := lawS3049BMatchesModelRow.holds Yba.pinned (OpenSpec.ofChange lawS3049BMatchesModelWrong)

/-- 'halfway.LawS3049BCounts': WHATEVER THE INPUT: true; the input reads as it did. -/
def lawS3049BCountsSpec : ChangeSpec := { name := "lawS3049BCounts", fn := fun _ => fun
  | [d1, d2] => { results := [.lit (.bool true)], args := [d1, d2] }
  | _ => none }
def lawS3049BCountsRow : OpenClaim := { program := "ybulkbkcu", sum := "9defc7a7e7f30f59173380adddbdecab1fdf03fe31d54c804b5e03c8e758b6c2", func := "example.com/halfway/halfway.LawS3049BCounts", spec := "lawS3049BCounts", inPlace := ["math/bits.Add64"], apart := false }
def LawS3049BCountsSaid : Prop := lawS3049BCountsRow.holds Yba.pinned (OpenSpec.ofChange lawS3049BCountsSpec)

/-- ITS FALSE NEIGHBOUR: 'it returns false'. Refute it at one input. -/
def lawS3049BCountsWrong : ChangeSpec := { name := "lawS3049BCounts", fn := fun _ => fun
  | [d1, d2] => { results := [.lit (.bool false)], args := [d1, d2] }
  | _ => none }
def LawS3049BCountsWrongFalsely : Prop := lawS3049BCountsRow.holds Yba.pinned (OpenSpec.ofChange lawS3049BCountsWrong)

end Rows
end Go.Proofs.Ybulkbkcu
