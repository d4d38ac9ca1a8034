/-
  No cell of these rows narrows 'for every input' (looked for: loops, veiled, ifaces, maps, wideKeys, modest, calm, conditions, laid).
  DERIVED. THE GIVEN ROWS OF THIS SEAT. 4 by the template 'for every input the law returns true; each argument reads behind the call as it read before'; 0 by the template 'total and deterministic' (their statements: YbulkbkcgTotals.lean).
  GIVEN WITH THE SEED: the statements are not yours to turn. If you find one false, say at which input.
  Laid BY PROGRAM, IN A SANDBOX (cutbox-rows.mjs): the forced cells as the released guide's own fill.sh prints them over the translation 71a45aaccf0e8439… (all of the seat's roots in one cut). By AI agents, Wed Nov 11 2026. No macro, syntax, notation, axiom, sorry.
-/
import Derived.Test.YbulkbkcgChecked
import GoSem.Claim
import GoSem.ClaimJoined
import GoSem.ClaimMapViews
import Derived.JoinedTies
import Derived.KernelRfl
namespace Go.Proofs.Ybulkbkcg
/- THE CELL 'sum', in the pinned program and in every row, IS THE sha256 OF THE DUMP (.gsa) THAT YbulkbkcgProg.lean LOADS. Nothing in Lean hashes anything: it is a label: what it is worth is what the hold of that sum in a sandbox is worth. -/
noncomputable def Yba.pinned : Pinned := { name := "ybulkbkcg", sum := "71a45aaccf0e84398b9c11299fa3b10a5c984e5a03ebead0fb253f0af1e87fa0", checked := Yba.checked }
namespace Rows
def none {H : Type} : Left H := { results := [], args := [] }

/-- 'function.LawS3048AInt64': WHATEVER THE INPUT: true; the input reads as it did. -/
def lawS3048AInt64Spec : ChangeSpec := { name := "lawS3048AInt64", fn := fun _ => fun
  | [d] => { results := [.lit (.bool true)], args := [d] }
  | _ => none }
def lawS3048AInt64Row : OpenClaim := { program := "ybulkbkcg", sum := "71a45aaccf0e84398b9c11299fa3b10a5c984e5a03ebead0fb253f0af1e87fa0", func := "example.com/centilith/centilith/function.LawS3048AInt64", spec := "lawS3048AInt64", unfollowed := true, recurses := true, apart := false }
def LawS3048AInt64Said : Prop := lawS3048AInt64Row.holds Yba.pinned (OpenSpec.ofChange lawS3048AInt64Spec)

/-- ITS FALSE NEIGHBOUR: 'it returns false'. Refute it at one input. -/
def lawS3048AInt64Wrong : ChangeSpec := { name := "lawS3048AInt64", fn := fun _ => fun
  | [d] => { results := [.lit (.bool false)], args := [d] }
  | _ => none }
def LawS3048AInt64WrongFalsely : Prop := lawS3048AInt64Row.holds Yba.pinned (OpenSpec.ofChange lawS3048AInt64Wrong)

/-- 'function.LawS3048AFloatReuse': WHATEVER THE INPUT: true; the input reads as it did. -/
def lawS3048AFloatReuseSpec : ChangeSpec := { name := "lawS3048AFloatReuse", fn := fun _ => fun
  | [d] => { results := [.lit (.bool true)], args := [d] }
  | _ => none }
def lawS3048AFloatReuseRow : OpenClaim := { program := "ybulkbkcg", sum := "71a45aaccf0e84398b9c11299fa3b10a5c984e5a03ebead0fb253f0af1e87fa0", func := "example.com/centilith/centilith/function.LawS3048AFloatReuse", spec := "lawS3048AFloatReuse", unfollowed := true, recurses := true, apart := false }
def LawS3048AFloatReuseSaid : Prop := lawS3048AFloatReuseRow.holds Yba.pinned (OpenSpec.ofChange lawS3048AFloatReuseSpec)

/-- ITS FALSE NEIGHBOUR: 'it returns false'. Refute it at one input. -/
def lawS3048AFloatReuseWrong : ChangeSpec := { name := "lawS3048AFloatReuse", fn := fun _ => fun
  | [d] => { results := [.lit (.bool false)], args := [d] }
  | _ => none }
def LawS3048AFloatReuseWrongFalsely : Prop := lawS3048AFloatReuseRow.holds Yba.pinned (OpenSpec.ofChange lawS3048AFloatReuseWrong)

/-- 'sketch.LawS3048CExact': WHATEVER THE INPUT: true; the input reads as it did. -/
def lawS3048CExactSpec : ChangeSpec := { name := "lawS3048CExact", fn := fun _ => fun
  | [] => { results := [.lit (.bool true)], args := [] }
  | _ => none }
def lawS3048CExactRow : OpenClaim := { program := "ybulkbkcg", sum := "71a45aaccf0e84398b9c11299fa3b10a5c984e5a03ebead0fb253f0af1e87fa0", func := "example.com/centilith/centilith/sketch.LawS3048CExact", spec := "lawS3048CExact", inPlace := ["math.Float64bits"], apart := false }
def LawS3048CExactSaid : Prop := lawS3048CExactRow.holds Yba.pinned (OpenSpec.ofChange lawS3048CExactSpec)

/-- ITS FALSE NEIGHBOUR: 'it returns false'. Refute it at one input. -/
def lawS3048CExactWrong : ChangeSpec := { name := "lawS3048CExact", fn := fun _ => fun
  | [] => { results := [.lit (.bool false)], args := [] }
  | _ => none }
def LawS3048CExactWrongFalsely : Prop := lawS3048CExactRow.holds Yba.pinned (OpenSpec.ofChange lawS3048CExactWrong)

/-- 'sketch.LawS3048CFinite': WHATEVER THE INPUT: true; the input reads as it did. -/
def lawS3048CFiniteSpec : ChangeSpec := { name := "lawS3048CFinite", fn := fun _ => fun
  | [d1, d2] => { results := [.lit (.bool true)], args := [d1, d2] }
  | _ => none }
def lawS3048CFiniteRow : OpenClaim := { program := "ybulkbkcg", sum := "71a45aaccf0e84398b9c11299fa3b10a5c984e5a03ebead0fb253f0af1e87fa0", func := "example.com/centilith/centilith/sketch.LawS3048CFinite", spec := "lawS3048CFinite", inPlace := ["math.Float64frombits", "math.Float64bits"], apart := false }
def LawS3048CFiniteSaid : Prop := lawS3048CFiniteRow.holds Yba.pinned (OpenSpec.ofChange lawS3048CFiniteSpec)

/-- ITS FALSE NEIGHBOUR: 'it returns false'. Refute it at one input. -/
def lawS3048CFiniteWrong : ChangeSpec := { name := "lawS3048CFinite", fn := fun _ => fun
  | [d1, d2] => { results := [.lit (.bool false)], args := [d1, d2] }
  | _ => none }
def LawS3048CFiniteWrongFalsely : Prop := lawS3048CFiniteRow.holds Yba.pinned (OpenSpec.ofChange lawS3048CFiniteWrong)

end Rows
end Go.Proofs.Ybulkbkcg
