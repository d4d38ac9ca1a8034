/-
  DERIVED. GIVEN WITH THE SEED: THE CARDS: each row of YbulkbkcuDoorRows.lean that lists a variable, with what it lists TIED to the program's text (the seventh form; the later family's looks); each row that meets fmt, with fmt's text TOLD by the authors' own Lean function (tested against real Go, not proved from fmt's source: count such statements apart). THE CARD IS WHAT COUNTS. Prove the row's statement (the work); the ties are given (YbulkbkcuDoorTie.lean); close each card by the builder's one call (the guide's Derived/Test/ToyasCard.lean, 'card_holds'). Laid BY PROGRAM, IN A SANDBOX (cutbox-door.mjs). By AI agents, Wed Nov 11 2026. No macro, syntax, notation, axiom, sorry.
-/
import Derived.Test.YbulkbkcuDoorRows
import GoSem.ClaimSeven
namespace Go.Proofs.YbulkbkcuDoor
namespace Rows

/-- THE TIED CARD OF 'refdata.LawS3049ARaw'. -/
def lawS3049ARawCard : Claim7 := { stood := { row := lawS3049ARawRow, standIns := [], harness := (true, "8f2988a552f72e8a55e8896b1f7fb3e3da05ec58b259cb2927c957e39f51c28b"), looks := true }, kinds := [], alts := [], laidByText := true, laidKinds := [.data, .data, .data, .sentinel, .sentinel], laidTests := true, laidLooks := .later }
def LawS3049ARawCardSaid : Prop := Claim7.holds Ybad.pinned (.plain (OpenSpec.ofChange lawS3049ARawSpec)) lawS3049ARawCard

/-- THE TIED CARD OF 'refdata.LawS3049ABuilt'. -/
def lawS3049ABuiltCard : Claim7 := { stood := { row := lawS3049ABuiltRow, standIns := [], harness := (true, "8f2988a552f72e8a55e8896b1f7fb3e3da05ec58b259cb2927c957e39f51c28b"), looks := true }, kinds := [], alts := [], laidByText := true, laidKinds := [.data, .data, .data, .sentinel, .sentinel], laidTests := true, laidLooks := .later }
def LawS3049ABuiltCardSaid : Prop := Claim7.holds Ybad.pinned (.plain (OpenSpec.ofChange lawS3049ABuiltSpec)) lawS3049ABuiltCard

/-- THE TIED CARD OF 'refdata.LawS3049ARoundTrip'. -/
def lawS3049ARoundTripCard : Claim7 := { stood := { row := lawS3049ARoundTripRow, standIns := [], harness := (true, "8f2988a552f72e8a55e8896b1f7fb3e3da05ec58b259cb2927c957e39f51c28b"), looks := true }, kinds := [], alts := [], laidByText := true, laidKinds := [.data, .data, .data, .sentinel, .sentinel], laidTests := true, laidLooks := .later }
def LawS3049ARoundTripCardSaid : Prop := Claim7.holds Ybad.pinned (.plain (OpenSpec.ofChange lawS3049ARoundTripSpec)) lawS3049ARoundTripCard
end Rows
end Go.Proofs.YbulkbkcuDoor
