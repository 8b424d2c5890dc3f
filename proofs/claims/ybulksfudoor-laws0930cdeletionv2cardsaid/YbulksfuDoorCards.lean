/-
  DERIVED. GIVEN WITH THE SEED: THE CARDS: each row of YbulksfuDoorRows.lean that lists a variable, with what it lists TIED to the program's text (the seventh form; the later family's looks); each row that meets fmt, with fmt's text TOLD by the authors' own Lean function (tested against real Go, not proved from fmt's source: count such statements apart). THE CARD IS WHAT COUNTS. Prove the row's statement (the work); the ties are given (YbulksfuDoorTie.lean); close each card by the builder's one call (the guide's Derived/Test/ToyasCard.lean, 'card_holds'). Laid BY PROGRAM, IN A SANDBOX (cutbox-door.mjs). By AI agents, Wed Nov 11 2026. No macro, syntax, notation, axiom, sorry.
-/
import Derived.Test.YbulksfuDoorRows
import GoSem.ClaimSeven
namespace Go.Proofs.YbulksfuDoor
namespace Rows

/-- THE TIED CARD OF 'codec.LawS0930ARoundTrip'. -/
def lawS0930ARoundTripCard : Claim7 := { stood := { row := lawS0930ARoundTripRow, standIns := [], harness := (true, "15e600f86e214c9d3fdc229e2413836b62082ab8a618de77be0952292431e4f4"), looks := true }, kinds := [], alts := [], laidByText := true, laidKinds := [.called], laidTests := true, laidLooks := .later }
def LawS0930ARoundTripCardSaid : Prop := Claim7.holds Ybad.pinned (.plain (OpenSpec.ofChange lawS0930ARoundTripSpec)) lawS0930ARoundTripCard

/-- THE TIED CARD OF 'codec.LawS0930BRoundTrip'. -/
def lawS0930BRoundTripCard : Claim7 := { stood := { row := lawS0930BRoundTripRow, standIns := [], harness := (true, "15e600f86e214c9d3fdc229e2413836b62082ab8a618de77be0952292431e4f4"), looks := true }, kinds := [], alts := [], laidByText := true, laidKinds := [.called], laidTests := true, laidLooks := .later }
def LawS0930BRoundTripCardSaid : Prop := Claim7.holds Ybad.pinned (.plain (OpenSpec.ofChange lawS0930BRoundTripSpec)) lawS0930BRoundTripCard

/-- THE TIED CARD OF 'codec.LawS0930CDecode'. -/
def lawS0930CDecodeCard : Claim7 := { stood := { row := lawS0930CDecodeRow, standIns := [], harness := (true, "15e600f86e214c9d3fdc229e2413836b62082ab8a618de77be0952292431e4f4"), looks := true }, kinds := [], alts := [], laidByText := true, laidKinds := [.called], laidTests := true, laidLooks := .later }
def LawS0930CDecodeCardSaid : Prop := Claim7.holds Ybad.pinned (.plain (OpenSpec.ofChange lawS0930CDecodeSpec)) lawS0930CDecodeCard

/-- THE TIED CARD OF 'codec.LawS0930CDeletionV2'. -/
def lawS0930CDeletionV2Card : Claim7 := { stood := { row := lawS0930CDeletionV2Row, standIns := [], harness := (true, "15e600f86e214c9d3fdc229e2413836b62082ab8a618de77be0952292431e4f4"), looks := true }, kinds := [], alts := [], laidByText := true, laidKinds := [.called], laidTests := true, laidLooks := .later }
def LawS0930CDeletionV2CardSaid : Prop := Claim7.holds Ybad.pinned (.plain (OpenSpec.ofChange lawS0930CDeletionV2Spec)) lawS0930CDeletionV2Card
end Rows
end Go.Proofs.YbulksfuDoor
