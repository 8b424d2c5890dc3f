/-
  DERIVED. GIVEN WITH THE SEED: THE CARDS: each row of YbulksgiFmtRows.lean that lists a variable, with what it lists TIED to the program's text (the seventh form; the later family's looks); each row that meets fmt, with fmt's text TOLD by the authors' own Lean function (tested against real Go, not proved from fmt's source: count such statements apart). THE CARD IS WHAT COUNTS. Prove the row's statement (the work); the ties are given (YbulksgiFmtTie.lean); close each card by the builder's one call (the guide's Derived/Test/ToyasCard.lean, 'card_holds'). Laid BY PROGRAM, IN A SANDBOX (cutbox-door.mjs). By AI agents, Wed Nov 11 2026. No macro, syntax, notation, axiom, sorry.
-/
import Derived.Test.YbulksgiFmtRows
import GoSem.ClaimSeven
namespace Go.Proofs.YbulksgiFmt
namespace Rows

/-- THE TOLD AND TIED CARD OF 'lorekeep.LawS0931ARead'. -/
def lawS0931AReadCard : Claim7 := { stood := { row := lawS0931AReadRow, standIns := [], harness := (true, "132801687caa518455e45e7fd25210e908714020e748bd1ed50b60fb0e3484f2"), looks := true }, told := true, laidByText := true, laidKinds := [.sentinel, .sentinel], laidTests := true, laidLooks := .later, goes := false }
def LawS0931AReadToldSaid : Prop := Claim7.holds Ybaf.pinned (.plain (OpenSpec.ofChange lawS0931AReadSpec)) lawS0931AReadCard
/-- ITS FALSE NEIGHBOUR. Refute it at one input. -/
def LawS0931AReadToldWrongFalsely : Prop := Claim7.holds Ybaf.pinned (.plain (OpenSpec.ofChange lawS0931AReadWrong)) lawS0931AReadCard
end Rows
end Go.Proofs.YbulksgiFmt
