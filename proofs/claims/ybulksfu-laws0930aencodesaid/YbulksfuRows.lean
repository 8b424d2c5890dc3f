/-
  No cell of these rows narrows 'for every input' (looked for: loops, veiled, ifaces, maps, wideKeys, modest, calm, conditions, laid).
  DERIVED. THE GIVEN ROWS OF THIS SEAT. 2 by the template 'for every input the law returns true; each argument reads behind the call as it read before'; 0 by the template 'total and deterministic' (their statements: YbulksfuTotals.lean).
  GIVEN WITH THE SEED: the statements are not yours to turn. If you find one false, say at which input.
  Laid BY PROGRAM, IN A SANDBOX (cutbox-rows.mjs): the forced cells as the released guide's own fill.sh prints them over the translation ba0f8980ff8a3df6… (all of the seat's roots in one cut). By AI agents, Wed Nov 11 2026. No macro, syntax, notation, axiom, sorry.
-/
import Derived.Test.YbulksfuChecked
import GoSem.Claim
import GoSem.ClaimJoined
import GoSem.ClaimMapViews
import Derived.JoinedTies
import Derived.KernelRfl
namespace Go.Proofs.Ybulksfu
/- THE CELL 'sum', in the pinned program and in every row, IS THE sha256 OF THE DUMP (.gsa) THAT YbulksfuProg.lean LOADS. Nothing in Lean hashes anything: it is a label: what it is worth is what the hold of that sum in a sandbox is worth. -/
noncomputable def Yba.pinned : Pinned := { name := "ybulksfu", sum := "ba0f8980ff8a3df66449c09a0773e9497c55c16e9494004e79ff3ea25e5d03a8", checked := Yba.checked }
namespace Rows
def none {H : Type} : Left H := { results := [], args := [] }

/-- 'codec.LawS0930AEncode': WHATEVER THE INPUT: true; the input reads as it did. -/
def lawS0930AEncodeSpec : ChangeSpec := { name := "lawS0930AEncode", fn := fun _ => fun
  | [d1, d2, d3, d4, d5, d6] => { results := [.lit (.bool true)], args := [d1, d2, d3, d4, d5, d6] }
  | _ => none }
def lawS0930AEncodeRow : OpenClaim := { program := "ybulksfu", sum := "ba0f8980ff8a3df66449c09a0773e9497c55c16e9494004e79ff3ea25e5d03a8", func := "example.com/seqwire/seqwire/codec.LawS0930AEncode", spec := "lawS0930AEncode", named := ["encoding/binary.BigEndian"], apart := false }
def LawS0930AEncodeSaid : Prop := lawS0930AEncodeRow.holds Yba.pinned (OpenSpec.ofChange lawS0930AEncodeSpec)

/-- ITS FALSE NEIGHBOUR: 'it returns false'. Refute it at one input. -/
def lawS0930AEncodeWrong : ChangeSpec := { name := "lawS0930AEncode", fn := fun _ => fun
  | [d1, d2, d3, d4, d5, d6] => { results := [.lit (.bool false)], args := [d1, d2, d3, d4, d5, d6] }
  | _ => none }
def LawS0930AEncodeWrongFalsely : Prop := lawS0930AEncodeRow.holds Yba.pinned (OpenSpec.ofChange lawS0930AEncodeWrong)

/-- 'codec.LawS0930BBytes': WHATEVER THE INPUT: true; the input reads as it did. -/
def lawS0930BBytesSpec : ChangeSpec := { name := "lawS0930BBytes", fn := fun _ => fun
  | [d1, d2, d3] => { results := [.lit (.bool true)], args := [d1, d2, d3] }
  | _ => none }
def lawS0930BBytesRow : OpenClaim := { program := "ybulksfu", sum := "ba0f8980ff8a3df66449c09a0773e9497c55c16e9494004e79ff3ea25e5d03a8", func := "example.com/seqwire/seqwire/codec.LawS0930BBytes", spec := "lawS0930BBytes", named := ["encoding/binary.BigEndian"], apart := false }
def LawS0930BBytesSaid : Prop := lawS0930BBytesRow.holds Yba.pinned (OpenSpec.ofChange lawS0930BBytesSpec)

/-- ITS FALSE NEIGHBOUR: 'it returns false'. Refute it at one input. -/
def lawS0930BBytesWrong : ChangeSpec := { name := "lawS0930BBytes", fn := fun _ => fun
  | [d1, d2, d3] => { results := [.lit (.bool false)], args := [d1, d2, d3] }
  | _ => none }
def LawS0930BBytesWrongFalsely : Prop := lawS0930BBytesRow.holds Yba.pinned (OpenSpec.ofChange lawS0930BBytesWrong)

end Rows
end Go.Proofs.Ybulksfu
