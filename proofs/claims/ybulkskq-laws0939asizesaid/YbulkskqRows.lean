/-
  No cell of these rows narrows 'for every input' (looked for: loops, veiled, ifaces, maps, wideKeys, modest, calm, conditions, laid).
  DERIVED. THE GIVEN ROWS OF THIS SEAT. 1 by the template 'for every input the law returns true; each argument reads behind the call as it read before'; 0 by the template 'total and deterministic' (their statements: YbulkskqTotals.lean).
  GIVEN WITH THE SEED: the statements are not yours to turn. If you find one false, say at which input.
  Laid BY PROGRAM, IN A SANDBOX (cutbox-rows.mjs): the forced cells as the released guide's own fill.sh prints them over the translation ed52ca07e99789c0… (all of the seat's roots in one cut). By AI agents, Wed Nov 11 2026. No macro, syntax, notation, axiom, sorry.
-/
import Derived.Test.YbulkskqChecked
import GoSem.Claim
import GoSem.ClaimJoined
import GoSem.ClaimMapViews
import Derived.JoinedTies
import Derived.KernelRfl
namespace Go.Proofs.Ybulkskq
/- THE CELL 'sum', in the pinned program and in every row, IS THE sha256 OF THE DUMP (.gsa) THAT YbulkskqProg.lean LOADS. Nothing in Lean hashes anything: it is a label: what it is worth is what the hold of that sum in a sandbox is worth. -/
noncomputable def Yba.pinned : Pinned := { name := "ybulkskq", sum := "ed52ca07e99789c0dce2a67b63a560bc25a81fd33764590e096ea693945436dc", checked := Yba.checked }
namespace Rows
def none {H : Type} : Left H := { results := [], args := [] }

/-- 'conf3.LawS0939ASize': WHATEVER THE INPUT: true; the input reads as it did. -/
def lawS0939ASizeSpec : ChangeSpec := { name := "lawS0939ASize", fn := fun _ => fun
  | [d1, d2, d3, d4, d5, d6] => { results := [.lit (.bool true)], args := [d1, d2, d3, d4, d5, d6] }
  | _ => none }
def lawS0939ASizeRow : OpenClaim := { program := "ybulkskq", sum := "ed52ca07e99789c0dce2a67b63a560bc25a81fd33764590e096ea693945436dc", func := "example.com/conf3/conf3.LawS0939ASize", spec := "lawS0939ASize", apart := false }
def LawS0939ASizeSaid : Prop := lawS0939ASizeRow.holds Yba.pinned (OpenSpec.ofChange lawS0939ASizeSpec)

/-- ITS FALSE NEIGHBOUR: 'it returns false'. Refute it at one input. -/
def lawS0939ASizeWrong : ChangeSpec := { name := "lawS0939ASize", fn := fun _ => fun
  | [d1, d2, d3, d4, d5, d6] => { results := [.lit (.bool false)], args := [d1, d2, d3, d4, d5, d6] }
  | _ => none }
def LawS0939ASizeWrongFalsely : Prop := lawS0939ASizeRow.holds Yba.pinned (OpenSpec.ofChange lawS0939ASizeWrong)

end Rows
end Go.Proofs.Ybulkskq
