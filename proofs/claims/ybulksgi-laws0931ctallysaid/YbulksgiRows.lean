/-
  No cell of these rows narrows 'for every input' (looked for: loops, veiled, ifaces, maps, wideKeys, modest, calm, conditions, laid).
  DERIVED. THE GIVEN ROWS OF THIS SEAT. 1 by the template 'for every input the law returns true; each argument reads behind the call as it read before'; 0 by the template 'total and deterministic' (their statements: YbulksgiTotals.lean).
  GIVEN WITH THE SEED: the statements are not yours to turn. If you find one false, say at which input.
  Laid BY PROGRAM, IN A SANDBOX (cutbox-rows.mjs): the forced cells as the released guide's own fill.sh prints them over the translation 17359622fcee6968… (all of the seat's roots in one cut). By AI agents, Wed Nov 11 2026. No macro, syntax, notation, axiom, sorry.
-/
import Derived.Test.YbulksgiChecked
import GoSem.Claim
import GoSem.ClaimJoined
import GoSem.ClaimMapViews
import Derived.JoinedTies
import Derived.KernelRfl
namespace Go.Proofs.Ybulksgi
/- THE CELL 'sum', in the pinned program and in every row, IS THE sha256 OF THE DUMP (.gsa) THAT YbulksgiProg.lean LOADS. Nothing in Lean hashes anything: it is a label: what it is worth is what the hold of that sum in a sandbox is worth. -/
noncomputable def Yba.pinned : Pinned := { name := "ybulksgi", sum := "17359622fcee69680a66033cfb2cbed33be36c1593b4c7981bf017bd62dcde26", checked := Yba.checked }
namespace Rows
def none {H : Type} : Left H := { results := [], args := [] }

/-- 'lorekeep.LawS0931CTally': WHATEVER THE INPUT: true; the input reads as it did. -/
def lawS0931CTallySpec : ChangeSpec := { name := "lawS0931CTally", fn := fun _ => fun
  | [d1, d2] => { results := [.lit (.bool true)], args := [d1, d2] }
  | _ => none }
def lawS0931CTallyRow : OpenClaim := { program := "ybulksgi", sum := "17359622fcee69680a66033cfb2cbed33be36c1593b4c7981bf017bd62dcde26", func := "example.com/lorekeep/lorekeep.LawS0931CTally", spec := "lawS0931CTally", unfollowed := true, recurses := true, plainKeys := false, apart := false }
def LawS0931CTallySaid : Prop := lawS0931CTallyRow.holds Yba.pinned (OpenSpec.ofChange lawS0931CTallySpec)

/-- ITS FALSE NEIGHBOUR: 'it returns false'. Refute it at one input. -/
def lawS0931CTallyWrong : ChangeSpec := { name := "lawS0931CTally", fn := fun _ => fun
  | [d1, d2] => { results := [.lit (.bool false)], args := [d1, d2] }
  | _ => none }
def LawS0931CTallyWrongFalsely : Prop := lawS0931CTallyRow.holds Yba.pinned (OpenSpec.ofChange lawS0931CTallyWrong)

end Rows
end Go.Proofs.Ybulksgi
