/-
  NARROWER THAN 'FOR EVERY INPUT', by the rows' own cells (each row's printed sentence says how): LawS0930ARoundTrip: ifaces, laid · LawS0930BRoundTrip: ifaces, laid · LawS0930CDecode: ifaces, laid · LawS0930CDeletionV2: ifaces, laid.
  DERIVED. THE GIVEN ROWS OF THIS SEAT. 4 by the template 'for every input the law returns true; each argument reads behind the call as it read before'; 0 by the template 'total and deterministic' (their statements: YbulksfuDoorTotals.lean).
  GIVEN WITH THE SEED: the statements are not yours to turn. If you find one false, say at which input.
  Laid BY PROGRAM, IN A SANDBOX (cutbox-rows.mjs): the forced cells as the released guide's own fill.sh prints them over the translation f19f0a02075a467b… (all of the seat's roots in one cut). By AI agents, Wed Nov 11 2026. No macro, syntax, notation, axiom, sorry.
-/
import Derived.Test.YbulksfuDoorChecked
import GoSem.Claim
import GoSem.ClaimJoined
import GoSem.ClaimMapViews
import Derived.JoinedTies
import Derived.KernelRfl
namespace Go.Proofs.YbulksfuDoor
/- THE CELL 'sum', in the pinned program and in every row, IS THE sha256 OF THE DUMP (.gsa) THAT YbulksfuDoorProg.lean LOADS. Nothing in Lean hashes anything: it is a label: what it is worth is what the hold of that sum in a sandbox is worth. -/
noncomputable def Ybad.pinned : Pinned := { name := "ybulksfudoor", sum := "f19f0a02075a467b9ed093794f1b472e6c30ad147c1f2791e2ec927bf1b10e0e", checked := Ybad.checked }
namespace Rows
def none {H : Type} : Left H := { results := [], args := [] }

/- WHAT THE LISTED PACKAGE-LEVEL VARIABLES READ AS WHEN THE CALL BEGINS. Each datum BY PROGRAM (the guide's laid-datum.mjs) off the statement by which the dump's own 'gosem.cut.vars' lays the variable. In a bare row this is a premise. The card (YbulksfuDoorCards.lean) ties it to the program's text. -/
def laid_example_com_seqwire_seqwire_codec_ErrBadExtrasLength {H : Type} : DataW H := .iface "*errors.errorString" (.ptr (.agg [.lit (.string [98, 97, 100, 32, 101, 120, 116, 114, 97, 115, 32, 108, 101, 110, 103, 116, 104])]))

/-- 'codec.LawS0930ARoundTrip': WHATEVER THE INPUT: true; the input reads as it did. -/
def lawS0930ARoundTripSpec : ChangeSpec := { name := "lawS0930ARoundTrip", vars := ["example.com/seqwire/seqwire/codec.ErrBadExtrasLength"], fn := fun _ => fun
  | [d1, d2, d3, d4, d5, g1] => { results := [.lit (.bool true)], args := [d1, d2, d3, d4, d5], vars := [g1] }
  | _ => none }
def lawS0930ARoundTripRow : OpenClaim := { program := "ybulksfudoor", sum := "f19f0a02075a467b9ed093794f1b472e6c30ad147c1f2791e2ec927bf1b10e0e", func := "example.com/seqwire/seqwire/codec.LawS0930ARoundTrip", spec := "lawS0930ARoundTrip", named := ["encoding/binary.BigEndian", "example.com/seqwire/seqwire/codec.ErrBadExtrasLength"], ifaces := true, apart := false, laid := [("example.com/seqwire/seqwire/codec.ErrBadExtrasLength", laid_example_com_seqwire_seqwire_codec_ErrBadExtrasLength)] }
def LawS0930ARoundTripSaid : Prop := lawS0930ARoundTripRow.holds Ybad.pinned (OpenSpec.ofChange lawS0930ARoundTripSpec)

/-- ITS FALSE NEIGHBOUR: 'it returns false'. Refute it at one input. -/
def lawS0930ARoundTripWrong : ChangeSpec := { name := "lawS0930ARoundTrip", vars := ["example.com/seqwire/seqwire/codec.ErrBadExtrasLength"], fn := fun _ => fun
  | [d1, d2, d3, d4, d5, g1] => { results := [.lit (.bool false)], args := [d1, d2, d3, d4, d5], vars := [g1] }
  | _ => none }
def LawS0930ARoundTripWrongFalsely : Prop := lawS0930ARoundTripRow.holds Ybad.pinned (OpenSpec.ofChange lawS0930ARoundTripWrong)

/-- 'codec.LawS0930BRoundTrip': WHATEVER THE INPUT: true; the input reads as it did. -/
def lawS0930BRoundTripSpec : ChangeSpec := { name := "lawS0930BRoundTrip", vars := ["example.com/seqwire/seqwire/codec.ErrBadExtrasLength"], fn := fun _ => fun
  | [d1, d2, d3, g1] => { results := [.lit (.bool true)], args := [d1, d2, d3], vars := [g1] }
  | _ => none }
def lawS0930BRoundTripRow : OpenClaim := { program := "ybulksfudoor", sum := "f19f0a02075a467b9ed093794f1b472e6c30ad147c1f2791e2ec927bf1b10e0e", func := "example.com/seqwire/seqwire/codec.LawS0930BRoundTrip", spec := "lawS0930BRoundTrip", named := ["encoding/binary.BigEndian", "example.com/seqwire/seqwire/codec.ErrBadExtrasLength"], ifaces := true, apart := false, laid := [("example.com/seqwire/seqwire/codec.ErrBadExtrasLength", laid_example_com_seqwire_seqwire_codec_ErrBadExtrasLength)] }
def LawS0930BRoundTripSaid : Prop := lawS0930BRoundTripRow.holds Ybad.pinned (OpenSpec.ofChange lawS0930BRoundTripSpec)

/-- ITS FALSE NEIGHBOUR: 'it returns false'. Refute it at one input. -/
def lawS0930BRoundTripWrong : ChangeSpec := { name := "lawS0930BRoundTrip", vars := ["example.com/seqwire/seqwire/codec.ErrBadExtrasLength"], fn := fun _ => fun
  | [d1, d2, d3, g1] => { results := [.lit (.bool false)], args := [d1, d2, d3], vars := [g1] }
  | _ => none }
def LawS0930BRoundTripWrongFalsely : Prop := lawS0930BRoundTripRow.holds Ybad.pinned (OpenSpec.ofChange lawS0930BRoundTripWrong)

/-- 'codec.LawS0930CDecode': WHATEVER THE INPUT: true; the input reads as it did. -/
def lawS0930CDecodeSpec : ChangeSpec := { name := "lawS0930CDecode", vars := ["example.com/seqwire/seqwire/codec.ErrBadExtrasLength"], fn := fun _ => fun
  | [d1, d2, g1] => { results := [.lit (.bool true)], args := [d1, d2], vars := [g1] }
  | _ => none }
def lawS0930CDecodeRow : OpenClaim := { program := "ybulksfudoor", sum := "f19f0a02075a467b9ed093794f1b472e6c30ad147c1f2791e2ec927bf1b10e0e", func := "example.com/seqwire/seqwire/codec.LawS0930CDecode", spec := "lawS0930CDecode", named := ["example.com/seqwire/seqwire/codec.ErrBadExtrasLength", "encoding/binary.BigEndian"], ifaces := true, apart := false, laid := [("example.com/seqwire/seqwire/codec.ErrBadExtrasLength", laid_example_com_seqwire_seqwire_codec_ErrBadExtrasLength)] }
def LawS0930CDecodeSaid : Prop := lawS0930CDecodeRow.holds Ybad.pinned (OpenSpec.ofChange lawS0930CDecodeSpec)

/-- ITS FALSE NEIGHBOUR: 'it returns false'. Refute it at one input. -/
def lawS0930CDecodeWrong : ChangeSpec := { name := "lawS0930CDecode", vars := ["example.com/seqwire/seqwire/codec.ErrBadExtrasLength"], fn := fun _ => fun
  | [d1, d2, g1] => { results := [.lit (.bool false)], args := [d1, d2], vars := [g1] }
  | _ => none }
def LawS0930CDecodeWrongFalsely : Prop := lawS0930CDecodeRow.holds Ybad.pinned (OpenSpec.ofChange lawS0930CDecodeWrong)

/-- 'codec.LawS0930CDeletionV2': WHATEVER THE INPUT: true; the input reads as it did. -/
def lawS0930CDeletionV2Spec : ChangeSpec := { name := "lawS0930CDeletionV2", vars := ["example.com/seqwire/seqwire/codec.ErrBadExtrasLength"], fn := fun _ => fun
  | [d1, d2, g1] => { results := [.lit (.bool true)], args := [d1, d2], vars := [g1] }
  | _ => none }
def lawS0930CDeletionV2Row : OpenClaim := { program := "ybulksfudoor", sum := "f19f0a02075a467b9ed093794f1b472e6c30ad147c1f2791e2ec927bf1b10e0e", func := "example.com/seqwire/seqwire/codec.LawS0930CDeletionV2", spec := "lawS0930CDeletionV2", named := ["example.com/seqwire/seqwire/codec.ErrBadExtrasLength", "encoding/binary.BigEndian"], ifaces := true, apart := false, laid := [("example.com/seqwire/seqwire/codec.ErrBadExtrasLength", laid_example_com_seqwire_seqwire_codec_ErrBadExtrasLength)] }
def LawS0930CDeletionV2Said : Prop := lawS0930CDeletionV2Row.holds Ybad.pinned (OpenSpec.ofChange lawS0930CDeletionV2Spec)

/-- ITS FALSE NEIGHBOUR: 'it returns false'. Refute it at one input. -/
def lawS0930CDeletionV2Wrong : ChangeSpec := { name := "lawS0930CDeletionV2", vars := ["example.com/seqwire/seqwire/codec.ErrBadExtrasLength"], fn := fun _ => fun
  | [d1, d2, g1] => { results := [.lit (.bool false)], args := [d1, d2], vars := [g1] }
  | _ => none }
def LawS0930CDeletionV2WrongFalsely : Prop := lawS0930CDeletionV2Row.holds Ybad.pinned (OpenSpec.ofChange lawS0930CDeletionV2Wrong)

end Rows
end Go.Proofs.YbulksfuDoor
