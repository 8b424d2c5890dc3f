/-
  DERIVED. GIVEN WITH THE SEED: THE PROGRAM's TIES (one call each: nine closed facts by the kernel) AND EACH ROW's TIE, after the 31st guide's Derived/Test/Toyas{Tie, Card}.lean. No idea stands in it: it is a product of the set-up. Laid BY PROGRAM, IN A SANDBOX (cutbox-door.mjs). By AI agents, Wed Nov 11 2026. No macro, syntax, notation, axiom, sorry.
-/
import Derived.Test.YbulksfuDoorRows
import Derived.LaidByTextLater
import Derived.SevenTiedAt
import Derived.LaidSub
import Derived.LaidOnce
namespace Go.Proofs.YbulksfuDoor
open Go
set_option maxRecDepth 100000
theorem seatTie1 : Ybad.prog.laidByTextLater [("example.com/seqwire/seqwire/codec.ErrBadExtrasLength", Rows.laid_example_com_seqwire_seqwire_codec_ErrBadExtrasLength)] [.called] true :=
  Program.laidByTextLater_by_one 28 8 2 (by kernel_rfl) (by kernel_rfl) (by kernel_rfl) (by kernel_rfl) (by kernel_rfl) (by kernel_rfl) (fun _ _ => by kernel_rfl)
theorem noOwnUnsafe : Ybad.pinned.checked.prog.headLifts.contains "ownunsafe" = false := by kernel_rfl
theorem tie : Ybad.prog.laidByTextLater [("example.com/seqwire/seqwire/codec.ErrBadExtrasLength", Rows.laid_example_com_seqwire_seqwire_codec_ErrBadExtrasLength)] [.called] true :=
  Program.laidByTextLater.sub seatTie1 ["example.com/seqwire/seqwire/codec.ErrBadExtrasLength"] (by kernel_rfl) (by kernel_rfl)
theorem lawS0930ARoundTrip_row_tie : Rows.lawS0930ARoundTripRow.laidByTextAt .later Ybad.pinned [.called] true :=
  OpenClaim.laidByTextAt_later rfl rfl tie noOwnUnsafe
theorem lawS0930BRoundTrip_row_tie : Rows.lawS0930BRoundTripRow.laidByTextAt .later Ybad.pinned [.called] true :=
  OpenClaim.laidByTextAt_later rfl rfl tie noOwnUnsafe
theorem lawS0930CDecode_row_tie : Rows.lawS0930CDecodeRow.laidByTextAt .later Ybad.pinned [.called] true :=
  OpenClaim.laidByTextAt_later rfl rfl tie noOwnUnsafe
theorem lawS0930CDeletionV2_row_tie : Rows.lawS0930CDeletionV2Row.laidByTextAt .later Ybad.pinned [.called] true :=
  OpenClaim.laidByTextAt_later rfl rfl tie noOwnUnsafe
end Go.Proofs.YbulksfuDoor
