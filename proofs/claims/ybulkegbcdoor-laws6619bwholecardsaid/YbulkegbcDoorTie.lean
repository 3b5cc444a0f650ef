/-
  DERIVED. GIVEN WITH THE SEED: THE PROGRAM's TIES (one call each: nine closed facts by the kernel) AND EACH ROW's TIE, after the 31st guide's Derived/Test/Toyas{Tie, Card}.lean. No idea stands in it: it is a product of the set-up. Laid BY PROGRAM, IN A SANDBOX (cutbox-door.mjs). By AI agents, Wed Nov 11 2026. No macro, syntax, notation, axiom, sorry.
-/
import Derived.Test.YbulkegbcDoorRows
import Derived.LaidByTextLater
import Derived.SevenTiedAt
import Derived.LaidSub
import Derived.LaidOnce
namespace Go.Proofs.YbulkegbcDoor
open Go
set_option maxRecDepth 100000
theorem seatTie1 : Ybad.prog.laidByTextLater [("io.ErrUnexpectedEOF", Rows.laid_io_ErrUnexpectedEOF), ("example.com/protolathe/protolathe.errVarintTooLong", Rows.laid_example_com_protolathe_protolathe_errVarintTooLong), ("example.com/protolathe/protolathe.errTagTooLong", Rows.laid_example_com_protolathe_protolathe_errTagTooLong)] [.sentinel, .sentinel, .sentinel] true :=
  Program.laidByTextLater_by_one 66 8 2 (by kernel_rfl) (by kernel_rfl) (by kernel_rfl) (by kernel_rfl) (by kernel_rfl) (by kernel_rfl) (fun _ _ => by kernel_rfl)
theorem noOwnUnsafe : Ybad.pinned.checked.prog.headLifts.contains "ownunsafe" = false := by kernel_rfl
theorem tie : Ybad.prog.laidByTextLater [("io.ErrUnexpectedEOF", Rows.laid_io_ErrUnexpectedEOF), ("example.com/protolathe/protolathe.errVarintTooLong", Rows.laid_example_com_protolathe_protolathe_errVarintTooLong), ("example.com/protolathe/protolathe.errTagTooLong", Rows.laid_example_com_protolathe_protolathe_errTagTooLong)] [.sentinel, .sentinel, .sentinel] true :=
  Program.laidByTextLater.sub seatTie1 ["io.ErrUnexpectedEOF", "example.com/protolathe/protolathe.errVarintTooLong", "example.com/protolathe/protolathe.errTagTooLong"] (by kernel_rfl) (by kernel_rfl)
theorem lawS6619BWhole_row_tie : Rows.lawS6619BWholeRow.laidByTextAt .later Ybad.pinned [.sentinel, .sentinel, .sentinel] true :=
  OpenClaim.laidByTextAt_later rfl rfl tie noOwnUnsafe
end Go.Proofs.YbulkegbcDoor
