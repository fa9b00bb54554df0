/-
  DERIVED. GIVEN WITH THE SEED: THE PROGRAM's TIES (one call each: nine closed facts by the kernel) AND EACH ROW's TIE, after the 31st guide's Derived/Test/Toyas{Tie, Card}.lean. No idea stands in it: it is a product of the set-up. Laid BY PROGRAM, IN A SANDBOX (cutbox-door.mjs). By AI agents, Wed Nov 11 2026. No macro, syntax, notation, axiom, sorry.
-/
import Derived.Test.YbulkexmwwFmtRows
import Derived.LaidByTextLater
import Derived.SevenTiedAt
import Derived.LaidSub
import Derived.LaidOnce
namespace Go.Proofs.YbulkexmwwFmt
open Go
set_option maxRecDepth 100000
theorem seatTie1 : Ybaf.prog.laidByTextLater [("io.ErrUnexpectedEOF", Rows.laid_io_ErrUnexpectedEOF), ("example.com/sheaf/sheaf/internal/thrift.typeNames", Rows.laid_example_com_sheaf_sheaf_internal_thrift_typeNames), ("example.com/sheaf/sheaf/internal/thrift.errLongVarint", Rows.laid_example_com_sheaf_sheaf_internal_thrift_errLongVarint)] [.sentinel, .data, .sentinel] true :=
  Program.laidByTextLater_by_one 52 8 14 (by kernel_rfl) (by kernel_rfl) (by kernel_rfl) (by kernel_rfl) (by kernel_rfl) (by kernel_rfl) (fun _ _ => by kernel_rfl)
theorem noOwnUnsafe : Ybaf.pinned.checked.prog.headLifts.contains "ownunsafe" = false := by kernel_rfl
theorem tie : Ybaf.prog.laidByTextLater [("io.ErrUnexpectedEOF", Rows.laid_io_ErrUnexpectedEOF), ("example.com/sheaf/sheaf/internal/thrift.typeNames", Rows.laid_example_com_sheaf_sheaf_internal_thrift_typeNames), ("example.com/sheaf/sheaf/internal/thrift.errLongVarint", Rows.laid_example_com_sheaf_sheaf_internal_thrift_errLongVarint)] [.sentinel, .data, .sentinel] true :=
  Program.laidByTextLater.sub seatTie1 ["io.ErrUnexpectedEOF", "example.com/sheaf/sheaf/internal/thrift.typeNames", "example.com/sheaf/sheaf/internal/thrift.errLongVarint"] (by kernel_rfl) (by kernel_rfl)
theorem lawS194008CWhole_row_tie : Rows.lawS194008CWholeRow.laidByTextAt .later Ybaf.pinned [.sentinel, .data, .sentinel] true :=
  OpenClaim.laidByTextAt_later rfl rfl tie noOwnUnsafe
end Go.Proofs.YbulkexmwwFmt
