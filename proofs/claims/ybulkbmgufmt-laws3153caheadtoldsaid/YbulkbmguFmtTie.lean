/-
  DERIVED. GIVEN WITH THE SEED: THE PROGRAM's TIES (one call each: nine closed facts by the kernel) AND EACH ROW's TIE, after the 31st guide's Derived/Test/Toyas{Tie, Card}.lean. No idea stands in it: it is a product of the set-up. Laid BY PROGRAM, IN A SANDBOX (cutbox-door.mjs). By AI agents, Wed Nov 11 2026. No macro, syntax, notation, axiom, sorry.
-/
import Derived.Test.YbulkbmguFmtRows
import Derived.LaidByTextLater
import Derived.SevenTiedAt
import Derived.LaidSub
import Derived.LaidOnce
namespace Go.Proofs.YbulkbmguFmt
open Go
set_option maxRecDepth 100000
theorem seatTie1 : Ybaf.prog.laidByTextLater [("io.EOF", Rows.laid_io_EOF), ("example.com/ringward/ringward/ber.ErrTruncated", Rows.laid_example_com_ringward_ringward_ber_ErrTruncated), ("example.com/ringward/ringward/ber.ErrInvalid", Rows.laid_example_com_ringward_ringward_ber_ErrInvalid)] [.called, .called, .called] true :=
  Program.laidByTextLater_by_one 221 8 134 (by kernel_rfl) (by kernel_rfl) (by kernel_rfl) (by kernel_rfl) (by kernel_rfl) (by kernel_rfl) (fun _ _ => by kernel_rfl)
theorem noOwnUnsafe : Ybaf.pinned.checked.prog.headLifts.contains "ownunsafe" = false := by kernel_rfl
theorem tie : Ybaf.prog.laidByTextLater [("example.com/ringward/ringward/ber.ErrTruncated", Rows.laid_example_com_ringward_ringward_ber_ErrTruncated), ("example.com/ringward/ringward/ber.ErrInvalid", Rows.laid_example_com_ringward_ringward_ber_ErrInvalid)] [.called, .called] true :=
  Program.laidByTextLater.sub seatTie1 ["example.com/ringward/ringward/ber.ErrTruncated", "example.com/ringward/ringward/ber.ErrInvalid"] (by kernel_rfl) (by kernel_rfl)
theorem lawS3153ARoundTrip_row_tie : Rows.lawS3153ARoundTripRow.laidByTextAt .later Ybaf.pinned [.called, .called] true :=
  OpenClaim.laidByTextAt_later rfl rfl tie noOwnUnsafe
theorem tie2 : Ybaf.prog.laidByTextLater [("io.EOF", Rows.laid_io_EOF)] [.called] true :=
  Program.laidByTextLater.sub seatTie1 ["io.EOF"] (by kernel_rfl) (by kernel_rfl)
theorem lawS3153CVisits_row_tie : Rows.lawS3153CVisitsRow.laidByTextAt .later Ybaf.pinned [.called] true :=
  OpenClaim.laidByTextAt_later rfl rfl tie2 noOwnUnsafe
theorem lawS3153CAhead_row_tie : Rows.lawS3153CAheadRow.laidByTextAt .later Ybaf.pinned [.called] true :=
  OpenClaim.laidByTextAt_later rfl rfl tie2 noOwnUnsafe
end Go.Proofs.YbulkbmguFmt
