/-
  DERIVED. GIVEN WITH THE SEED: THE PROGRAM's TIES (one call each: nine closed facts by the kernel) AND EACH ROW's TIE, after the 31st guide's Derived/Test/Toyas{Tie, Card}.lean. No idea stands in it: it is a product of the set-up. Laid BY PROGRAM, IN A SANDBOX (cutbox-door.mjs). By AI agents, Wed Nov 11 2026. No macro, syntax, notation, axiom, sorry.
-/
import Derived.Test.YbulktzaFmtRows
import Derived.LaidByTextLater
import Derived.SevenTiedAt
import Derived.LaidSub
import Derived.LaidOnce
namespace Go.Proofs.YbulktzaFmt
open Go
set_option maxRecDepth 100000
theorem seatTie1 : Ybaf.prog.laidByTextLater [("example.com/chronolattice/chronolattice.ErrMalformed", Rows.laid_example_com_chronolattice_chronolattice_ErrMalformed), ("example.com/chronolattice/chronolattice.errEnds", Rows.laid_example_com_chronolattice_chronolattice_errEnds), ("example.com/chronolattice/chronolattice.errOverflows", Rows.laid_example_com_chronolattice_chronolattice_errOverflows), ("example.com/chronolattice/chronolattice.errNotShortest", Rows.laid_example_com_chronolattice_chronolattice_errNotShortest)] [.sentinel, .sentinel, .sentinel, .sentinel] true :=
  Program.laidByTextLater_by_one 85 8 2 (by kernel_rfl) (by kernel_rfl) (by kernel_rfl) (by kernel_rfl) (by kernel_rfl) (by kernel_rfl) (fun _ _ => by kernel_rfl)
theorem noOwnUnsafe : Ybaf.pinned.checked.prog.headLifts.contains "ownunsafe" = false := by kernel_rfl
theorem tie : Ybaf.prog.laidByTextLater [("example.com/chronolattice/chronolattice.ErrMalformed", Rows.laid_example_com_chronolattice_chronolattice_ErrMalformed), ("example.com/chronolattice/chronolattice.errEnds", Rows.laid_example_com_chronolattice_chronolattice_errEnds), ("example.com/chronolattice/chronolattice.errOverflows", Rows.laid_example_com_chronolattice_chronolattice_errOverflows), ("example.com/chronolattice/chronolattice.errNotShortest", Rows.laid_example_com_chronolattice_chronolattice_errNotShortest)] [.sentinel, .sentinel, .sentinel, .sentinel] true :=
  Program.laidByTextLater.sub seatTie1 ["example.com/chronolattice/chronolattice.ErrMalformed", "example.com/chronolattice/chronolattice.errEnds", "example.com/chronolattice/chronolattice.errOverflows", "example.com/chronolattice/chronolattice.errNotShortest"] (by kernel_rfl) (by kernel_rfl)
theorem lawS1014BRoundTrip_row_tie : Rows.lawS1014BRoundTripRow.laidByTextAt .later Ybaf.pinned [.sentinel, .sentinel, .sentinel, .sentinel] true :=
  OpenClaim.laidByTextAt_later rfl rfl tie noOwnUnsafe
theorem lawS1014BBytes_row_tie : Rows.lawS1014BBytesRow.laidByTextAt .later Ybaf.pinned [.sentinel, .sentinel, .sentinel, .sentinel] true :=
  OpenClaim.laidByTextAt_later rfl rfl tie noOwnUnsafe
theorem lawS1014CRoundTrip_row_tie : Rows.lawS1014CRoundTripRow.laidByTextAt .later Ybaf.pinned [.sentinel, .sentinel, .sentinel, .sentinel] true :=
  OpenClaim.laidByTextAt_later rfl rfl tie noOwnUnsafe
theorem lawS1014CRefuseOrEncodeBack_row_tie : Rows.lawS1014CRefuseOrEncodeBackRow.laidByTextAt .later Ybaf.pinned [.sentinel, .sentinel, .sentinel, .sentinel] true :=
  OpenClaim.laidByTextAt_later rfl rfl tie noOwnUnsafe
end Go.Proofs.YbulktzaFmt
