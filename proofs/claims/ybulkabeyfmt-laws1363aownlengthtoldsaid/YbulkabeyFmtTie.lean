/-
  DERIVED. GIVEN WITH THE SEED: THE PROGRAM's TIES (one call each: nine closed facts by the kernel) AND EACH ROW's TIE, after the 31st guide's Derived/Test/Toyas{Tie, Card}.lean. No idea stands in it: it is a product of the set-up. Laid BY PROGRAM, IN A SANDBOX (cutbox-door.mjs). By AI agents, Wed Nov 11 2026. No macro, syntax, notation, axiom, sorry.
-/
import Derived.Test.YbulkabeyFmtRows
import Derived.LaidByTextLater
import Derived.SevenTiedAt
import Derived.LaidSub
import Derived.LaidOnce
namespace Go.Proofs.YbulkabeyFmt
open Go
set_option maxRecDepth 100000
theorem seatTie1 : Ybaf.prog.laidByTextLater [("example.com/ephemerid/ephemerid.ErrLength", Rows.laid_example_com_ephemerid_ephemerid_ErrLength), ("example.com/ephemerid/ephemerid.ErrRange", Rows.laid_example_com_ephemerid_ephemerid_ErrRange)] [.called, .called] true :=
  Program.laidByTextLater_by_one 47 8 2 (by kernel_rfl) (by kernel_rfl) (by kernel_rfl) (by kernel_rfl) (by kernel_rfl) (by kernel_rfl) (fun _ _ => by kernel_rfl)
theorem noOwnUnsafe : Ybaf.pinned.checked.prog.headLifts.contains "ownunsafe" = false := by kernel_rfl
theorem tie : Ybaf.prog.laidByTextLater [("example.com/ephemerid/ephemerid.ErrLength", Rows.laid_example_com_ephemerid_ephemerid_ErrLength)] [.called] true :=
  Program.laidByTextLater.sub seatTie1 ["example.com/ephemerid/ephemerid.ErrLength"] (by kernel_rfl) (by kernel_rfl)
theorem lawS1363AVerdict_row_tie : Rows.lawS1363AVerdictRow.laidByTextAt .later Ybaf.pinned [.called] true :=
  OpenClaim.laidByTextAt_later rfl rfl tie noOwnUnsafe
theorem lawS1363AOwnLength_row_tie : Rows.lawS1363AOwnLengthRow.laidByTextAt .later Ybaf.pinned [.called] true :=
  OpenClaim.laidByTextAt_later rfl rfl tie noOwnUnsafe
theorem tie2 : Ybaf.prog.laidByTextLater [("example.com/ephemerid/ephemerid.ErrRange", Rows.laid_example_com_ephemerid_ephemerid_ErrRange)] [.called] true :=
  Program.laidByTextLater.sub seatTie1 ["example.com/ephemerid/ephemerid.ErrRange"] (by kernel_rfl) (by kernel_rfl)
theorem lawS1363CInvalid_row_tie : Rows.lawS1363CInvalidRow.laidByTextAt .later Ybaf.pinned [.called] true :=
  OpenClaim.laidByTextAt_later rfl rfl tie2 noOwnUnsafe
end Go.Proofs.YbulkabeyFmt
