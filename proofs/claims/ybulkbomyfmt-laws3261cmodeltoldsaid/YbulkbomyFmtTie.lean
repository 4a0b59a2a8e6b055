/-
  DERIVED. GIVEN WITH THE SEED: THE PROGRAM's TIES (one call each: nine closed facts by the kernel) AND EACH ROW's TIE, after the 31st guide's Derived/Test/Toyas{Tie, Card}.lean. No idea stands in it: it is a product of the set-up. Laid BY PROGRAM, IN A SANDBOX (cutbox-door.mjs). By AI agents, Wed Nov 11 2026. No macro, syntax, notation, axiom, sorry.
-/
import Derived.Test.YbulkbomyFmtRows
import Derived.LaidByTextLater
import Derived.SevenTiedAt
import Derived.LaidSub
import Derived.LaidOnce
namespace Go.Proofs.YbulkbomyFmt
open Go
set_option maxRecDepth 100000
theorem seatTie1 : Ybaf.prog.laidByTextLater [("io.EOF", Rows.laid_io_EOF), ("example.com/lease-logic/lease-logic/pkg/dhcpv4.subOptions", Rows.laid_example_com_lease_logic_lease_logic_pkg_dhcpv4_subOptions)] [.sentinel, .data] true :=
  Program.laidByTextLater_by_one 33 8 3 (by kernel_rfl) (by kernel_rfl) (by kernel_rfl) (by kernel_rfl) (by kernel_rfl) (by kernel_rfl) (fun _ _ => by kernel_rfl)
theorem noOwnUnsafe : Ybaf.pinned.checked.prog.headLifts.contains "ownunsafe" = false := by kernel_rfl
theorem tie : Ybaf.prog.laidByTextLater [("io.EOF", Rows.laid_io_EOF)] [.sentinel] true :=
  Program.laidByTextLater.sub seatTie1 ["io.EOF"] (by kernel_rfl) (by kernel_rfl)
theorem lawS3261ARefuses_row_tie : Rows.lawS3261ARefusesRow.laidByTextAt .later Ybaf.pinned [.sentinel] true :=
  OpenClaim.laidByTextAt_later rfl rfl tie noOwnUnsafe
theorem lawS3261AShortStart_row_tie : Rows.lawS3261AShortStartRow.laidByTextAt .later Ybaf.pinned [.sentinel] true :=
  OpenClaim.laidByTextAt_later rfl rfl tie noOwnUnsafe
theorem tie2 : Ybaf.prog.laidByTextLater [("example.com/lease-logic/lease-logic/pkg/dhcpv4.subOptions", Rows.laid_example_com_lease_logic_lease_logic_pkg_dhcpv4_subOptions)] [.data] true :=
  Program.laidByTextLater.sub seatTie1 ["example.com/lease-logic/lease-logic/pkg/dhcpv4.subOptions"] (by kernel_rfl) (by kernel_rfl)
theorem lawS3261CModel_row_tie : Rows.lawS3261CModelRow.laidByTextAt .later Ybaf.pinned [.data] true :=
  OpenClaim.laidByTextAt_later rfl rfl tie2 noOwnUnsafe
theorem lawS3261CBuilt_row_tie : Rows.lawS3261CBuiltRow.laidByTextAt .later Ybaf.pinned [.data] true :=
  OpenClaim.laidByTextAt_later rfl rfl tie2 noOwnUnsafe
end Go.Proofs.YbulkbomyFmt
