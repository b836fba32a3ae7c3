/-
  DERIVED. GIVEN WITH THE SEED: THE PROGRAM's TIES (one call each: nine closed facts by the kernel) AND EACH ROW's TIE, after the 31st guide's Derived/Test/Toyas{Tie, Card}.lean. No idea stands in it: it is a product of the set-up. Laid BY PROGRAM, IN A SANDBOX (cutbox-door.mjs). By AI agents, Wed Nov 11 2026. No macro, syntax, notation, axiom, sorry.
-/
import Derived.Test.YbulkahqyFmtRows
import Derived.LaidByTextLater
import Derived.SevenTiedAt
import Derived.LaidSub
import Derived.LaidOnce
namespace Go.Proofs.YbulkahqyFmt
open Go
set_option maxRecDepth 100000
theorem seatTie1 : Ybaf.prog.laidByTextLater [("example.com/veilroute/veilroute/pkg/clienthello.ErrNotClientHello", Rows.laid_example_com_veilroute_veilroute_pkg_clienthello_ErrNotClientHello), ("example.com/veilroute/veilroute/pkg/clienthello.ErrTooLong", Rows.laid_example_com_veilroute_veilroute_pkg_clienthello_ErrTooLong), ("example.com/veilroute/veilroute/pkg/clienthello.legacyFields", Rows.laid_example_com_veilroute_veilroute_pkg_clienthello_legacyFields)] [.sentinel, .sentinel, .data] true :=
  Program.laidByTextLater_by_one 55 8 16 (by kernel_rfl) (by kernel_rfl) (by kernel_rfl) (by kernel_rfl) (by kernel_rfl) (by kernel_rfl) (fun _ _ => by kernel_rfl)
theorem noOwnUnsafe : Ybaf.pinned.checked.prog.headLifts.contains "ownunsafe" = false := by kernel_rfl
theorem tie : Ybaf.prog.laidByTextLater [("example.com/veilroute/veilroute/pkg/clienthello.ErrNotClientHello", Rows.laid_example_com_veilroute_veilroute_pkg_clienthello_ErrNotClientHello), ("example.com/veilroute/veilroute/pkg/clienthello.ErrTooLong", Rows.laid_example_com_veilroute_veilroute_pkg_clienthello_ErrTooLong), ("example.com/veilroute/veilroute/pkg/clienthello.legacyFields", Rows.laid_example_com_veilroute_veilroute_pkg_clienthello_legacyFields)] [.sentinel, .sentinel, .data] true :=
  Program.laidByTextLater.sub seatTie1 ["example.com/veilroute/veilroute/pkg/clienthello.ErrNotClientHello", "example.com/veilroute/veilroute/pkg/clienthello.ErrTooLong", "example.com/veilroute/veilroute/pkg/clienthello.legacyFields"] (by kernel_rfl) (by kernel_rfl)
theorem lawS1675AWhole_row_tie : Rows.lawS1675AWholeRow.laidByTextAt .later Ybaf.pinned [.sentinel, .sentinel, .data] true :=
  OpenClaim.laidByTextAt_later rfl rfl tie noOwnUnsafe
theorem lawS1675AResume_row_tie : Rows.lawS1675AResumeRow.laidByTextAt .later Ybaf.pinned [.sentinel, .sentinel, .data] true :=
  OpenClaim.laidByTextAt_later rfl rfl tie noOwnUnsafe
end Go.Proofs.YbulkahqyFmt
