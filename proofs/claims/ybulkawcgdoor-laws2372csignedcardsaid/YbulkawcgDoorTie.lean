/-
  DERIVED. GIVEN WITH THE SEED: THE PROGRAM's TIES (one call each: nine closed facts by the kernel) AND EACH ROW's TIE, after the 31st guide's Derived/Test/Toyas{Tie, Card}.lean. No idea stands in it: it is a product of the set-up. Laid BY PROGRAM, IN A SANDBOX (cutbox-door.mjs). By AI agents, Wed Nov 11 2026. No macro, syntax, notation, axiom, sorry.
-/
import Derived.Test.YbulkawcgDoorRows
import Derived.LaidByTextLater
import Derived.SevenTiedAt
import Derived.LaidSub
import Derived.LaidOnce
namespace Go.Proofs.YbulkawcgDoor
open Go
set_option maxRecDepth 100000
theorem seatTie1 : Ybad.prog.laidByTextLater [("example.com/parmark/parmark/pkg/fund.kindRules", Rows.laid_example_com_parmark_parmark_pkg_fund_kindRules)] [.mapped] true :=
  Program.laidByTextLater_by_one 80 8 2 (by kernel_rfl) (by kernel_rfl) (by kernel_rfl) (by kernel_rfl) (by kernel_rfl) (by kernel_rfl) (fun _ _ => by kernel_rfl)
theorem noOwnUnsafe : Ybad.pinned.checked.prog.headLifts.contains "ownunsafe" = false := by kernel_rfl
theorem tie : Ybad.prog.laidByTextLater [("example.com/parmark/parmark/pkg/fund.kindRules", Rows.laid_example_com_parmark_parmark_pkg_fund_kindRules)] [.mapped] true :=
  Program.laidByTextLater.sub seatTie1 ["example.com/parmark/parmark/pkg/fund.kindRules"] (by kernel_rfl) (by kernel_rfl)
theorem lawS2372CSigned_row_tie : Rows.lawS2372CSignedRow.laidByTextAt .later Ybad.pinned [.mapped] true :=
  OpenClaim.laidByTextAt_later rfl rfl tie noOwnUnsafe
theorem lawS2372CFresh_row_tie : Rows.lawS2372CFreshRow.laidByTextAt .later Ybad.pinned [.mapped] true :=
  OpenClaim.laidByTextAt_later rfl rfl tie noOwnUnsafe
end Go.Proofs.YbulkawcgDoor
