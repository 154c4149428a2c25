/-
  DERIVED. GIVEN WITH THE SEED: THE PROGRAM's TIES (one call each: nine closed facts by the kernel) AND EACH ROW's TIE, after the 31st guide's Derived/Test/Toyas{Tie, Card}.lean. No idea stands in it: it is a product of the set-up. Laid BY PROGRAM, IN A SANDBOX (cutbox-door.mjs). By AI agents, Wed Nov 11 2026. No macro, syntax, notation, axiom, sorry.
-/
import Derived.Test.YbulkagqaDoorRows
import Derived.LaidByTextLater
import Derived.SevenTiedAt
import Derived.LaidSub
import Derived.LaidOnce
namespace Go.Proofs.YbulkagqaDoor
open Go
set_option maxRecDepth 100000
theorem seatTie1 : Ybad.prog.laidByTextLater [("example.com/relata/relata/pkg/book.relationRules", Rows.laid_example_com_relata_relata_pkg_book_relationRules)] [.mappedDeep] true :=
  Program.laidByTextLater_by_one 80 8 2 (by kernel_rfl) (by kernel_rfl) (by kernel_rfl) (by kernel_rfl) (by kernel_rfl) (by kernel_rfl) (fun _ _ => by kernel_rfl)
theorem noOwnUnsafe : Ybad.pinned.checked.prog.headLifts.contains "ownunsafe" = false := by kernel_rfl
theorem tie : Ybad.prog.laidByTextLater [("example.com/relata/relata/pkg/book.relationRules", Rows.laid_example_com_relata_relata_pkg_book_relationRules)] [.mappedDeep] true :=
  Program.laidByTextLater.sub seatTie1 ["example.com/relata/relata/pkg/book.relationRules"] (by kernel_rfl) (by kernel_rfl)
theorem lawS1625BAll_row_tie : Rows.lawS1625BAllRow.laidByTextAt .later Ybad.pinned [.mappedDeep] true :=
  OpenClaim.laidByTextAt_later rfl rfl tie noOwnUnsafe
theorem lawS1625BAt_row_tie : Rows.lawS1625BAtRow.laidByTextAt .later Ybad.pinned [.mappedDeep] true :=
  OpenClaim.laidByTextAt_later rfl rfl tie noOwnUnsafe
theorem lawS1625BVoters_row_tie : Rows.lawS1625BVotersRow.laidByTextAt .later Ybad.pinned [.mappedDeep] true :=
  OpenClaim.laidByTextAt_later rfl rfl tie noOwnUnsafe
end Go.Proofs.YbulkagqaDoor
