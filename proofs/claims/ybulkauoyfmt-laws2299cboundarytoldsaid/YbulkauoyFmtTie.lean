/-
  DERIVED. GIVEN WITH THE SEED: THE PROGRAM's TIES (one call each: nine closed facts by the kernel) AND EACH ROW's TIE, after the 31st guide's Derived/Test/Toyas{Tie, Card}.lean. No idea stands in it: it is a product of the set-up. Laid BY PROGRAM, IN A SANDBOX (cutbox-door.mjs). By AI agents, Wed Nov 11 2026. No macro, syntax, notation, axiom, sorry.
-/
import Derived.Test.YbulkauoyFmtRows
import Derived.LaidByTextLater
import Derived.SevenTiedAt
import Derived.LaidSub
import Derived.LaidOnce
namespace Go.Proofs.YbulkauoyFmt
open Go
set_option maxRecDepth 100000
theorem seatTie1 : Ybaf.prog.laidByTextLater [("example.com/marmot/marmot/pkg/object.ErrTooLarge", Rows.laid_example_com_marmot_marmot_pkg_object_ErrTooLarge), ("example.com/marmot/marmot/pkg/vm.bindOps", Rows.laid_example_com_marmot_marmot_pkg_vm_bindOps), ("example.com/marmot/marmot/pkg/vm.opcodes", Rows.laid_example_com_marmot_marmot_pkg_vm_opcodes)] [.sentinel, .data, .data] true :=
  Program.laidByTextLater_by_one 74 8 217 (by kernel_rfl) (by kernel_rfl) (by kernel_rfl) (by kernel_rfl) (by kernel_rfl) (by kernel_rfl) (fun _ _ => by kernel_rfl)
theorem noOwnUnsafe : Ybaf.pinned.checked.prog.headLifts.contains "ownunsafe" = false := by kernel_rfl
theorem tie : Ybaf.prog.laidByTextLater [("example.com/marmot/marmot/pkg/vm.bindOps", Rows.laid_example_com_marmot_marmot_pkg_vm_bindOps), ("example.com/marmot/marmot/pkg/vm.opcodes", Rows.laid_example_com_marmot_marmot_pkg_vm_opcodes)] [.data, .data] true :=
  Program.laidByTextLater.sub seatTie1 ["example.com/marmot/marmot/pkg/vm.bindOps", "example.com/marmot/marmot/pkg/vm.opcodes"] (by kernel_rfl) (by kernel_rfl)
theorem lawS2299BGlobal_row_tie : Rows.lawS2299BGlobalRow.laidByTextAt .later Ybaf.pinned [.data, .data] true :=
  OpenClaim.laidByTextAt_later rfl rfl tie noOwnUnsafe
theorem lawS2299BLocal_row_tie : Rows.lawS2299BLocalRow.laidByTextAt .later Ybaf.pinned [.data, .data] true :=
  OpenClaim.laidByTextAt_later rfl rfl tie noOwnUnsafe
theorem tie2 : Ybaf.prog.laidByTextLater [("example.com/marmot/marmot/pkg/object.ErrTooLarge", Rows.laid_example_com_marmot_marmot_pkg_object_ErrTooLarge)] [.sentinel] true :=
  Program.laidByTextLater.sub seatTie1 ["example.com/marmot/marmot/pkg/object.ErrTooLarge"] (by kernel_rfl) (by kernel_rfl)
theorem lawS2299CSmall_row_tie : Rows.lawS2299CSmallRow.laidByTextAt .later Ybaf.pinned [.sentinel] true :=
  OpenClaim.laidByTextAt_later rfl rfl tie2 noOwnUnsafe
theorem lawS2299CBoundary_row_tie : Rows.lawS2299CBoundaryRow.laidByTextAt .later Ybaf.pinned [.sentinel] true :=
  OpenClaim.laidByTextAt_later rfl rfl tie2 noOwnUnsafe
end Go.Proofs.YbulkauoyFmt
