/-
  DERIVED. GIVEN WITH THE SEED: THE PROGRAM's TIES (one call each: nine closed facts by the kernel) AND EACH ROW's TIE, after the 31st guide's Derived/Test/Toyas{Tie, Card}.lean. No idea stands in it: it is a product of the set-up. Laid BY PROGRAM, IN A SANDBOX (cutbox-door.mjs). By AI agents, Wed Nov 11 2026. No macro, syntax, notation, axiom, sorry.
-/
import Derived.Test.Qxb6612272aDoorRows
import Derived.LaidByTextLater
import Derived.SevenTiedAt
import Derived.LaidSub
import Derived.LaidOnce
namespace Go.Proofs.Qxb6612272aDoor
open Go
set_option maxRecDepth 100000
theorem seatTie1 : Tryd.prog.laidByTextLater [("example.com/phasegate/phasegate/internal/lock.compatible", Rows.laid_example_com_phasegate_phasegate_internal_lock_compatible)] [.called] true :=
  Program.laidByTextLater_by_one 398 8 7 (by kernel_rfl) (by kernel_rfl) (by kernel_rfl) (by kernel_rfl) (by kernel_rfl) (by kernel_rfl) (fun _ _ => by kernel_rfl)
theorem noOwnUnsafe : Tryd.pinned.checked.prog.headLifts.contains "ownunsafe" = false := by kernel_rfl
theorem tie : Tryd.prog.laidByTextLater [("example.com/phasegate/phasegate/internal/lock.compatible", Rows.laid_example_com_phasegate_phasegate_internal_lock_compatible)] [.called] true :=
  Program.laidByTextLater.sub seatTie1 ["example.com/phasegate/phasegate/internal/lock.compatible"] (by kernel_rfl) (by kernel_rfl)
theorem fnConflictsMatchesLockSemantics_row_tie : Rows.fnConflictsMatchesLockSemanticsRow.laidByTextAt .later Tryd.pinned [.called] true :=
  OpenClaim.laidByTextAt_later rfl rfl tie noOwnUnsafe
theorem fnConflictsCountAndSymmetry_row_tie : Rows.fnConflictsCountAndSymmetryRow.laidByTextAt .later Tryd.pinned [.called] true :=
  OpenClaim.laidByTextAt_later rfl rfl tie noOwnUnsafe
end Go.Proofs.Qxb6612272aDoor
