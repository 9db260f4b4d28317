/-
  WHAT THE ROWS' CONDITION GIVES: the table of powers of ten; and a world that meets the condition.
-/
import Derived.Test.Qxb6608791aDoorWalks
import Derived.LaidMore
import Derived.LaidLaws
import Derived.Stop.Joined
import Derived.Stop.LaidErr
import Derived.Lib.LaidTab
namespace Go.Proofs.Qxb6608791aDoor.W
open Go.RowKit
set_option linter.unusedVariables false

theorem own : ownKnob Tryd.prog.godebug = none := by kernel_rfl
theorem tabG0 : Tryd.prog.globalNamed tabName = some 0 := by kernel_rfl
theorem tabT : (Tryd.prog.globals[0]?).map (·.type) = some 63 := by kernel_rfl
theorem tabU : Tryd.prog.underlying 63 = some (.array 20 38) := by kernel_rfl
theorem tabE : Tryd.prog.underlying 38 = some (.int .u64) := by kernel_rfl
theorem tabCE : Tryd.prog.cellsOf 38 = 1 := by kernel_rfl
theorem tabCT : Tryd.prog.cellsOf 63 = 20 := by kernel_rfl

theorem laid_eq : Rows.fnRevisionFileEndsInItsNumberRow.laid = [Rows.fnRevisionFileEndsInItsNumberRow.laid[0]!, Rows.fnRevisionFileEndsInItsNumberRow.laid[1]!, (tabName, Lib.tabData .u64 Lib.pow10Tab)] := by kernel_rfl

theorem of_laid {W : World} (h : laidMetH Tryd.prog Rows.fnRevisionFileEndsInItsNumberRow.laid W) : Tab W := by
  rw [MakeChecks.laidMetH_plain _ _ _ (by kernel_rfl), laid_eq] at h
  exact Lib.tabIs_of_head tabG0 tabT tabU tabE tabCE tabCT h.tail.tail

/-- The door's own heap meets the condition. -/
theorem door_met (os : Os) (args : Array Value) : laidMetH Tryd.prog Rows.fnRevisionFileEndsInItsNumberRow.laid ((World.doorLaid Tryd.prog 24 os).forCall (fun _ _ => 0) ⟨#[], args, []⟩).memory :=
  laidMetH_of_parts3 (fuel := 8) (laidMet_of_run' 8 (by kernel_rfl) (by kernel_rfl)) (by kernel_rfl) (by kernel_rfl)

end Go.Proofs.Qxb6608791aDoor.W
