/-
  SEAT b6600045aD: WHAT THE ROWS' LISTED VARIABLES GIVE: the table of powers of ten; the door's own heap meets the condition.
-/
import Derived.Test.Qxb6600045aDoorPrice
import Derived.ProofKit
import Derived.LaidMore
import Derived.Lib.LaidTab
import Derived.Stop.LaidErr
import Derived.Stop.Joined
namespace Go.Proofs.Qxb6600045aDoor
open Go.ChangeShapes Go.WideShapes Go.ChangeAt Go.RowKit

theorem own : ownKnob Tryd.prog.godebug = none := by kernel_rfl
theorem laidOut : laidOutB Tryd.prog = true := by kernel_rfl
/-- The three listed variables (the two rows list the same). -/
abbrev laid3 : List (String × DataW Unit) := Rows.fnAppendEventScriptKeepsMidInBandRow.laid

theorem door_met (os : Os) (args : Array Value) : laidMetH Tryd.prog laid3 ((World.doorLaid Tryd.prog 24 os).forCall (fun _ _ => 0) ⟨#[], args, []⟩).memory :=
  laidMetH_of_parts3 (fuel := 8) (laidMet_of_run' 8 (by kernel_rfl) (by kernel_rfl)) (by kernel_rfl) (by kernel_rfl)

theorem gPow : Tryd.prog.globalNamed powName = some 0 := by kernel_rfl
theorem tPow : (Tryd.prog.globals[0]?).map (·.type) = some 58 := by kernel_rfl
theorem cells22 : Tryd.prog.cellsOf 22 = 1 := by kernel_rfl
theorem cells58 : Tryd.prog.cellsOf 58 = 20 := by kernel_rfl

theorem tab_of_laid {W : World} (h : laidMetH Tryd.prog laid3 W) : Tab W.heap.size W := by
  rw [MakeChecks.laidMetH_plain _ _ _ (by kernel_rfl)] at h
  have h2 : laidMet Tryd.prog ((powName, Lib.tabData .u64 Lib.pow10Tab) :: []) W := h.tail.tail
  exact Lib.tabBelow_of_tabIs (Lib.tabIs_of_head gPow tPow Tryd.underlying58 Tryd.underlying22 cells22 cells58 h2)
end Go.Proofs.Qxb6600045aDoor
