/-
  SEAT b6001053aD: FROM THE ROW's CONDITION ('laid') TO THE CONTRACT's FACT: the table of powers of ten holds its twenty numbers; the door's own heap meets the condition.
-/
import Derived.Test.Qxb6001053aDoorWalks
import Derived.LaidMore
import Derived.OpenShut
import Derived.Stop.Joined
import Derived.Stop.LaidErr
namespace Go.Proofs.Qxb6001053aDoor
open Go.ChangeShapes Go.WideShapes Go.ChangeAt Go.RowKit

theorem own : ownKnob Tryd.prog.godebug = none := by kernel_rfl
theorem gPow : Tryd.prog.globalNamed powName = some 0 := by kernel_rfl
theorem tPow : (Tryd.prog.globals[0]?).map (·.type) = some 38 := by kernel_rfl
theorem cells30 : Tryd.prog.cellsOf 30 = 1 := by kernel_rfl
theorem cells38 : Tryd.prog.cellsOf 38 = 20 := by kernel_rfl

/-- The list that both rows lay. -/
def laid3 : List (String × DataW Unit) := Rows.fnObjectTypeStringParsesBackRow.laid

theorem laid3_is : ∃ x y, laid3 = [x, y, (powName, Lib.tabData .u64 Lib.pow10Tab)] :=
  ⟨laid3.headD (powName, .nil), laid3.tail.headD (powName, .nil), by kernel_rfl⟩

theorem of_laid {W : World} (h : laidMetH Tryd.prog laid3 W) : Lib.TabIs Tryd.prog W powName .u64 Lib.pow10Tab := by
  rw [MakeChecks.laidMetH_plain _ _ _ (by kernel_rfl)] at h
  obtain ⟨x, y, e⟩ := laid3_is
  rw [e] at h
  exact Lib.tabIs_of_head gPow tPow Tryd.underlying38 Tryd.underlying30 cells30 cells38 h.tail.tail

theorem door_met (os : Os) (args : Array Value) : laidMetH Tryd.prog laid3 ((World.doorLaid Tryd.prog 24 os).forCall (fun _ _ => 0) ⟨#[], args, []⟩).memory :=
  laidMetH_of_parts3 (fuel := 8) (laidMet_of_run' 8 (by kernel_rfl) (by kernel_rfl)) (by kernel_rfl) (by kernel_rfl)

end Go.Proofs.Qxb6001053aDoor
