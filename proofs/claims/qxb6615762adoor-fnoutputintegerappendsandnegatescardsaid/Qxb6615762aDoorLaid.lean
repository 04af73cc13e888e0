import Derived.Test.Qxb6615762aDoorTie
import Derived.Test.Qxb6615762aDoorShelf
import Derived.Test.Qxb6615762aDoorOut
import Derived.LaidMore
import Derived.Stop.LaidErr
import Derived.Lib.LaidTab
import Derived.ProofKit
import Derived.OpenShut
import Derived.Stop.Joined
namespace Go.Proofs.Qxb6615762aDoor
open Go.RowKit

/-- What the rows list. -/
def laid3 : List (String × DataW Unit) := Rows.fnOutputIntegerAppendsAndNegatesRow.laid

theorem own : ownKnob Tryd.prog.godebug = none := by kernel_rfl
theorem laidOut : laidOutB Tryd.prog = true := by kernel_rfl
theorem gTab : Tryd.prog.globalNamed tabName = some 0 := by kernel_rfl
theorem tTab : (Tryd.prog.globals[0]?).map (·.type) = some 45 := by kernel_rfl
theorem cells27 : Tryd.prog.cellsOf 27 = 1 := by kernel_rfl
theorem cells45 : Tryd.prog.cellsOf 45 = 20 := by kernel_rfl

set_option maxRecDepth 100000 in
theorem laid_tab : (Rows.laid_internal_strconv_uint64pow10 : DataW Unit) = Lib.tabData .u64 Lib.pow10Tab := by kernel_rfl

/-- The door's own heap meets the condition. -/
theorem door_met (os : Os) (args : Array Value) : laidMetH Tryd.prog laid3 ((World.doorLaid Tryd.prog 24 os).forCall (fun _ _ => 0) ⟨#[], args, []⟩).memory :=
  laidMetH_of_parts3 (fuel := 8) (laidMet_of_run' 8 (by kernel_rfl) (by kernel_rfl)) (by kernel_rfl) (by kernel_rfl)

/-- What the condition gives the walks. -/
theorem tab_of_laid {W : World} (h : laidMetH Tryd.prog laid3 W) : App.Tab W.heap.size W := by
  rw [MakeChecks.laidMetH_plain _ _ _ (by kernel_rfl)] at h
  have h2 : laidMet Tryd.prog [(tabName, Lib.tabData .u64 Lib.pow10Tab)] W := by
    have h3 := h.tail.tail
    rw [laid_tab] at h3
    exact h3
  exact Lib.tabBelow_of_tabIs (Lib.tabIs_of_head gTab tTab Tryd.underlying45 Tryd.underlying27 cells27 cells45 h2)

end Go.Proofs.Qxb6615762aDoor
