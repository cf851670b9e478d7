/-
  What the rows' condition on the listed tables gives the walks; the door's own heap meets it.
-/
import Derived.Test.Qxb6605193aDoorFixed
import Derived.Test.Qxb6605193aDoorTie
import Derived.Test.Qxb6605193aDoorCards
import Derived.WalkKit
import Derived.ProofKit
import Derived.LaidMore
import Derived.OpenShut
import Derived.Stop.Joined
import Derived.Stop.LaidErr
import Derived.Below
namespace Go.Proofs.Qxb6605193aDoor
open Go.ChangeShapes Go.WideShapes Go.ChangeAt Go.RowKit
theorem own : ownKnob Tryd.prog.godebug = none := by kernel_rfl
theorem laidOut : laidOutB Tryd.prog = true := by kernel_rfl
/-- the listed variables, as the given rows bear them -/
def laid3 : List (String × DataW Unit) := Rows.fnFixedScalesByTenRow.laid
theorem gTab : Tryd.prog.globalNamed tabName = some 0 := by kernel_rfl
theorem tTab : (Tryd.prog.globals[0]?).map (·.type) = some 56 := by kernel_rfl
theorem cTab : Tryd.prog.cellsOf 56 = 20 := by kernel_rfl
theorem c24 : Tryd.prog.cellsOf 24 = 1 := by kernel_rfl
theorem tab_data : Rows.laid_internal_strconv_uint64pow10 (H := Unit) = Lib.tabData .u64 Lib.pow10Tab := by kernel_rfl
/-- The door's own heap meets the condition: closed facts. -/
theorem door_met (os : Os) (args : Array Value) : laidMetH Tryd.prog laid3 ((World.doorLaid Tryd.prog 24 os).forCall (fun _ _ => 0) ⟨#[], args, []⟩).memory :=
  laidMetH_of_parts3 (fuel := 8) (laidMet_of_run' 8 (by kernel_rfl) (by kernel_rfl)) (by kernel_rfl) (by kernel_rfl)
/-- WHAT THE CONDITION GIVES THE WALKS: the table of the powers of ten. -/
theorem of_laid {W : World} (h : laidMetH Tryd.prog laid3 W) : Lib.TabIs Tryd.prog W tabName .u64 Lib.pow10Tab := by
  rw [MakeChecks.laidMetH_plain _ _ _ (by kernel_rfl)] at h
  have h2 : laidMet Tryd.prog [(tabName, Rows.laid_internal_strconv_uint64pow10)] W := laidMet.tail (laidMet.tail h)
  rw [tab_data] at h2
  exact Lib.tabIs_of_head gTab tTab Tryd.underlying56 Tryd.underlying24 c24 cTab h2
end Go.Proofs.Qxb6605193aDoor
