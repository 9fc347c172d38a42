/-
  WHAT THE ROWS' CONDITION GIVES THE WALKS: net/url.table's cells; a start that meets it.
-/
import Derived.Test.Qxb6627573aDoorHex
import Derived.ProofKit
import Derived.LaidMore
import Derived.Stop.Joined
import Derived.Lib.LaidTab
namespace Go.Proofs.Qxb6627573aDoor
open Go.ChangeShapes Go.WideShapes Go.ChangeAt Go.RowKit

theorem own : ownKnob Tryd.prog.godebug = none := by kernel_rfl
/-- The one variable that both rows list, with its datum; its name. -/
def laidL : List (String × DataW Unit) := Rows.fnSentDecodesToPathAndIsAFixedPointRow.laid
def nm : String := (laidL.headD ("", .nil)).1
theorem gT : Tryd.prog.globalNamed nm = some 0 := by kernel_rfl
theorem gTType : (Tryd.prog.globals[0]?).map (·.type) = some 55 := by kernel_rfl
theorem cells42 : Tryd.prog.cellsOf 42 = 1 := by kernel_rfl
theorem cells55 : Tryd.prog.cellsOf 55 = 256 := by kernel_rfl

theorem tab_len : tab.length = 256 := by kernel_rfl
theorem laid_tab : laidL = [(nm, Lib.tabData .u8 tab)] := by kernel_rfl
theorem tab_of_laid {W : World} (h : laidMetH Tryd.prog laidL W) : TabAt W := by
  rw [MakeChecks.laidMetH_plain _ _ _ (by kernel_rfl)] at h
  have h' : laidMet Tryd.prog [(nm, Lib.tabData .u8 tab)] W := laid_tab ▸ h
  have hT := Lib.tabIs_of_head gT gTType Tryd.underlying55 Tryd.underlying42 cells42 cells55 h'
  intro i hi
  exact hT.cell gT i (by rw [tab_len]; exact hi)

theorem door_met (os : Os) (args : Array Value) : laidMetH Tryd.prog laidL ((World.doorLaid Tryd.prog 14 os).forCall (fun _ _ => 0) ⟨#[], args, []⟩).memory :=
  laidMetH_of_parts3 (fuel := 8) (laidMet_of_run' 8 (by kernel_rfl) (by kernel_rfl)) (by kernel_rfl) (by kernel_rfl)

end Go.Proofs.Qxb6627573aDoor
