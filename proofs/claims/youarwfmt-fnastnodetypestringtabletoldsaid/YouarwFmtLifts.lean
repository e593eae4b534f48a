/-
  WHAT BOTH CARDS SHARE: closed facts of the program; a start that meets the rows' condition (the heap that the door's own run leaves); the table's cells out of the condition.
-/
import Derived.Test.YouarwFmtLaws
import Derived.ProofKit
import Derived.LaidMore
import Derived.OpenVars
import Derived.Lib.LaidTab
import Derived.Stop.JoinedTold
import Derived.Deep.DeepWitnessRef
namespace Go.Proofs.YouarwFmt
open Go.ChangeShapes Go.WideShapes Go.ChangeAt Go.RowKit
open Plain (nm idx)

theorem Uarg.own : ownKnob Uarg.prog.godebug = none := by kernel_rfl
theorem Uarg.laidOut : laidOutB Uarg.prog = true := by kernel_rfl
theorem Uarg.stopKnobs : Uarg.pinned.checked.prog.stopKnobs = [] := by kernel_rfl
theorem Uarg.quiet (os : Os) : Stop.quiet Uarg.pinned.checked.prog os := by
  intro k hk
  rw [Uarg.stopKnobs] at hk
  cases hk
theorem cells28 : Uarg.prog.cellsOf 28 = 1 := by kernel_rfl
theorem cells29 : Uarg.prog.cellsOf 29 = 24 := by kernel_rfl

/-- The door's own heap meets the condition. -/
theorem door_met (os : Os) (args : Array Value) : laidMetH Uarg.prog Rows.fnASTNodeTypeStringTableRow.laid ((World.doorLaid Uarg.prog 400 os).forCall (fun _ _ => 0) ⟨#[], args, []⟩).memory := by
  rw [MakeChecks.laidMetH_plain _ _ _ (by kernel_rfl)]
  exact laidMet_of_run' 8 (by kernel_rfl) (by kernel_rfl)

/-- WHAT THE CONDITION GIVES THE WALKS: the table's cells. -/
theorem cells_of_laid {W : World} (h : laidMetH Uarg.prog Rows.fnASTNodeTypeStringTableRow.laid W) : ∀ i : Nat, i < 24 → W.cell? ⟨0, i, none⟩ = some (.int .u16 (idx.getD i 0)) := by
  rw [MakeChecks.laidMetH_plain _ _ _ (by kernel_rfl)] at h
  have hT := Lib.tabIs_of_head (k := .u16) (zs := idx) (g := 0) (t := 29) (e := 28) (n := 24) (by kernel_rfl) (by kernel_rfl) Uarg.underlying29 Uarg.underlying28 cells28 cells29 h
  intro i hi
  exact hT.cell (by kernel_rfl) i hi

end Go.Proofs.YouarwFmt
