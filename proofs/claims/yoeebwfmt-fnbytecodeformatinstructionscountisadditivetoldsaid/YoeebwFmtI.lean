import Derived.Test.YoeebwFmtRows
import Derived.Test.YoeebwFmtH
import Derived.ProofKit
import Derived.LaidMore
import Derived.OpenShut
import Derived.Deep.Slices
import Derived.Stop.JoinedTold
import Derived.Stop.Joined
namespace Go.Proofs.YoeebwFmt
open Go.ChangeShapes Go.WideShapes Go.ChangeAt Go.WideMaps Go.WideElems Go.RowKit Go.Deep
open Go.Extern.Stop Go.Stop Go.Extern

theorem Eebg.own : ownKnob Eebg.prog.godebug = none := by kernel_rfl
theorem Eebg.laidOut : laidOutB Eebg.pinned.checked.prog = true := by kernel_rfl
theorem Eebg.stops : Eebg.pinned.checked.prog.stops = Rows.fnBytecodeFormatInstructionsOneLinePerInstructionRow.stops := by kernel_rfl
theorem Eebg.stopKnobs : Eebg.pinned.checked.prog.stopKnobs = [] := by kernel_rfl
theorem Eebg.quiet (os : Os) : Stop.quiet Eebg.pinned.checked.prog os := by
  intro k hk
  rw [Eebg.stopKnobs] at hk
  cases hk
theorem Eebg.cells4 : Eebg.prog.cellsOf 4 = 1 := by kernel_rfl
theorem Eebg.cells5 : Eebg.prog.cellsOf 5 = 1 := by kernel_rfl
theorem Eebg.cells46 : Eebg.prog.cellsOf 46 = 1 := by kernel_rfl
theorem Eebg.cells3 : Eebg.prog.cellsOf 3 = 1 := by kernel_rfl
theorem Eebg.cells9 : Eebg.prog.cellsOf 9 = 1 := by kernel_rfl
theorem Eebg.cells49 : Eebg.prog.cellsOf 49 = 1 := by kernel_rfl
theorem Eebg.cells50 : Eebg.prog.cellsOf 50 = 42 := by kernel_rfl
theorem Eebg.cells54 : Eebg.prog.cellsOf 54 = 42 := by kernel_rfl

/-- The two variables' names, in the specification's order. -/
def nOps : String := Rows.fnBytecodeFormatInstructionsOneLinePerInstructionSpec.vars.getD 0 ""
def nNms : String := Rows.fnBytecodeFormatInstructionsOneLinePerInstructionSpec.vars.getD 1 ""
theorem Eebg.gOps : Eebg.prog.globalNamed nOps = some 0 := by kernel_rfl
theorem Eebg.gNms : Eebg.prog.globalNamed nNms = some 1 := by kernel_rfl
theorem Eebg.tOps : (Eebg.prog.globals[0]?).map (·.type) = some 50 := by kernel_rfl
theorem Eebg.tNms : (Eebg.prog.globals[1]?).map (·.type) = some 54 := by kernel_rfl

end Go.Proofs.YoeebwFmt
