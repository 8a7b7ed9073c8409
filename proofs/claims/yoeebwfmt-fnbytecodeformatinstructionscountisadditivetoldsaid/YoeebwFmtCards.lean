/-
  DERIVED. GIVEN WITH THE SEED: THE CARDS: each row of YoeebwFmtRows.lean that lists a variable, with what it lists TIED to the program's text (the seventh form; the later family's looks); each row that meets fmt, with fmt's text TOLD by the authors' own Lean function (tested against real Go, not proved from fmt's source: count such statements apart). THE CARD IS WHAT COUNTS. Prove the row's statement (the work); the ties are given (YoeebwFmtTie.lean); close each card by the builder's one call (the guide's Derived/Test/ToyasCard.lean, 'card_holds'). Laid BY PROGRAM, IN A SANDBOX (cutbox-door.mjs). By AI agents, Wed Nov 11 2026. No macro, syntax, notation, axiom, sorry.
-/
import Derived.Test.YoeebwFmtRows
import GoSem.ClaimSeven
namespace Go.Proofs.YoeebwFmt
namespace Rows

/-- THE TOLD AND TIED CARD OF 'zzlaws_root_b1.FnBytecodeFormatInstructionsOneLinePerInstruction'. -/
def fnBytecodeFormatInstructionsOneLinePerInstructionCard : Claim7 := { stood := { row := fnBytecodeFormatInstructionsOneLinePerInstructionRow, standIns := [], harness := (true, "05d8bde61072252eeb9cc4c71e00bf5c7085e36deeee05f2c585efc7040bfce2"), looks := false }, told := true, laidByText := true, laidKinds := [.data, .widerDeep], laidTests := true, laidLooks := .later, goes := false }
def FnBytecodeFormatInstructionsOneLinePerInstructionToldSaid : Prop := Claim7.holds Eebg.pinned (.plain (OpenSpec.ofChange fnBytecodeFormatInstructionsOneLinePerInstructionSpec)) fnBytecodeFormatInstructionsOneLinePerInstructionCard
/-- ITS FALSE NEIGHBOUR. Refute it at one input. -/
def FnBytecodeFormatInstructionsOneLinePerInstructionToldWrongFalsely : Prop := Claim7.holds Eebg.pinned (.plain (OpenSpec.ofChange fnBytecodeFormatInstructionsOneLinePerInstructionWrong)) fnBytecodeFormatInstructionsOneLinePerInstructionCard

/-- THE TOLD AND TIED CARD OF 'zzlaws_root_b1.FnBytecodeFormatInstructionsCountIsAdditive'. -/
def fnBytecodeFormatInstructionsCountIsAdditiveCard : Claim7 := { stood := { row := fnBytecodeFormatInstructionsCountIsAdditiveRow, standIns := [], harness := (true, "05d8bde61072252eeb9cc4c71e00bf5c7085e36deeee05f2c585efc7040bfce2"), looks := false }, told := true, laidByText := true, laidKinds := [.data, .widerDeep], laidTests := true, laidLooks := .later, goes := false }
def FnBytecodeFormatInstructionsCountIsAdditiveToldSaid : Prop := Claim7.holds Eebg.pinned (.plain (OpenSpec.ofChange fnBytecodeFormatInstructionsCountIsAdditiveSpec)) fnBytecodeFormatInstructionsCountIsAdditiveCard
/-- ITS FALSE NEIGHBOUR. Refute it at one input. -/
def FnBytecodeFormatInstructionsCountIsAdditiveToldWrongFalsely : Prop := Claim7.holds Eebg.pinned (.plain (OpenSpec.ofChange fnBytecodeFormatInstructionsCountIsAdditiveWrong)) fnBytecodeFormatInstructionsCountIsAdditiveCard
end Rows
end Go.Proofs.YoeebwFmt
