/-
  DERIVED. GIVEN WITH THE SEED: THE CARDS: each row of YoeeuwFmtRows.lean that lists a variable, with what it lists TIED to the program's text (the seventh form; the later family's looks); each row that meets fmt, with fmt's text TOLD by the authors' own Lean function (tested against real Go, not proved from fmt's source: count such statements apart). THE CARD IS WHAT COUNTS. Prove the row's statement (the work); the ties are given (YoeeuwFmtTie.lean); close each card by the builder's one call (the guide's Derived/Test/ToyasCard.lean, 'card_holds'). Laid BY PROGRAM, IN A SANDBOX (cutbox-door.mjs). By AI agents, Wed Nov 11 2026. No macro, syntax, notation, axiom, sorry.
-/
import Derived.Test.YoeeuwFmtRows
import GoSem.ClaimSeven
namespace Go.Proofs.YoeeuwFmt
namespace Rows

/-- THE TOLD AND TIED CARD OF 'zzlaws_root_b1.FnFormatInstructionsOneLinePerInstruction'. -/
def fnFormatInstructionsOneLinePerInstructionCard : Claim7 := { stood := { row := fnFormatInstructionsOneLinePerInstructionRow, standIns := [], harness := (true, "fc61b1eec1d1ee22b6a9b05e46b24d88ca04407d6bcddaffbc9c5507bea7850a"), looks := false }, told := true, laidByText := true, laidKinds := [.data, .widerDeep], laidTests := true, laidLooks := .later, goes := false }
def FnFormatInstructionsOneLinePerInstructionToldSaid : Prop := Claim7.holds Eeug.pinned (.plain (OpenSpec.ofChange fnFormatInstructionsOneLinePerInstructionSpec)) fnFormatInstructionsOneLinePerInstructionCard
/-- ITS FALSE NEIGHBOUR. Refute it at one input. -/
def FnFormatInstructionsOneLinePerInstructionToldWrongFalsely : Prop := Claim7.holds Eeug.pinned (.plain (OpenSpec.ofChange fnFormatInstructionsOneLinePerInstructionWrong)) fnFormatInstructionsOneLinePerInstructionCard

/-- THE TOLD AND TIED CARD OF 'zzlaws_root_b1.FnFormatInstructionsSplitsAtBoundary'. -/
def fnFormatInstructionsSplitsAtBoundaryCard : Claim7 := { stood := { row := fnFormatInstructionsSplitsAtBoundaryRow, standIns := [], harness := (true, "fc61b1eec1d1ee22b6a9b05e46b24d88ca04407d6bcddaffbc9c5507bea7850a"), looks := false }, told := true, laidByText := true, laidKinds := [.data, .widerDeep], laidTests := true, laidLooks := .later, goes := false }
def FnFormatInstructionsSplitsAtBoundaryToldSaid : Prop := Claim7.holds Eeug.pinned (.plain (OpenSpec.ofChange fnFormatInstructionsSplitsAtBoundarySpec)) fnFormatInstructionsSplitsAtBoundaryCard
/-- ITS FALSE NEIGHBOUR. Refute it at one input. -/
def FnFormatInstructionsSplitsAtBoundaryToldWrongFalsely : Prop := Claim7.holds Eeug.pinned (.plain (OpenSpec.ofChange fnFormatInstructionsSplitsAtBoundaryWrong)) fnFormatInstructionsSplitsAtBoundaryCard
end Rows
end Go.Proofs.YoeeuwFmt
