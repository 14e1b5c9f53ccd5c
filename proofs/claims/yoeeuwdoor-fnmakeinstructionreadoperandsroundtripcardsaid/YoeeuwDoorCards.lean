/-
  DERIVED. GIVEN WITH THE SEED: THE CARDS: each row of YoeeuwDoorRows.lean that lists a variable, with what it lists TIED to the program's text (the seventh form; the later family's looks); each row that meets fmt, with fmt's text TOLD by the authors' own Lean function (tested against real Go, not proved from fmt's source: count such statements apart). THE CARD IS WHAT COUNTS. Prove the row's statement (the work); the ties are given (YoeeuwDoorTie.lean); close each card by the builder's one call (the guide's Derived/Test/ToyasCard.lean, 'card_holds'). Laid BY PROGRAM, IN A SANDBOX (cutbox-door.mjs). By AI agents, Wed Nov 11 2026. No macro, syntax, notation, axiom, sorry.
-/
import Derived.Test.YoeeuwDoorRows
import GoSem.ClaimSeven
namespace Go.Proofs.YoeeuwDoor
namespace Rows

/-- THE TIED CARD OF 'zzlaws_root_b1.FnMakeInstructionExactBytes'. -/
def fnMakeInstructionExactBytesCard : Claim7 := { stood := { row := fnMakeInstructionExactBytesRow, standIns := [], harness := (true, "0e171d185269194077806107357a1cc8ae74d401924f425327896c72cfce070c"), looks := false }, kinds := [], alts := [], laidByText := true, laidKinds := [.widerDeep], laidTests := true, laidLooks := .later }
def FnMakeInstructionExactBytesCardSaid : Prop := Claim7.holds Eeug.pinned (.plain (OpenSpec.ofChange fnMakeInstructionExactBytesSpec)) fnMakeInstructionExactBytesCard

/-- THE TIED CARD OF 'zzlaws_root_b1.FnMakeInstructionReadOperandsRoundTrip'. -/
def fnMakeInstructionReadOperandsRoundTripCard : Claim7 := { stood := { row := fnMakeInstructionReadOperandsRoundTripRow, standIns := [], harness := (true, "0e171d185269194077806107357a1cc8ae74d401924f425327896c72cfce070c"), looks := false }, kinds := [], alts := [], laidByText := true, laidKinds := [.widerDeep], laidTests := true, laidLooks := .later }
def FnMakeInstructionReadOperandsRoundTripCardSaid : Prop := Claim7.holds Eeug.pinned (.plain (OpenSpec.ofChange fnMakeInstructionReadOperandsRoundTripSpec)) fnMakeInstructionReadOperandsRoundTripCard
end Rows
end Go.Proofs.YoeeuwDoor
