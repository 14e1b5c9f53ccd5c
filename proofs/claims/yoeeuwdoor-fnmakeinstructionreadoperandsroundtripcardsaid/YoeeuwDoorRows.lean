/-
  NARROWER THAN 'FOR EVERY INPUT', by the rows' own cells (each row's printed sentence says how): FnMakeInstructionExactBytes: laid · FnMakeInstructionReadOperandsRoundTrip: laid.
  DERIVED. THE GIVEN ROWS OF THIS SEAT. 2 by the template 'for every input the law returns true; each argument reads behind the call as it read before'; 0 by the template 'total and deterministic' (their statements: YoeeuwDoorTotals.lean).
  GIVEN WITH THE SEED: the statements are not yours to turn. If you find one false, say at which input.
  Laid BY PROGRAM, IN A SANDBOX (cutbox-rows.mjs): the forced cells as the released guide's own fill.sh prints them over the translation bd248aea4cfa209b… (all of the seat's roots in one cut). By AI agents, Wed Nov 11 2026. No macro, syntax, notation, axiom, sorry.
-/
import Derived.Test.YoeeuwDoorChecked
import GoSem.Claim
import GoSem.ClaimJoined
import GoSem.ClaimMapViews
import Derived.JoinedTies
import Derived.KernelRfl
namespace Go.Proofs.YoeeuwDoor
/- THE CELL 'sum', in the pinned program and in every row, IS THE sha256 OF THE DUMP (.gsa) THAT YoeeuwDoorProg.lean LOADS. Nothing in Lean hashes anything: it is a label: what it is worth is what the hold of that sum in a sandbox is worth. -/
noncomputable def Eeug.pinned : Pinned := { name := "yoeeuwdoor", sum := "bd248aea4cfa209baa0f1f6874bf672b2077cb26b39d1da2323ee5c84be8a853", checked := Eeug.checked }
namespace Rows
def none {H : Type} : Left H := { results := [], args := [] }

/- WHAT THE LISTED PACKAGE-LEVEL VARIABLES READ AS WHEN THE CALL BEGINS. Each datum BY PROGRAM (the guide's laid-datum.mjs) off the statement by which the dump's own 'gosem.cut.vars' lays the variable. In a bare row this is a premise. The card (YoeeuwDoorCards.lean) ties it to the program's text. -/
def laid_github_com_d5_tengo_v2_parser_OpcodeOperands {H : Type} : DataW H := .agg [.slice [.lit (.int .i64 2)] [], .slice [] [], .slice [] [], .slice [] [], .slice [] [], .slice [] [], .slice [] [], .slice [] [], .slice [] [], .slice [.lit (.int .i64 4)] [], .slice [.lit (.int .i64 4)] [], .slice [.lit (.int .i64 4)] [], .slice [.lit (.int .i64 4)] [], .slice [] [], .slice [.lit (.int .i64 2)] [], .slice [.lit (.int .i64 2)] [], .slice [] [], .slice [] [], .slice [] [], .slice [] [], .slice [.lit (.int .i64 1), .lit (.int .i64 1)] [], .slice [.lit (.int .i64 1)] [], .slice [.lit (.int .i64 2)] [], .slice [.lit (.int .i64 2)] [], .slice [.lit (.int .i64 2), .lit (.int .i64 1)] [], .slice [.lit (.int .i64 1)] [], .slice [.lit (.int .i64 1)] [], .slice [.lit (.int .i64 1)] [], .slice [.lit (.int .i64 1), .lit (.int .i64 1)] [], .slice [.lit (.int .i64 1)] [], .slice [.lit (.int .i64 1)] [], .slice [.lit (.int .i64 1)] [], .slice [.lit (.int .i64 1)] [], .slice [.lit (.int .i64 1), .lit (.int .i64 1)] [], .slice [.lit (.int .i64 1)] [], .slice [.lit (.int .i64 2), .lit (.int .i64 1)] [], .slice [] [], .slice [] [], .slice [] [], .slice [] [], .slice [.lit (.int .i64 1)] [], .slice [] []]

/-- 'zzlaws_root_b1.FnMakeInstructionExactBytes': WHATEVER THE INPUT: true; the input reads as it did. -/
def fnMakeInstructionExactBytesSpec : ChangeSpec := { name := "fnMakeInstructionExactBytes", vars := ["github.com/d5/tengo/v2/parser.OpcodeOperands"], fn := fun _ => fun
  | [d1, d2, d3, d4, g1] => { results := [.lit (.bool true)], args := [d1, d2, d3, d4], vars := [g1] }
  | _ => none }
def fnMakeInstructionExactBytesRow : OpenClaim := { program := "yoeeuwdoor", sum := "bd248aea4cfa209baa0f1f6874bf672b2077cb26b39d1da2323ee5c84be8a853", func := "github.com/d5/tengo/v2/zzlaws_root_b1.FnMakeInstructionExactBytes", spec := "fnMakeInstructionExactBytes", named := ["github.com/d5/tengo/v2/parser.OpcodeOperands"], apart := false, laid := [("github.com/d5/tengo/v2/parser.OpcodeOperands", laid_github_com_d5_tengo_v2_parser_OpcodeOperands)] }
def FnMakeInstructionExactBytesSaid : Prop := fnMakeInstructionExactBytesRow.holds Eeug.pinned (OpenSpec.ofChange fnMakeInstructionExactBytesSpec)

/-- ITS FALSE NEIGHBOUR: 'it returns false'. Refute it at one input. -/
def fnMakeInstructionExactBytesWrong : ChangeSpec := { name := "fnMakeInstructionExactBytes", vars := ["github.com/d5/tengo/v2/parser.OpcodeOperands"], fn := fun _ => fun
  | [d1, d2, d3, d4, g1] => { results := [.lit (.bool false)], args := [d1, d2, d3, d4], vars := [g1] }
  | _ => none }
def FnMakeInstructionExactBytesWrongFalsely : Prop := fnMakeInstructionExactBytesRow.holds Eeug.pinned (OpenSpec.ofChange fnMakeInstructionExactBytesWrong)

/-- 'zzlaws_root_b1.FnMakeInstructionReadOperandsRoundTrip': WHATEVER THE INPUT: true; the input reads as it did. -/
def fnMakeInstructionReadOperandsRoundTripSpec : ChangeSpec := { name := "fnMakeInstructionReadOperandsRoundTrip", vars := ["github.com/d5/tengo/v2/parser.OpcodeOperands"], fn := fun _ => fun
  | [d1, d2, d3, g1] => { results := [.lit (.bool true)], args := [d1, d2, d3], vars := [g1] }
  | _ => none }
def fnMakeInstructionReadOperandsRoundTripRow : OpenClaim := { program := "yoeeuwdoor", sum := "bd248aea4cfa209baa0f1f6874bf672b2077cb26b39d1da2323ee5c84be8a853", func := "github.com/d5/tengo/v2/zzlaws_root_b1.FnMakeInstructionReadOperandsRoundTrip", spec := "fnMakeInstructionReadOperandsRoundTrip", named := ["github.com/d5/tengo/v2/parser.OpcodeOperands"], apart := false, laid := [("github.com/d5/tengo/v2/parser.OpcodeOperands", laid_github_com_d5_tengo_v2_parser_OpcodeOperands)] }
def FnMakeInstructionReadOperandsRoundTripSaid : Prop := fnMakeInstructionReadOperandsRoundTripRow.holds Eeug.pinned (OpenSpec.ofChange fnMakeInstructionReadOperandsRoundTripSpec)

/-- ITS FALSE NEIGHBOUR: 'it returns false'. Refute it at one input. -/
def fnMakeInstructionReadOperandsRoundTripWrong : ChangeSpec := { name := "fnMakeInstructionReadOperandsRoundTrip", vars := ["github.com/d5/tengo/v2/parser.OpcodeOperands"], fn := fun _ => fun
  | [d1, d2, d3, g1] => { results := [.lit (.bool false)], args := [d1, d2, d3], vars := [g1] }
  | _ => none }
def FnMakeInstructionReadOperandsRoundTripWrongFalsely : Prop := fnMakeInstructionReadOperandsRoundTripRow.holds Eeug.pinned (OpenSpec.ofChange fnMakeInstructionReadOperandsRoundTripWrong)

end Rows
end Go.Proofs.YoeeuwDoor
