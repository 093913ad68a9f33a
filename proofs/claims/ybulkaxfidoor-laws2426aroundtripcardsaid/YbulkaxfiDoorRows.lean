/-
  NARROWER THAN 'FOR EVERY INPUT', by the rows' own cells (each row's printed sentence says how): LawS2426ARoundTrip: ifaces, laid.
  DERIVED. THE GIVEN ROWS OF THIS SEAT. 1 by the template 'for every input the law returns true; each argument reads behind the call as it read before'; 0 by the template 'total and deterministic' (their statements: YbulkaxfiDoorTotals.lean).
  GIVEN WITH THE SEED: the statements are not yours to turn. If you find one false, say at which input.
  Laid BY PROGRAM, IN A SANDBOX (cutbox-rows.mjs): the forced cells as the released guide's own fill.sh prints them over the translation 49d76a77101588b2… (all of the seat's roots in one cut). By AI agents, Wed Nov 11 2026. No macro, syntax, notation, axiom, sorry.
-/
import Derived.Test.YbulkaxfiDoorChecked
import GoSem.Claim
import GoSem.ClaimJoined
import GoSem.ClaimMapViews
import Derived.JoinedTies
import Derived.KernelRfl
namespace Go.Proofs.YbulkaxfiDoor
/- THE CELL 'sum', in the pinned program and in every row, IS THE sha256 OF THE DUMP (.gsa) THAT YbulkaxfiDoorProg.lean LOADS. Nothing in Lean hashes anything: it is a label: what it is worth is what the hold of that sum in a sandbox is worth. -/
noncomputable def Ybad.pinned : Pinned := { name := "ybulkaxfidoor", sum := "49d76a77101588b206c2acde4a273c0bf8f2d59f40e4a353f7e8eaa8f0c043bc", checked := Ybad.checked }
namespace Rows
def none {H : Type} : Left H := { results := [], args := [] }

/- WHAT THE LISTED PACKAGE-LEVEL VARIABLES READ AS WHEN THE CALL BEGINS. Each datum BY PROGRAM (the guide's laid-datum.mjs) off the statement by which the dump's own 'gosem.cut.vars' lays the variable. In a bare row this is a premise. The card (YbulkaxfiDoorCards.lean) ties it to the program's text. -/
def laid_example_com_traceloom_traceloom_errTraceIDSyntax {H : Type} : DataW H := .iface "*errors.errorString" (.ptr (.agg [.lit (.string [116, 114, 97, 99, 101, 108, 111, 111, 109, 58, 32, 116, 114, 97, 99, 101, 32, 105, 100, 32, 105, 115, 32, 110, 111, 116, 32, 51, 50, 32, 108, 111, 119, 101, 114, 99, 97, 115, 101, 32, 104, 101, 120, 32, 100, 105, 103, 105, 116, 115])]))
def laid_example_com_traceloom_traceloom_errTraceIDZero {H : Type} : DataW H := .iface "*errors.errorString" (.ptr (.agg [.lit (.string [116, 114, 97, 99, 101, 108, 111, 111, 109, 58, 32, 116, 114, 97, 99, 101, 32, 105, 100, 32, 105, 115, 32, 97, 108, 108, 32, 122, 101, 114, 111, 115])]))

/-- 'traceloom.LawS2426ARoundTrip': WHATEVER THE INPUT: true; the input reads as it did. -/
def lawS2426ARoundTripSpec : ChangeSpec := { name := "lawS2426ARoundTrip", vars := ["example.com/traceloom/traceloom.errTraceIDSyntax", "example.com/traceloom/traceloom.errTraceIDZero"], fn := fun _ => fun
  | [d, g1, g2] => { results := [.lit (.bool true)], args := [d], vars := [g1, g2] }
  | _ => none }
def lawS2426ARoundTripRow : OpenClaim := { program := "ybulkaxfidoor", sum := "49d76a77101588b206c2acde4a273c0bf8f2d59f40e4a353f7e8eaa8f0c043bc", func := "example.com/traceloom/traceloom.LawS2426ARoundTrip", spec := "lawS2426ARoundTrip", named := ["example.com/traceloom/traceloom.errTraceIDSyntax", "example.com/traceloom/traceloom.errTraceIDZero"], ifaces := true, apart := false, laid := [("example.com/traceloom/traceloom.errTraceIDSyntax", laid_example_com_traceloom_traceloom_errTraceIDSyntax), ("example.com/traceloom/traceloom.errTraceIDZero", laid_example_com_traceloom_traceloom_errTraceIDZero)] }
def LawS2426ARoundTripSaid : Prop := lawS2426ARoundTripRow.holds Ybad.pinned (OpenSpec.ofChange lawS2426ARoundTripSpec)

/-- ITS FALSE NEIGHBOUR: 'it returns false'. Refute it at one input. -/
def lawS2426ARoundTripWrong : ChangeSpec := { name := "lawS2426ARoundTrip", vars := ["example.com/traceloom/traceloom.errTraceIDSyntax", "example.com/traceloom/traceloom.errTraceIDZero"], fn := fun _ => fun
  | [d, g1, g2] => { results := [.lit (.bool false)], args := [d], vars := [g1, g2] }
  | _ => none }
def LawS2426ARoundTripWrongFalsely : Prop := lawS2426ARoundTripRow.holds Ybad.pinned (OpenSpec.ofChange lawS2426ARoundTripWrong)

end Rows
end Go.Proofs.YbulkaxfiDoor
