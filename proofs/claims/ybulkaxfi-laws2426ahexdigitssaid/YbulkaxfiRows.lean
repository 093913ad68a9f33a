/-
  No cell of these rows narrows 'for every input' (looked for: loops, veiled, ifaces, maps, wideKeys, modest, calm, conditions, laid).
  DERIVED. THE GIVEN ROWS OF THIS SEAT. 1 by the template 'for every input the law returns true; each argument reads behind the call as it read before'; 0 by the template 'total and deterministic' (their statements: YbulkaxfiTotals.lean).
  GIVEN WITH THE SEED: the statements are not yours to turn. If you find one false, say at which input.
  Laid BY PROGRAM, IN A SANDBOX (cutbox-rows.mjs): the forced cells as the released guide's own fill.sh prints them over the translation f1f7d132c41c0efb… (all of the seat's roots in one cut). By AI agents, Wed Nov 11 2026. No macro, syntax, notation, axiom, sorry.
-/
import Derived.Test.YbulkaxfiChecked
import GoSem.Claim
import GoSem.ClaimJoined
import GoSem.ClaimMapViews
import Derived.JoinedTies
import Derived.KernelRfl
namespace Go.Proofs.Ybulkaxfi
/- THE CELL 'sum', in the pinned program and in every row, IS THE sha256 OF THE DUMP (.gsa) THAT YbulkaxfiProg.lean LOADS. Nothing in Lean hashes anything: it is a label: what it is worth is what the hold of that sum in a sandbox is worth. -/
noncomputable def Yba.pinned : Pinned := { name := "ybulkaxfi", sum := "f1f7d132c41c0efba1ef70017fe258f3012acfffea0a51b04ce82437cfcbefaf", checked := Yba.checked }
namespace Rows
def none {H : Type} : Left H := { results := [], args := [] }

/-- 'traceloom.LawS2426AHexDigits': WHATEVER THE INPUT: true; the input reads as it did. -/
def lawS2426AHexDigitsSpec : ChangeSpec := { name := "lawS2426AHexDigits", fn := fun _ => fun
  | [d] => { results := [.lit (.bool true)], args := [d] }
  | _ => none }
def lawS2426AHexDigitsRow : OpenClaim := { program := "ybulkaxfi", sum := "f1f7d132c41c0efba1ef70017fe258f3012acfffea0a51b04ce82437cfcbefaf", func := "example.com/traceloom/traceloom.LawS2426AHexDigits", spec := "lawS2426AHexDigits", apart := false }
def LawS2426AHexDigitsSaid : Prop := lawS2426AHexDigitsRow.holds Yba.pinned (OpenSpec.ofChange lawS2426AHexDigitsSpec)

/-- ITS FALSE NEIGHBOUR: 'it returns false'. Refute it at one input. -/
def lawS2426AHexDigitsWrong : ChangeSpec := { name := "lawS2426AHexDigits", fn := fun _ => fun
  | [d] => { results := [.lit (.bool false)], args := [d] }
  | _ => none }
def LawS2426AHexDigitsWrongFalsely : Prop := lawS2426AHexDigitsRow.holds Yba.pinned (OpenSpec.ofChange lawS2426AHexDigitsWrong)

end Rows
end Go.Proofs.Ybulkaxfi
