/-
  No cell of these rows narrows 'for every input' (looked for: loops, veiled, ifaces, maps, wideKeys, modest, calm, conditions, laid).
  DERIVED. THE GIVEN ROWS OF THIS SEAT. 1 by the template 'for every input the law returns true; each argument reads behind the call as it read before'; 0 by the template 'total and deterministic' (their statements: YbulkaxccFmtTotals.lean).
  GIVEN WITH THE SEED: the statements are not yours to turn. If you find one false, say at which input.
  Laid BY PROGRAM, IN A SANDBOX (cutbox-rows.mjs): the forced cells as the released guide's own fill.sh prints them over the translation f7c1046ce24d3b2e… (all of the seat's roots in one cut). By AI agents, Wed Nov 11 2026. No macro, syntax, notation, axiom, sorry.
-/
import Derived.Test.YbulkaxccFmtChecked
import GoSem.Claim
import GoSem.ClaimJoined
import GoSem.ClaimMapViews
import Derived.JoinedTies
import Derived.KernelRfl
namespace Go.Proofs.YbulkaxccFmt
/- THE CELL 'sum', in the pinned program and in every row, IS THE sha256 OF THE DUMP (.gsa) THAT YbulkaxccFmtProg.lean LOADS. Nothing in Lean hashes anything: it is a label: what it is worth is what the hold of that sum in a sandbox is worth. -/
noncomputable def Ybaf.pinned : Pinned := { name := "ybulkaxccfmt", sum := "f7c1046ce24d3b2ed40d8f6cd9dd2958a214a3d868112432f7df420df6e5db94", checked := Ybaf.checked }
namespace Rows
def none {H : Type} : Left H := { results := [], args := [] }

/-- 'charter.LawS2420CTierBound': WHATEVER THE INPUT: true; the input reads as it did. -/
def lawS2420CTierBoundSpec : ChangeSpec := { name := "lawS2420CTierBound", fn := fun _ => fun
  | [d1, d2, d3, d4, d5, d6, d7, d8] => { results := [.lit (.bool true)], args := [d1, d2, d3, d4, d5, d6, d7, d8] }
  | _ => none }
def lawS2420CTierBoundRow : OpenClaim := { program := "ybulkaxccfmt", sum := "f7c1046ce24d3b2ed40d8f6cd9dd2958a214a3d868112432f7df420df6e5db94", func := "example.com/fundcharter/fundcharter/pkg/charter.LawS2420CTierBound", spec := "lawS2420CTierBound", stops := ["fmt.errorf"], inPlace := ["fmt.errorf"], unfollowed := true, recurses := true, apart := false }
/-- NO THEOREM (fmt's text is open here; it may be false): for the released tool's asking of the row's closed facts alone. THE STATEMENT IS 'LawS2420CTierBoundToldSaid' (YbulkaxccFmtCards.lean). -/
def LawS2420CTierBoundFormAsk : Prop := lawS2420CTierBoundRow.holds Ybaf.pinned (OpenSpec.ofChange lawS2420CTierBoundSpec)

/-- ITS FALSE NEIGHBOUR: 'it returns false'. Refute it at one input. -/
def lawS2420CTierBoundWrong : ChangeSpec := { name := "lawS2420CTierBound", fn := fun _ => fun
  | [d1, d2, d3, d4, d5, d6, d7, d8] => { results := [.lit (.bool false)], args := [d1, d2, d3, d4, d5, d6, d7, d8] }
  | _ => none }
def LawS2420CTierBoundWrongFormAsk : Prop := lawS2420CTierBoundRow.holds Ybaf.pinned (OpenSpec.ofChange lawS2420CTierBoundWrong)

end Rows
end Go.Proofs.YbulkaxccFmt
