/-
  No cell of these rows narrows 'for every input' (looked for: loops, veiled, ifaces, maps, wideKeys, modest, calm, conditions, laid).
  DERIVED. THE GIVEN ROWS OF THIS SEAT. 2 by the template 'for every input the law returns true; each argument reads behind the call as it read before'; 0 by the template 'total and deterministic' (their statements: YbulkaxccTotals.lean).
  GIVEN WITH THE SEED: the statements are not yours to turn. If you find one false, say at which input.
  Laid BY PROGRAM, IN A SANDBOX (cutbox-rows.mjs): the forced cells as the released guide's own fill.sh prints them over the translation bab70a3f0b6cc347… (all of the seat's roots in one cut). By AI agents, Wed Nov 11 2026. No macro, syntax, notation, axiom, sorry.
-/
import Derived.Test.YbulkaxccChecked
import GoSem.Claim
import GoSem.ClaimJoined
import GoSem.ClaimMapViews
import Derived.JoinedTies
import Derived.KernelRfl
namespace Go.Proofs.Ybulkaxcc
/- THE CELL 'sum', in the pinned program and in every row, IS THE sha256 OF THE DUMP (.gsa) THAT YbulkaxccProg.lean LOADS. Nothing in Lean hashes anything: it is a label: what it is worth is what the hold of that sum in a sandbox is worth. -/
noncomputable def Yba.pinned : Pinned := { name := "ybulkaxcc", sum := "bab70a3f0b6cc347b8db970d1733df5a2052485491aebe6ded67419c41ba908f", checked := Yba.checked }
namespace Rows
def none {H : Type} : Left H := { results := [], args := [] }

/-- 'ledger.LawS2420AFirstOccurrence': WHATEVER THE INPUT: true; the input reads as it did. -/
def lawS2420AFirstOccurrenceSpec : ChangeSpec := { name := "lawS2420AFirstOccurrence", fn := fun _ => fun
  | [d] => { results := [.lit (.bool true)], args := [d] }
  | _ => none }
def lawS2420AFirstOccurrenceRow : OpenClaim := { program := "ybulkaxcc", sum := "bab70a3f0b6cc347b8db970d1733df5a2052485491aebe6ded67419c41ba908f", func := "example.com/fundcharter/fundcharter/pkg/ledger.LawS2420AFirstOccurrence", spec := "lawS2420AFirstOccurrence", apart := false }
def LawS2420AFirstOccurrenceSaid : Prop := lawS2420AFirstOccurrenceRow.holds Yba.pinned (OpenSpec.ofChange lawS2420AFirstOccurrenceSpec)

/-- ITS FALSE NEIGHBOUR: 'it returns false'. Refute it at one input. -/
def lawS2420AFirstOccurrenceWrong : ChangeSpec := { name := "lawS2420AFirstOccurrence", fn := fun _ => fun
  | [d] => { results := [.lit (.bool false)], args := [d] }
  | _ => none }
def LawS2420AFirstOccurrenceWrongFalsely : Prop := lawS2420AFirstOccurrenceRow.holds Yba.pinned (OpenSpec.ofChange lawS2420AFirstOccurrenceWrong)

/-- 'ledger.LawS2420AIdempotent': WHATEVER THE INPUT: true; the input reads as it did. -/
def lawS2420AIdempotentSpec : ChangeSpec := { name := "lawS2420AIdempotent", fn := fun _ => fun
  | [d] => { results := [.lit (.bool true)], args := [d] }
  | _ => none }
def lawS2420AIdempotentRow : OpenClaim := { program := "ybulkaxcc", sum := "bab70a3f0b6cc347b8db970d1733df5a2052485491aebe6ded67419c41ba908f", func := "example.com/fundcharter/fundcharter/pkg/ledger.LawS2420AIdempotent", spec := "lawS2420AIdempotent", apart := false }
def LawS2420AIdempotentSaid : Prop := lawS2420AIdempotentRow.holds Yba.pinned (OpenSpec.ofChange lawS2420AIdempotentSpec)

/-- ITS FALSE NEIGHBOUR: 'it returns false'. Refute it at one input. -/
def lawS2420AIdempotentWrong : ChangeSpec := { name := "lawS2420AIdempotent", fn := fun _ => fun
  | [d] => { results := [.lit (.bool false)], args := [d] }
  | _ => none }
def LawS2420AIdempotentWrongFalsely : Prop := lawS2420AIdempotentRow.holds Yba.pinned (OpenSpec.ofChange lawS2420AIdempotentWrong)

end Rows
end Go.Proofs.Ybulkaxcc
