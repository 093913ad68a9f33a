/-
  No cell of these rows narrows 'for every input' (looked for: loops, veiled, ifaces, maps, wideKeys, modest, calm, conditions, laid).
  DERIVED. THE GIVEN ROWS OF THIS SEAT. 1 by the template 'for every input the law returns true; each argument reads behind the call as it read before'; 0 by the template 'total and deterministic' (their statements: YbulkaxbaTotals.lean).
  GIVEN WITH THE SEED: the statements are not yours to turn. If you find one false, say at which input.
  Laid BY PROGRAM, IN A SANDBOX (cutbox-rows.mjs): the forced cells as the released guide's own fill.sh prints them over the translation c137f2d778e318c9… (all of the seat's roots in one cut). By AI agents, Wed Nov 11 2026. No macro, syntax, notation, axiom, sorry.
-/
import Derived.Test.YbulkaxbaChecked
import GoSem.Claim
import GoSem.ClaimJoined
import GoSem.ClaimMapViews
import Derived.JoinedTies
import Derived.KernelRfl
namespace Go.Proofs.Ybulkaxba
/- THE CELL 'sum', in the pinned program and in every row, IS THE sha256 OF THE DUMP (.gsa) THAT YbulkaxbaProg.lean LOADS. Nothing in Lean hashes anything: it is a label: what it is worth is what the hold of that sum in a sandbox is worth. -/
noncomputable def Yba.pinned : Pinned := { name := "ybulkaxba", sum := "c137f2d778e318c9ff3655e3876d37e07064d901e6a1d266235e11981fd0e70a", checked := Yba.checked }
namespace Rows
def none {H : Type} : Left H := { results := [], args := [] }

/-- 'nacha.LawS2418BSets': WHATEVER THE INPUT: true; the input reads as it did. -/
def lawS2418BSetsSpec : ChangeSpec := { name := "lawS2418BSets", fn := fun _ => fun
  | [d1, d2] => { results := [.lit (.bool true)], args := [d1, d2] }
  | _ => none }
def lawS2418BSetsRow : OpenClaim := { program := "ybulkaxba", sum := "c137f2d778e318c9ff3655e3876d37e07064d901e6a1d266235e11981fd0e70a", func := "example.com/ledgerwire/ledgerwire/nacha.LawS2418BSets", spec := "lawS2418BSets", plainKeys := false, apart := false }
def LawS2418BSetsSaid : Prop := lawS2418BSetsRow.holds Yba.pinned (OpenSpec.ofChange lawS2418BSetsSpec)

/-- ITS FALSE NEIGHBOUR: 'it returns false'. Refute it at one input. -/
def lawS2418BSetsWrong : ChangeSpec := { name := "lawS2418BSets", fn := fun _ => fun
  | [d1, d2] => { results := [.lit (.bool false)], args := [d1, d2] }
  | _ => none }
def LawS2418BSetsWrongFalsely : Prop := lawS2418BSetsRow.holds Yba.pinned (OpenSpec.ofChange lawS2418BSetsWrong)

end Rows
end Go.Proofs.Ybulkaxba
