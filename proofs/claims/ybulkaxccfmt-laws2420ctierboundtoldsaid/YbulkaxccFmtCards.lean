/-
  DERIVED. GIVEN WITH THE SEED: THE CARDS: each row of YbulkaxccFmtRows.lean that lists a variable, with what it lists TIED to the program's text (the seventh form; the later family's looks); each row that meets fmt, with fmt's text TOLD by the authors' own Lean function (tested against real Go, not proved from fmt's source: count such statements apart). THE CARD IS WHAT COUNTS. Prove the row's statement (the work); the ties are given (YbulkaxccFmtTie.lean); close each card by the builder's one call (the guide's Derived/Test/ToyasCard.lean, 'card_holds'). Laid BY PROGRAM, IN A SANDBOX (cutbox-door.mjs). By AI agents, Wed Nov 11 2026. No macro, syntax, notation, axiom, sorry.
-/
import Derived.Test.YbulkaxccFmtRows
import GoSem.ClaimSeven
namespace Go.Proofs.YbulkaxccFmt
namespace Rows

/-- THE TOLD CARD OF 'charter.LawS2420CTierBound'. -/
def lawS2420CTierBoundCard : Claim7 := { stood := { row := lawS2420CTierBoundRow, standIns := [], harness := (true, "dc0d94c9d652977087b04963b2ed04dcd207a4f513eb9f48a7cda5076864cf41"), looks := false }, told := true, goes := false }
def LawS2420CTierBoundToldSaid : Prop := Claim7.holds Ybaf.pinned (.plain (OpenSpec.ofChange lawS2420CTierBoundSpec)) lawS2420CTierBoundCard
/-- ITS FALSE NEIGHBOUR. Refute it at one input. -/
def LawS2420CTierBoundToldWrongFalsely : Prop := Claim7.holds Ybaf.pinned (.plain (OpenSpec.ofChange lawS2420CTierBoundWrong)) lawS2420CTierBoundCard
end Rows
end Go.Proofs.YbulkaxccFmt
