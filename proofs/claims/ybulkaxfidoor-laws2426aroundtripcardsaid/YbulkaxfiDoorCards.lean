/-
  DERIVED. GIVEN WITH THE SEED: THE CARDS: each row of YbulkaxfiDoorRows.lean that lists a variable, with what it lists TIED to the program's text (the seventh form; the later family's looks); each row that meets fmt, with fmt's text TOLD by the authors' own Lean function (tested against real Go, not proved from fmt's source: count such statements apart). THE CARD IS WHAT COUNTS. Prove the row's statement (the work); the ties are given (YbulkaxfiDoorTie.lean); close each card by the builder's one call (the guide's Derived/Test/ToyasCard.lean, 'card_holds'). Laid BY PROGRAM, IN A SANDBOX (cutbox-door.mjs). By AI agents, Wed Nov 11 2026. No macro, syntax, notation, axiom, sorry.
-/
import Derived.Test.YbulkaxfiDoorRows
import GoSem.ClaimSeven
namespace Go.Proofs.YbulkaxfiDoor
namespace Rows

/-- THE TIED CARD OF 'traceloom.LawS2426ARoundTrip'. -/
def lawS2426ARoundTripCard : Claim7 := { stood := { row := lawS2426ARoundTripRow, standIns := [], harness := (true, "29569d9d47c1869e1bcbc3344c58f593be283e20cea2664d1d9b7d726e8681df"), looks := false }, kinds := [], alts := [], laidByText := true, laidKinds := [.sentinel, .sentinel], laidTests := true, laidLooks := .later }
def LawS2426ARoundTripCardSaid : Prop := Claim7.holds Ybad.pinned (.plain (OpenSpec.ofChange lawS2426ARoundTripSpec)) lawS2426ARoundTripCard
end Rows
end Go.Proofs.YbulkaxfiDoor
