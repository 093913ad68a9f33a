/-
  DERIVED. GIVEN WITH THE SEED: THE CARDS: each row of YbulkaxbaFmtRows.lean that lists a variable, with what it lists TIED to the program's text (the seventh form; the later family's looks); each row that meets fmt, with fmt's text TOLD by the authors' own Lean function (tested against real Go, not proved from fmt's source: count such statements apart). THE CARD IS WHAT COUNTS. Prove the row's statement (the work); the ties are given (YbulkaxbaFmtTie.lean); close each card by the builder's one call (the guide's Derived/Test/ToyasCard.lean, 'card_holds'). Laid BY PROGRAM, IN A SANDBOX (cutbox-door.mjs). By AI agents, Wed Nov 11 2026. No macro, syntax, notation, axiom, sorry.
-/
import Derived.Test.YbulkaxbaFmtRows
import GoSem.ClaimSeven
namespace Go.Proofs.YbulkaxbaFmt
namespace Rows

/-- THE TOLD CARD OF 'nacha.LawS2418AString'. -/
def lawS2418AStringCard : Claim7 := { stood := { row := lawS2418AStringRow, standIns := [], harness := (true, "236f55147eec6239a9f31d52058f3821f9e389dfce6432fdd348a5795b26aadd"), looks := true }, told := true, goes := false }
def LawS2418AStringToldSaid : Prop := Claim7.holds Ybaf.pinned (.plain (OpenSpec.ofChange lawS2418AStringSpec)) lawS2418AStringCard
/-- ITS FALSE NEIGHBOUR. Refute it at one input. -/
def LawS2418AStringToldWrongFalsely : Prop := Claim7.holds Ybaf.pinned (.plain (OpenSpec.ofChange lawS2418AStringWrong)) lawS2418AStringCard

/-- THE TOLD CARD OF 'nacha.LawS2418ADigits'. -/
def lawS2418ADigitsCard : Claim7 := { stood := { row := lawS2418ADigitsRow, standIns := [], harness := (true, "236f55147eec6239a9f31d52058f3821f9e389dfce6432fdd348a5795b26aadd"), looks := true }, told := true, goes := false }
def LawS2418ADigitsToldSaid : Prop := Claim7.holds Ybaf.pinned (.plain (OpenSpec.ofChange lawS2418ADigitsSpec)) lawS2418ADigitsCard
/-- ITS FALSE NEIGHBOUR. Refute it at one input. -/
def LawS2418ADigitsToldWrongFalsely : Prop := Claim7.holds Ybaf.pinned (.plain (OpenSpec.ofChange lawS2418ADigitsWrong)) lawS2418ADigitsCard
end Rows
end Go.Proofs.YbulkaxbaFmt
