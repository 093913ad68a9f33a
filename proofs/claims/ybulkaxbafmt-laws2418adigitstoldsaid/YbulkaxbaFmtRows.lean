/-
  No cell of these rows narrows 'for every input' (looked for: loops, veiled, ifaces, maps, wideKeys, modest, calm, conditions, laid).
  DERIVED. THE GIVEN ROWS OF THIS SEAT. 2 by the template 'for every input the law returns true; each argument reads behind the call as it read before'; 0 by the template 'total and deterministic' (their statements: YbulkaxbaFmtTotals.lean).
  GIVEN WITH THE SEED: the statements are not yours to turn. If you find one false, say at which input.
  Laid BY PROGRAM, IN A SANDBOX (cutbox-rows.mjs): the forced cells as the released guide's own fill.sh prints them over the translation 670805935be2faea… (all of the seat's roots in one cut). By AI agents, Wed Nov 11 2026. No macro, syntax, notation, axiom, sorry.
-/
import Derived.Test.YbulkaxbaFmtChecked
import GoSem.Claim
import GoSem.ClaimJoined
import GoSem.ClaimMapViews
import Derived.JoinedTies
import Derived.KernelRfl
namespace Go.Proofs.YbulkaxbaFmt
/- THE CELL 'sum', in the pinned program and in every row, IS THE sha256 OF THE DUMP (.gsa) THAT YbulkaxbaFmtProg.lean LOADS. Nothing in Lean hashes anything: it is a label: what it is worth is what the hold of that sum in a sandbox is worth. -/
noncomputable def Ybaf.pinned : Pinned := { name := "ybulkaxbafmt", sum := "670805935be2faeada385407c55a47894abb17ac641093b51924416b3128e1d9", checked := Ybaf.checked }
namespace Rows
def none {H : Type} : Left H := { results := [], args := [] }

/-- 'nacha.LawS2418AString': WHATEVER THE INPUT: true; the input reads as it did. -/
def lawS2418AStringSpec : ChangeSpec := { name := "lawS2418AString", fn := fun _ => fun
  | [d1, d2] => { results := [.lit (.bool true)], args := [d1, d2] }
  | _ => none }
def lawS2418AStringRow : OpenClaim := { program := "ybulkaxbafmt", sum := "670805935be2faeada385407c55a47894abb17ac641093b51924416b3128e1d9", func := "example.com/ledgerwire/ledgerwire/nacha.LawS2418AString", spec := "lawS2418AString", stops := ["fmt.errorf, its operands' methods called"], inPlace := ["fmt.errorf"], unfollowed := true, recurses := true, apart := false }
/-- NO THEOREM (fmt's text is open here; it may be false): for the released tool's asking of the row's closed facts alone. THE STATEMENT IS 'LawS2418AStringToldSaid' (YbulkaxbaFmtCards.lean). -/
def LawS2418AStringFormAsk : Prop := lawS2418AStringRow.holds Ybaf.pinned (OpenSpec.ofChange lawS2418AStringSpec)

/-- ITS FALSE NEIGHBOUR: 'it returns false'. Refute it at one input. -/
def lawS2418AStringWrong : ChangeSpec := { name := "lawS2418AString", fn := fun _ => fun
  | [d1, d2] => { results := [.lit (.bool false)], args := [d1, d2] }
  | _ => none }
def LawS2418AStringWrongFormAsk : Prop := lawS2418AStringRow.holds Ybaf.pinned (OpenSpec.ofChange lawS2418AStringWrong)

/-- 'nacha.LawS2418ADigits': WHATEVER THE INPUT: true; the input reads as it did. -/
def lawS2418ADigitsSpec : ChangeSpec := { name := "lawS2418ADigits", fn := fun _ => fun
  | [d1, d2, d3, d4] => { results := [.lit (.bool true)], args := [d1, d2, d3, d4] }
  | _ => none }
def lawS2418ADigitsRow : OpenClaim := { program := "ybulkaxbafmt", sum := "670805935be2faeada385407c55a47894abb17ac641093b51924416b3128e1d9", func := "example.com/ledgerwire/ledgerwire/nacha.LawS2418ADigits", spec := "lawS2418ADigits", stops := ["fmt.errorf, its operands' methods called"], inPlace := ["fmt.errorf"], unfollowed := true, recurses := true, apart := false }
/-- NO THEOREM (fmt's text is open here; it may be false): for the released tool's asking of the row's closed facts alone. THE STATEMENT IS 'LawS2418ADigitsToldSaid' (YbulkaxbaFmtCards.lean). -/
def LawS2418ADigitsFormAsk : Prop := lawS2418ADigitsRow.holds Ybaf.pinned (OpenSpec.ofChange lawS2418ADigitsSpec)

/-- ITS FALSE NEIGHBOUR: 'it returns false'. Refute it at one input. -/
def lawS2418ADigitsWrong : ChangeSpec := { name := "lawS2418ADigits", fn := fun _ => fun
  | [d1, d2, d3, d4] => { results := [.lit (.bool false)], args := [d1, d2, d3, d4] }
  | _ => none }
def LawS2418ADigitsWrongFormAsk : Prop := lawS2418ADigitsRow.holds Ybaf.pinned (OpenSpec.ofChange lawS2418ADigitsWrong)

end Rows
end Go.Proofs.YbulkaxbaFmt
