/-
  THE CLOSED FACTS FOR A WALK OVER fmt.errorf's STOP (a plain stop) AT THIS SEAT's DUMP: after the guide's CheckFmt.lean: function 9, the three formats of tierBound, operands string (%s) and an error of errors.New's make (%v). Each by the kernel's own evaluation.
-/
import Derived.Test.YbulkaxccFmtProg
import Derived.Stop.CallBack
import Derived.Stop.IfaceNil
import GoSem.ClaimData
namespace Go.Proofs.YbulkaxccFmt
open Go.Extern.Stop Go.Stop Go.Extern

theorem fcall9 (args : Array Value) (w : World) : (callFunc 9 args).run Ybaf.prog w = ((FmtStop.errorf #[9, 38] #[26] args).run Ybaf.prog w).andThen fun v w' => .ok (.value v) w' :=
  run_callFunc_extern Ybaf.func9 (by kernel_rfl) (by kernel_rfl) (by kernel_rfl) (by kernel_rfl) args w
theorem fguard (name : String) (w : World) : (FmtStop.guard name).run Ybaf.prog w = .ok () w := by kernel_rfl

-- "%s on the last tier: the last tier holds all that the tiers before it do not", 1 operand
theorem fmtA : FmtStop.printed? ⟨#[37, 115, 32, 111, 110, 32, 116, 104, 101, 32, 108, 97, 115, 116, 32, 116, 105, 101, 114, 58, 32, 116, 104, 101, 32, 108, 97, 115, 116, 32, 116, 105, 101, 114, 32, 104, 111, 108, 100, 115, 32, 97, 108, 108, 32, 116, 104, 97, 116, 32, 116, 104, 101, 32, 116, 105, 101, 114, 115, 32, 98, 101, 102, 111, 114, 101, 32, 105, 116, 32, 100, 111, 32, 110, 111, 116]⟩ 1 = some [(0, 115, false)] := by kernel_rfl
theorem fmtAr (w : World) : (FmtDoors.printed ⟨#[37, 115, 32, 111, 110, 32, 116, 104, 101, 32, 108, 97, 115, 116, 32, 116, 105, 101, 114, 58, 32, 116, 104, 101, 32, 108, 97, 115, 116, 32, 116, 105, 101, 114, 32, 104, 111, 108, 100, 115, 32, 97, 108, 108, 32, 116, 104, 97, 116, 32, 116, 104, 101, 32, 116, 105, 101, 114, 115, 32, 98, 101, 102, 111, 114, 101, 32, 105, 116, 32, 100, 111, 32, 110, 111, 116]⟩ 1).run Ybaf.prog w = .ok [(0, 115, false)] w := by kernel_rfl
-- "no %s: every tier but the last holds it", 1 operand
theorem fmtB : FmtStop.printed? ⟨#[110, 111, 32, 37, 115, 58, 32, 101, 118, 101, 114, 121, 32, 116, 105, 101, 114, 32, 98, 117, 116, 32, 116, 104, 101, 32, 108, 97, 115, 116, 32, 104, 111, 108, 100, 115, 32, 105, 116]⟩ 1 = some [(0, 115, false)] := by kernel_rfl
theorem fmtBr (w : World) : (FmtDoors.printed ⟨#[110, 111, 32, 37, 115, 58, 32, 101, 118, 101, 114, 121, 32, 116, 105, 101, 114, 32, 98, 117, 116, 32, 116, 104, 101, 32, 108, 97, 115, 116, 32, 104, 111, 108, 100, 115, 32, 105, 116]⟩ 1).run Ybaf.prog w = .ok [(0, 115, false)] w := by kernel_rfl
-- "%s: %v", 2 operands
theorem fmtC : FmtStop.printed? ⟨#[37, 115, 58, 32, 37, 118]⟩ 2 = some [(0, 115, false), (1, 118, false)] := by kernel_rfl
theorem fmtCr (w : World) : (FmtDoors.printed ⟨#[37, 115, 58, 32, 37, 118]⟩ 2).run Ybaf.prog w = .ok [(0, 115, false), (1, 118, false)] w := by kernel_rfl

-- type 9: string
def shape9 : List UInt8 := [12, 6, 0, 0, 0, 0, 0, 0, 0, 115, 116, 114, 105, 110, 103]
theorem op9_115w (name : String) (x : ByteArray) (w : World) : (FmtStop.operand name true 115 false (.iface 9 (.string x))).run Ybaf.prog w = .ok (shape9, FmtStop.pack x.data.toList) w := by kernel_rfl

-- the error type that fmt.errorf makes
theorem ptr33 (w : World) : (FmtStop.ptrTo "errors.errorString").run Ybaf.prog w = .ok 33 w := by kernel_rfl
theorem elem33 (w : World) : (elemOf 33).run Ybaf.prog w = .ok 35 w := by kernel_rfl
theorem isError33 (w : World) : (FmtDoors.textMethod 33 "Error").run Ybaf.prog w = .ok true w := by kernel_rfl
-- an error of that make AS AN OPERAND: it reads as its type's name and its text, out of memory
theorem opPlain33 : ∃ sh : List UInt8, ∀ (name : String) (a : Addr) (s : ByteArray) (w : World), w.cell? a = some (.string s) →
    (FmtStop.operand name true 118 false (.iface 33 (.pointer (some a)))).run Ybaf.prog w = .ok (sh, s.data.toList) w := by
  refine ⟨14 :: FmtStop.pack Ybaf.t33.str.toUTF8.data.toList, fun name a s w hc => ?_⟩
  have h1 : (typeStr 33).run Ybaf.prog w = .ok Ybaf.t33.str w := by kernel_rfl
  have d2 : Ybaf.t33.desc = .pointer 35 := rfl
  have d3 : Ybaf.t35.desc = .named "errors.errorString" 34 := rfl
  simp [FmtStop.operand, h1, d2, d3, run_load, hc]

end Go.Proofs.YbulkaxccFmt
