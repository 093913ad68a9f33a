/-
  THE CLOSED FACTS FOR A WALK OVER fmt.errorf's STOP (a stop that calls its operands' methods) AT THIS SEAT's DUMP: after the guide's HexbadFmt.lean: function 12, the two formats of checkRouting, operands string (%q) and uint8 (%c), the error type that it makes. Each by the kernel's own evaluation.
-/
import Derived.Test.YbulkaxbaFmtProg
import Derived.Stop.CallBack
import Derived.Stop.IfaceNil
import GoSem.ClaimData
namespace Go.Proofs.YbulkaxbaFmt
open Go.Extern.Stop Go.Stop Go.Extern

theorem fcall12 (args : Array Value) (w : World) : (callFunc 12 args).run Ybaf.prog w = (FmtCalls.errorf #[9, 39] #[23] args).run Ybaf.prog w :=
  run_callFunc_next Ybaf.func12 (by kernel_rfl) (by kernel_rfl) (by kernel_rfl) args w
theorem fguard (name : String) (w : World) : (FmtStop.guard name).run Ybaf.prog w = .ok () w := by kernel_rfl
theorem nextTurns : Extern.next FmtCalls.turnsRow = some (FmtCalls.begun #[] #[]) := by kernel_rfl

-- "%q is not 9 digits", 1 operand
theorem fmtA : FmtStop.printed? ⟨#[37, 113, 32, 105, 115, 32, 110, 111, 116, 32, 57, 32, 100, 105, 103, 105, 116, 115]⟩ 1 = some [(0, 113, false)] := by kernel_rfl
theorem fmtAr (w : World) : (FmtDoors.printed ⟨#[37, 113, 32, 105, 115, 32, 110, 111, 116, 32, 57, 32, 100, 105, 103, 105, 116, 115]⟩ 1).run Ybaf.prog w = .ok [(0, 113, false)] w := by kernel_rfl
-- "%q ends in %c, not in %c, the check digit of the eight digits before it", 3 operands
theorem fmtB : FmtStop.printed? ⟨#[37, 113, 32, 101, 110, 100, 115, 32, 105, 110, 32, 37, 99, 44, 32, 110, 111, 116, 32, 105, 110, 32, 37, 99, 44, 32, 116, 104, 101, 32, 99, 104, 101, 99, 107, 32, 100, 105, 103, 105, 116, 32, 111, 102, 32, 116, 104, 101, 32, 101, 105, 103, 104, 116, 32, 100, 105, 103, 105, 116, 115, 32, 98, 101, 102, 111, 114, 101, 32, 105, 116]⟩ 3 = some [(0, 113, false), (1, 99, false), (2, 99, false)] := by kernel_rfl
theorem fmtBr (w : World) : (FmtDoors.printed ⟨#[37, 113, 32, 101, 110, 100, 115, 32, 105, 110, 32, 37, 99, 44, 32, 110, 111, 116, 32, 105, 110, 32, 37, 99, 44, 32, 116, 104, 101, 32, 99, 104, 101, 99, 107, 32, 100, 105, 103, 105, 116, 32, 111, 102, 32, 116, 104, 101, 32, 101, 105, 103, 104, 116, 32, 100, 105, 103, 105, 116, 115, 32, 98, 101, 102, 111, 114, 101, 32, 105, 116]⟩ 3).run Ybaf.prog w = .ok [(0, 113, false), (1, 99, false), (2, 99, false)] w := by kernel_rfl

-- type 9: string
def shape9 : List UInt8 := [12, 6, 0, 0, 0, 0, 0, 0, 0, 115, 116, 114, 105, 110, 103]
theorem act9_113w (name : String) (x : Value) (w : World) : (FmtCalls.act name true 113 false (.iface 9 x)).run Ybaf.prog w = .ok (.closed true) w := by kernel_rfl
theorem op9_113w (name : String) (x : ByteArray) (w : World) : (FmtStop.operand name true 113 false (.iface 9 (.string x))).run Ybaf.prog w = .ok (shape9, FmtStop.pack x.data.toList) w := by kernel_rfl
-- type 5: uint8
def shape5 : List UInt8 := [6, 5, 0, 0, 0, 0, 0, 0, 0, 117, 105, 110, 116, 56]
theorem act5_99w (name : String) (x : Value) (w : World) : (FmtCalls.act name true 99 false (.iface 5 x)).run Ybaf.prog w = .ok (.closed true) w := by kernel_rfl
theorem op5_99w (name : String) (x : Int) (w : World) : (FmtStop.operand name true 99 false (.iface 5 (.int .u8 x))).run Ybaf.prog w = .ok (shape5, Go.Extern.Stop.digits 8 (x % 2 ^ 64).toNat) w := by kernel_rfl

-- the error type that fmt.errorf makes
theorem ptr43 (w : World) : (FmtStop.ptrTo "errors.errorString").run Ybaf.prog w = .ok 43 w := by kernel_rfl
theorem elem43 (w : World) : (elemOf 43).run Ybaf.prog w = .ok 45 w := by kernel_rfl
theorem isError43 (w : World) : (FmtDoors.textMethod 43 "Error").run Ybaf.prog w = .ok true w := by kernel_rfl

end Go.Proofs.YbulkaxbaFmt
