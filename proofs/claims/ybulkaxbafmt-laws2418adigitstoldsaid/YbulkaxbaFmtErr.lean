/-
  FieldErrorf (function 9) WALKED, at the two formats that checkRouting hands it: it returns a new *FieldError whose Field is the key and whose Err is a new error. FOR EVERY F (fmt text): the text t is left open.
-/
import Derived.Test.YbulkaxbaFmtFacts
import Derived.WalkKit
import Derived.WalkSpells
namespace Go.Proofs.YbulkaxbaFmt
open Go.RowKit Go.Extern.Stop Go.Stop Go.Extern
attribute [local go_sem] fcall12 fguard fmtA fmtAr fmtB fmtBr act9_113w op9_113w act5_99w op5_99w ptr43 elem43 isError43

set_option maxRecDepth 100000 in
set_option maxHeartbeats 400000 in
theorem fe_A (F : Interp) (key s : ByteArray) (w : World) (hF : F.answers w.tape) (b : Nat) (hc : w.cell? ⟨b, 0, none⟩ = some (.iface 9 (.string s))) :
    Calls Ybaf.prog 9 #[.string key, .string ⟨#[37, 113, 32, 105, 115, 32, 110, 111, 116, 32, 57, 32, 100, 105, 103, 105, 116, 115]⟩, .slice (some ⟨b, 0, none⟩) 1 1] w fun e w' => ∃ t, e = .returned (.iface 34 (.pointer (some ⟨w.heap.size + 1, 0, none⟩))) ∧
      w' = ((w.alloc (.cells #[.string t] 45)).alloc (.cells #[.string key, .iface 43 (.pointer (some ⟨w.heap.size, 0, none⟩))] 37)).drew := by
  have hF' := answers_open hF
  go_enter Ybaf.func9, Ybaf.ntmps9
  go_wp2
  apply rows_value nextTurns
  case hr =>
    go_simp
    exact ⟨rfl, rfl⟩
  case h =>
    go_wp2
    go_ret
    exact ⟨_, rfl, rfl⟩

set_option maxRecDepth 100000 in
set_option maxHeartbeats 400000 in
theorem fe_B (F : Interp) (key s : ByteArray) (x y : Int) (w : World) (hF : F.answers w.tape) (b : Nat) (hc : w.cell? ⟨b, 0, none⟩ = some (.iface 9 (.string s))) (hc1 : w.cell? ⟨b, 1, none⟩ = some (.iface 5 (.int .u8 x))) (hc2 : w.cell? ⟨b, 2, none⟩ = some (.iface 5 (.int .u8 y))) :
    Calls Ybaf.prog 9 #[.string key, .string ⟨#[37, 113, 32, 101, 110, 100, 115, 32, 105, 110, 32, 37, 99, 44, 32, 110, 111, 116, 32, 105, 110, 32, 37, 99, 44, 32, 116, 104, 101, 32, 99, 104, 101, 99, 107, 32, 100, 105, 103, 105, 116, 32, 111, 102, 32, 116, 104, 101, 32, 101, 105, 103, 104, 116, 32, 100, 105, 103, 105, 116, 115, 32, 98, 101, 102, 111, 114, 101, 32, 105, 116]⟩, .slice (some ⟨b, 0, none⟩) 3 3] w fun e w' => ∃ t, e = .returned (.iface 34 (.pointer (some ⟨w.heap.size + 1, 0, none⟩))) ∧
      w' = ((w.alloc (.cells #[.string t] 45)).alloc (.cells #[.string key, .iface 43 (.pointer (some ⟨w.heap.size, 0, none⟩))] 37)).drew := by
  have hF' := answers_open hF
  go_enter Ybaf.func9, Ybaf.ntmps9
  go_wp2
  apply rows_value nextTurns
  case hr =>
    go_simp
    exact ⟨rfl, rfl⟩
  case h =>
    go_wp2
    go_ret
    exact ⟨_, rfl, rfl⟩
end Go.Proofs.YbulkaxbaFmt
