/-
  bytes.Equal, errors.New and the stand-in parse (the closure LawS2420CTierBound$1) WALKED.
-/
import Derived.Test.YbulkaxccFmtFacts
import Derived.WalkKit
import Derived.WalkSpells
import Derived.Deep.QuietTactic
import Derived.Deep.RegionWith
import Derived.BigQuiet
namespace Go.Proofs.YbulkaxccFmt
open Go.RowKit Go.Extern.Stop Go.Stop Go.Extern
attribute [local go_sem] fcall9 fguard fmtA fmtAr fmtB fmtBr fmtC fmtCr op9_115w ptr33 elem33 isError33

set_option maxHeartbeats 400000 in
/-- bytes.Equal of a slice with itself. -/
theorem equal5 (v : Value) (s : ByteArray) (w : World) (hcv : (convert 22 9 v).run Ybaf.prog w = .ok (.string s) w) :
    Calls Ybaf.prog 5 #[v, v] w fun e w' => e = .returned (.bool true) ∧ w' = w := by
  go_enter Ybaf.func5, Ybaf.ntmps5
  go_wp2
  go_ret
  exact ⟨rfl, rfl⟩

set_option maxHeartbeats 400000 in
/-- The stand-in parse, which does not fail. -/
theorem parse_ok (a : Option Addr) (n cap : Nat) (s : ByteArray) (b1 b2 b3 b4 b5 : Nat) (val : Int) (w : World) (hcv : ∀ u, (convert 22 9 (.slice a n cap)).run Ybaf.prog (w.setCell ⟨b1, 0, none⟩ u) = .ok (.string s) (w.setCell ⟨b1, 0, none⟩ u))
    (c1 : w.cell? ⟨b1, 0, none⟩ = some (.int .i64 0)) (f1 : w.frozen? ⟨b1, 0, none⟩ = false) (c2 : w.cell? ⟨b2, 0, none⟩ = some (.slice a n cap)) (c4 : w.cell? ⟨b4, 0, none⟩ = some (.bool false)) (c5 : w.cell? ⟨b5, 0, none⟩ = some (.int .i64 val))
    (n2 : b2 ≠ b1) (n4 : b4 ≠ b1) (n5 : b5 ≠ b1) :
    Calls Ybaf.prog 4 #[.slice a n cap, .pointer (some ⟨b1, 0, none⟩), .pointer (some ⟨b2, 0, none⟩), .pointer (some ⟨b3, 0, none⟩), .pointer (some ⟨b4, 0, none⟩), .pointer (some ⟨b5, 0, none⟩)] w fun e w' =>
      e = .returned (.tuple #[.int .i64 val, .nilIface]) ∧ w' = w.setCell ⟨b1, 0, none⟩ (.int .i64 1) := by
  go_enter Ybaf.func4, Ybaf.ntmps4
  go_wp2_with (first | (go_at_call 5; refine (equal5 _ s _ (hcv _)).mono ?_; rintro e w' ⟨rfl, rfl⟩))
  go_ret2
  exact ⟨rfl, rfl⟩

set_option maxHeartbeats 400000 in
theorem new6 (s : ByteArray) (w : World) : Calls Ybaf.prog 6 #[.string s] w fun e w' => e = .returned (.iface 33 (.pointer (some ⟨w.heap.size, 0, none⟩))) ∧ w' = w.alloc (.cells #[.string s] 35) := by
  go_enter Ybaf.func6, Ybaf.ntmps6
  go_wp2
  go_ret
  exact ⟨rfl, rfl⟩

set_option maxHeartbeats 800000 in
/-- The stand-in parse, which fails. -/
theorem parse_bad (a : Option Addr) (n cap : Nat) (s : ByteArray) (b1 b2 b3 b4 b5 : Nat) (val : Int) (w : World) (hcv : ∀ u, (convert 22 9 (.slice a n cap)).run Ybaf.prog (w.setCell ⟨b1, 0, none⟩ u) = .ok (.string s) (w.setCell ⟨b1, 0, none⟩ u))
    (c1 : w.cell? ⟨b1, 0, none⟩ = some (.int .i64 0)) (f1 : w.frozen? ⟨b1, 0, none⟩ = false) (c2 : w.cell? ⟨b2, 0, none⟩ = some (.slice a n cap)) (c4 : w.cell? ⟨b4, 0, none⟩ = some (.bool true)) (c5 : w.cell? ⟨b5, 0, none⟩ = some (.int .i64 val))
    (n2 : b2 ≠ b1) (n4 : b4 ≠ b1) (n5 : b5 ≠ b1) (l5 : b5 < w.heap.size) :
    Calls Ybaf.prog 4 #[.slice a n cap, .pointer (some ⟨b1, 0, none⟩), .pointer (some ⟨b2, 0, none⟩), .pointer (some ⟨b3, 0, none⟩), .pointer (some ⟨b4, 0, none⟩), .pointer (some ⟨b5, 0, none⟩)] w fun e w' =>
      ∃ q, e = .returned (.tuple #[.int .i64 val, .iface 33 (.pointer (some ⟨w.heap.size, 0, none⟩))]) ∧ w' = ((w.setCell ⟨b1, 0, none⟩ (.int .i64 1)).alloc (.cells #[.string ⟨#[98, 97, 100]⟩] 35)).drewN q := by
  go_enter Ybaf.func4, Ybaf.ntmps4
  go_wp2_with (first | (go_at_call 5; refine (equal5 _ s _ (hcv _)).mono ?_; rintro e w' ⟨rfl, rfl⟩))
  go_region_with (go_at_call 6; refine (new6 _ _).mono ?_; rintro e w' ⟨rfl, rfl⟩)
  all_goals
    go_wp2
    go_ret2
    exact ⟨1, rfl, rfl⟩

end Go.Proofs.YbulkaxccFmt
