/-
  LawS2426ARoundTrip at each id: the contracts put to the walk.
-/
import Derived.Test.YbulkaxfiDoorParse
namespace Go.Proofs.YbulkaxfiDoor
open Go.RowKit Go.Lib

theorem trip_ok (g : Nat → Int) (hr : ∀ i, i < 16 → 0 ≤ g i ∧ g i < 256) (hnz : ¬ ∀ i, i < 16 → g i = (fun _ => (0 : Int)) i) (w : World) :
    Calls Ybad.prog 3 #[.agg #[.int .u8 (g 0), .int .u8 (g 1), .int .u8 (g 2), .int .u8 (g 3), .int .u8 (g 4), .int .u8 (g 5), .int .u8 (g 6), .int .u8 (g 7), .int .u8 (g 8), .int .u8 (g 9), .int .u8 (g 10), .int .u8 (g 11), .int .u8 (g 12), .int .u8 (g 13), .int .u8 (g 14), .int .u8 (g 15)]] w fun e w' => e = .returned (.bool true) ∧ Below w.heap.size w w' :=
  walk_ok (arr g) (text g) rfl (arr_one g) (fun w => string16 g (text g) rfl w hr) (fun w => parse_ok g (text g) rfl hr hnz w)
    (fun w => valid16 g false ⟨fun h => absurd h Bool.false_ne_true, fun h => absurd h hnz⟩ w) (eql16 g g true ⟨fun _ _ _ => rfl, fun _ => rfl⟩) w

theorem trip_zero (g : Nat → Int) (hr : ∀ i, i < 16 → 0 ≤ g i ∧ g i < 256) (hz : ∀ i, i < 16 → g i = (fun _ => (0 : Int)) i) (T : TypeId) (a : Addr) (w : World) (hc : w.cell? ⟨1, 0, none⟩ = some (.iface T (.pointer (some a)))) (l : 1 < w.heap.size) :
    Calls Ybad.prog 3 #[.agg #[.int .u8 (g 0), .int .u8 (g 1), .int .u8 (g 2), .int .u8 (g 3), .int .u8 (g 4), .int .u8 (g 5), .int .u8 (g 6), .int .u8 (g 7), .int .u8 (g 8), .int .u8 (g 9), .int .u8 (g 10), .int .u8 (g 11), .int .u8 (g 12), .int .u8 (g 13), .int .u8 (g 14), .int .u8 (g 15)]] w fun e w' => e = .returned (.bool true) ∧ Below w.heap.size w w' := by
  have e := arr_zero g hz
  have hp : ∀ w : World, w.cell? ⟨1, 0, none⟩ = some (.iface T (.pointer (some a))) → 1 < w.heap.size → Calls Ybad.prog 4 #[.string (text g)] w fun e w' => e = .returned (.tuple #[.agg (arr g), .iface T (.pointer (some a))]) ∧ Below w.heap.size w w' := by
    rw [e]
    exact fun w h1 h2 => parse_zero g (text g) rfl hr hz T a w h1 h2
  exact walk_zero (arr g) (text g) T a rfl (arr_one g) (fun w => string16 g (text g) rfl w hr) hp
    (fun w => valid16 g true ⟨fun _ => hz, fun _ => rfl⟩ w) (eql16 g (fun _ => 0) true ⟨fun _ => hz, fun _ => rfl⟩) w hc l

end Go.Proofs.YbulkaxfiDoor
