/-
  ParseTraceID at the text that String writes: the contracts put to the walk: the id is read back; of the all-zero id the zero id and what errTraceIDZero holds.
-/
import Derived.Test.YbulkaxfiDoorDec
import Derived.Test.YbulkaxfiDoorPars
namespace Go.Proofs.YbulkaxfiDoor
open Go.RowKit Go.Lib

theorem arr_one (g : Nat → Int) : (arr g).all (·.oneCell') = true := by simp [arr, Value.oneCell']

theorem arr_zero (g : Nat → Int) (hz : ∀ i, i < 16 → g i = (fun _ => (0 : Int)) i) : arr g = arr (fun _ => 0) := by
  apply Array.ext_getElem?
  intro i
  by_cases hi : i < 16
  · rw [arr_at g i hi, arr_at _ i hi, hz i hi]
  · rw [Array.getElem?_eq_none (by show 16 ≤ i; omega), Array.getElem?_eq_none (by show 16 ≤ i; omega)]

theorem parse_ok (g : Nat → Int) (s : ByteArray) (Hs : Hid (s = text g)) (hr : ∀ i, i < 16 → 0 ≤ g i ∧ g i < 256) (hnz : ¬ ∀ i, i < 16 → g i = (fun _ => (0 : Int)) i) (w : World) :
    Calls Ybad.prog 4 #[.string s] w fun e w' => e = .returned (.tuple #[.agg (arr g), .nilIface]) ∧ Below w.heap.size w w' := by
  obtain ⟨Z, hz, rfl⟩ := zero23
  exact parse_walk (arr g) _ s hz rfl rfl (arr_one g) (fun W b hb => decode16 g s Hs hr W b hb) (fun w => valid16 g false ⟨fun h => absurd h Bool.false_ne_true, fun h => absurd h hnz⟩ w) w

theorem parse_zero (g : Nat → Int) (s : ByteArray) (Hs : Hid (s = text g)) (hr : ∀ i, i < 16 → 0 ≤ g i ∧ g i < 256) (h0 : ∀ i, i < 16 → g i = (fun _ => (0 : Int)) i) (T : TypeId) (a : Addr) (w : World) (hc : w.cell? ⟨1, 0, none⟩ = some (.iface T (.pointer (some a)))) (l1 : 1 < w.heap.size) :
    Calls Ybad.prog 4 #[.string s] w fun e w' => e = .returned (.tuple #[.agg (arr (fun _ => 0)), .iface T (.pointer (some a))]) ∧ Below w.heap.size w w' := by
  obtain ⟨Z, hz, rfl⟩ := zero23
  have hd : ∀ (W : World) (b : Nat), W.heap.size = b → Calls Ybad.prog 7 #[.slice (some ⟨b, 0, none⟩) 16 16, .string s] (W.alloc (.cells #[.int .u8 0, .int .u8 0, .int .u8 0, .int .u8 0, .int .u8 0, .int .u8 0, .int .u8 0, .int .u8 0, .int .u8 0, .int .u8 0, .int .u8 0, .int .u8 0, .int .u8 0, .int .u8 0, .int .u8 0, .int .u8 0] 23)) fun e w' => e = .returned (.bool true) ∧ w' = W.alloc (.cells (arr (fun _ => 0)) 23) := by
    rw [← arr_zero g h0]
    exact fun W b hb => decode16 g s Hs hr W b hb
  exact parse_walk0 (arr (fun _ => 0)) s T a hz rfl (arr_one _) hd (fun w => valid16 (fun _ => 0) true ⟨fun _ _ _ => rfl, fun _ => rfl⟩ w) w hc l1

end Go.Proofs.YbulkaxfiDoor
