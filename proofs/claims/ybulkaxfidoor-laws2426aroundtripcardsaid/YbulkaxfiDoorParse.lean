/-
  ParseTraceID at the text that String writes, WALKED: the id is read back; of the all-zero id the zero id and what errTraceIDZero holds.
-/
import Derived.Test.YbulkaxfiDoorDec
import Derived.RegionTactic
namespace Go.Proofs.YbulkaxfiDoor
open Go.RowKit Go.Lib

set_option maxHeartbeats 1000000 in
set_option maxRecDepth 100000 in
theorem parse_ok (g : Nat → Int) (s : ByteArray) (Hs : Hid (s = text g)) (hr : ∀ i, i < 16 → 0 ≤ g i ∧ g i < 256) (hnz : ¬ ∀ i, i < 16 → g i = (fun _ => (0 : Int)) i) (w : World) :
    Calls Ybad.prog 4 #[.string s] w fun e w' => e = .returned (.tuple #[.agg #[.int .u8 (g 0), .int .u8 (g 1), .int .u8 (g 2), .int .u8 (g 3), .int .u8 (g 4), .int .u8 (g 5), .int .u8 (g 6), .int .u8 (g 7), .int .u8 (g 8), .int .u8 (g 9), .int .u8 (g 10), .int .u8 (g 11), .int .u8 (g 12), .int .u8 (g 13), .int .u8 (g 14), .int .u8 (g 15)], .nilIface]) ∧ Below w.heap.size w w' := by
  have HR : Hid (∀ i, i < 16 → 0 ≤ g i ∧ g i < 256) := hr
  have HB : Hid (false = true ↔ ∀ i, i < 16 → g i = (fun _ => (0 : Int)) i) := ⟨fun h => absurd h Bool.false_ne_true, fun h => absurd h hnz⟩
  clear hr hnz
  go_enter Ybad.func4, Ybad.ntmps4
  go_wp2_with fail
  refine (decode16 g s Hs HR.out _ _ (by simp)).mono ?_
  rintro e w1 ⟨rfl, rfl⟩
  go_wp2_with fail
  refine (valid16 g false HB.out _).mono ?_
  rintro e w1 ⟨rfl, rfl⟩
  go_wp2
  refine bodyPost_ret (v := .tuple #[.agg #[.int .u8 (g 0), .int .u8 (g 1), .int .u8 (g 2), .int .u8 (g 3), .int .u8 (g 4), .int .u8 (g 5), .int .u8 (g 6), .int .u8 (g 7), .int .u8 (g 8), .int .u8 (g 9), .int .u8 (g 10), .int .u8 (g 11), .int .u8 (g 12), .int .u8 (g 13), .int .u8 (g 14), .int .u8 (g 15)], .nilIface]) (by simp [results, Ybad.results4, go_sem]) rfl ⟨rfl, ?_⟩
  exact (((Below.refl _ _).alloc (Nat.le_refl _) _).alloc (by simp) _).alloc (by simp; omega) _

set_option maxHeartbeats 1000000 in
set_option maxRecDepth 100000 in
theorem parse_zero (g : Nat → Int) (s : ByteArray) (Hs : Hid (s = text g)) (hr : ∀ i, i < 16 → 0 ≤ g i ∧ g i < 256) (hz : ∀ i, i < 16 → g i = (fun _ => (0 : Int)) i) (T : TypeId) (a : Addr) (w : World) (hc : w.cell? ⟨1, 0, none⟩ = some (.iface T (.pointer (some a)))) (l1 : 1 < w.heap.size) :
    Calls Ybad.prog 4 #[.string s] w fun e w' => e = .returned (.tuple #[.agg #[.int .u8 0, .int .u8 0, .int .u8 0, .int .u8 0, .int .u8 0, .int .u8 0, .int .u8 0, .int .u8 0, .int .u8 0, .int .u8 0, .int .u8 0, .int .u8 0, .int .u8 0, .int .u8 0, .int .u8 0, .int .u8 0], .iface T (.pointer (some a))]) ∧ Below w.heap.size w w' := by
  have HR : Hid (∀ i, i < 16 → 0 ≤ g i ∧ g i < 256) := hr
  have HB : Hid (∀ i, i < 16 → g i = (fun _ => (0 : Int)) i) := hz
  clear hr hz
  have l2 : 1 < w.heap.size + 1 := by omega
  have l3 : 1 < w.heap.size + 1 + 1 := by omega
  go_enter Ybad.func4, Ybad.ntmps4
  go_wp2_with fail
  refine (decode16 g s Hs HR.out _ _ (by simp)).mono ?_
  rintro e w1 ⟨rfl, rfl⟩
  go_wp2_with fail
  refine (valid16 g true ⟨fun _ => HB.out, fun _ => rfl⟩ _).mono ?_
  rintro e w1 ⟨rfl, rfl⟩
  go_wp2
  go_region
  all_goals go_wp2
  all_goals
    refine bodyPost_ret (v := .tuple #[.agg #[.int .u8 0, .int .u8 0, .int .u8 0, .int .u8 0, .int .u8 0, .int .u8 0, .int .u8 0, .int .u8 0, .int .u8 0, .int .u8 0, .int .u8 0, .int .u8 0, .int .u8 0, .int .u8 0, .int .u8 0, .int .u8 0], .iface T (.pointer (some a))]) (by simp [results, Ybad.results4, go_sem]) rfl ⟨rfl, ?_⟩
    exact ((((Below.refl _ _).alloc (Nat.le_refl _) _).alloc (by simp) _).alloc (by simp; omega) _).drew

end Go.Proofs.YbulkaxfiDoor
