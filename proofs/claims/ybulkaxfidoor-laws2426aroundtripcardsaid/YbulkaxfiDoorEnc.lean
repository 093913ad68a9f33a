/-
  encoding/hex.Encode at sixteen bytes and (TraceID).String WALKED over this dump (Encode after the shelf's Derived/Shelf/Hex/Tagged.lean).
-/
import Derived.Test.YbulkaxfiDoorProg
import Derived.WalkKit
import Derived.WalkSpells
import Derived.Lib.HexFns
import Derived.Deep.OwnRows
import Derived.Deep.QuietTactic
import Derived.Deep.RegionWith
import Derived.BigQuiet
import Derived.Laws.BytesArg
namespace Go.Proofs.YbulkaxfiDoor
open Go.RowKit Go.Lib

set_option maxHeartbeats 1000000 in
set_option maxRecDepth 100000 in
/-- encoding/hex.Encode: dst a row of 32 cells (block bd, whatever type's number T), src 16 cells of another block that hold the bytes xs. -/
theorem encode16 (T : TypeId) (bd : Nat) (f : Nat → Value) (bs : Nat) (xs : List Int) (w : World)
    (hx : xs.length = 16) (hr : ∀ i, i < 16 → 0 ≤ xs.getD i 0 ∧ xs.getD i 0 < 256) (hsrc : ∀ i, i < 16 → w.cell? ⟨bs, i, none⟩ = some (.int .u8 (xs.getD i 0)))
    (hrow : w.rowIs bd T 32 f) (hne : bd ≠ bs) :
    Calls Ybad.prog 8 #[.slice (some ⟨bd, 0, none⟩) 32 32, .slice (some ⟨bs, 0, none⟩) 16 16] w fun e w' => e = .returned (.int .i64 32) ∧ w'.rowIs bd T 32 (Hx.row f 0 (Lib.bytesOf xs) 16) ∧ w.grownBy w' (some bd) := by
  have HS : Hid (∀ i, i < 16 → w.cell? ⟨bs, i, none⟩ = some (.int .u8 (xs.getD i 0))) := hsrc
  have HR : Hid (∀ i, i < 16 → 0 ≤ xs.getD i 0 ∧ xs.getD i 0 < 256) := hr
  have HX0 : Hid (xs.length = 16) := hx
  clear hsrc hr hx
  go_enter Ybad.func8, Ybad.ntmps8
  go_wp2
  go_loopw [5, 10] (fun vj vi wr => ∃ k : Nat, k ≤ 16 ∧ vi = .int .i64 k ∧ vj = .int .i64 ((2 * k : Nat) : Int) ∧ Hid (wr.rowIs bd T 32 (Hx.row f 0 (Lib.bytesOf xs) k)) ∧ Hid (w.grownBy wr (some bd))) (fun _ vi _ => 16 - (RowKit.intOf vi).toNat)
  case atStart => exact ⟨0, Nat.zero_le _, rfl, rfl, hrow.congr (fun j _ => Hx.row_zero f 0 _ j), Hx.grownBy_refl _ _⟩
  case round =>
    obtain ⟨k, hk, rfl, rfl, hrw, hgr⟩ := hrel
    by_cases hlt : k < 16
    · obtain ⟨x, hxk⟩ : ∃ x, x = xs.getD k 0 := ⟨_, rfl⟩
      have hcx : wr.cell? ⟨bs, k, none⟩ = some (.int .u8 x) := by rw [hxk]; exact hgr.out.cell (HS.out k hlt) (by simp; omega)
      have hx0 : 0 ≤ x := by rw [hxk]; exact (HR.out k hlt).1
      have hx1 : x < 256 := by rw [hxk]; exact (HR.out k hlt).2
      have HX : Hid (x = xs.getD k 0) := hxk
      clear hxk
      have hf1 : wr.frozen? ⟨bd, 2 * k, none⟩ = false := hrw.out.frozen _
      have hc1 : wr.cell? ⟨bd, 2 * k, none⟩ = some (Hx.row f 0 (Lib.bytesOf xs) k (2 * k)) := hrw.out.cell (by omega)
      have hf2 : ∀ v, (wr.setCell ⟨bd, 2 * k, none⟩ v).frozen? ⟨bd, 2 * k + 1, none⟩ = false := fun v => (hrw.out.set _ v).frozen _
      have hc2 : ∀ v, (wr.setCell ⟨bd, 2 * k, none⟩ v).cell? ⟨bd, 2 * k + 1, none⟩ = some (Hx.row f 0 (Lib.bytesOf xs) k (2 * k + 1)) := fun v => by
        have := (hrw.out.set (2 * k) v).cell (i := 2 * k + 1) (by omega)
        rwa [if_neg (by omega)] at this
      go_wp2
      go_roundw
      case rel =>
        refine ⟨k + 1, by omega, by go_num, by first | go_num | (congr 1; omega), ((hrw.out.set _ _).set _ _).congr (fun j _ => ?_), Hx.grownBy_set (Hx.grownBy_set hgr.out _ rfl _) _ rfl _⟩
        have e1 := Hx.dig_hi x hx0 hx1 (by show _ < 16; omega)
        have e2 := Hx.dig_lo x hx0 hx1 (by show _ < 16; omega)
        have e3 := Hx.row_step f 0 (Lib.bytesOf xs) k _ (Hx.bytes_at xs k (by rw [HX0.out]; exact hlt)) j
        rw [← HX.out, ← e1, ← e2] at e3
        simp only [Nat.zero_add] at e3
        exact e3
      case measure => simp [RowKit.intOf]; omega
    · have hk2 : k = 16 := by omega
      subst hk2
      go_wp2
      go_ret
      exact ⟨rfl, hrw.out, hgr.out⟩

/-- The sixteen bytes as a list. -/
def lst (g : Nat → Int) : List Int := (List.range 16).map g

theorem lst_length (g : Nat → Int) : (lst g).length = 16 := by simp [lst]
theorem lst_at (g : Nat → Int) (i : Nat) (h : i < 16) : (lst g).getD i 0 = g i := by simp [lst, h]
theorem cells16 (g : Nat → Int) (T : TypeId) (w : World) (i : Nat) (h : i < 16) : (w.alloc (.cells #[.int .u8 (g 0), .int .u8 (g 1), .int .u8 (g 2), .int .u8 (g 3), .int .u8 (g 4), .int .u8 (g 5), .int .u8 (g 6), .int .u8 (g 7), .int .u8 (g 8), .int .u8 (g 9), .int .u8 (g 10), .int .u8 (g 11), .int .u8 (g 12), .int .u8 (g 13), .int .u8 (g 14), .int .u8 (g 15)] T)).cell? ⟨w.heap.size, i, none⟩ = some (.int .u8 (g i)) := by
  obtain rfl | rfl | rfl | rfl | rfl | rfl | rfl | rfl | rfl | rfl | rfl | rfl | rfl | rfl | rfl | rfl : i = 0 ∨ i = 1 ∨ i = 2 ∨ i = 3 ∨ i = 4 ∨ i = 5 ∨ i = 6 ∨ i = 7 ∨ i = 8 ∨ i = 9 ∨ i = 10 ∨ i = 11 ∨ i = 12 ∨ i = 13 ∨ i = 14 ∨ i = 15 := by omega
  all_goals simp [go_sem]
theorem zeros32 (T : TypeId) (w : World) : (w.alloc (.cells #[.int .u8 0, .int .u8 0, .int .u8 0, .int .u8 0, .int .u8 0, .int .u8 0, .int .u8 0, .int .u8 0, .int .u8 0, .int .u8 0, .int .u8 0, .int .u8 0, .int .u8 0, .int .u8 0, .int .u8 0, .int .u8 0, .int .u8 0, .int .u8 0, .int .u8 0, .int .u8 0, .int .u8 0, .int .u8 0, .int .u8 0, .int .u8 0, .int .u8 0, .int .u8 0, .int .u8 0, .int .u8 0, .int .u8 0, .int .u8 0, .int .u8 0, .int .u8 0] T)).rowIs w.heap.size T 32 (fun _ => .int .u8 0) :=
  World.rowIs_alloc w #[.int .u8 0, .int .u8 0, .int .u8 0, .int .u8 0, .int .u8 0, .int .u8 0, .int .u8 0, .int .u8 0, .int .u8 0, .int .u8 0, .int .u8 0, .int .u8 0, .int .u8 0, .int .u8 0, .int .u8 0, .int .u8 0, .int .u8 0, .int .u8 0, .int .u8 0, .int .u8 0, .int .u8 0, .int .u8 0, .int .u8 0, .int .u8 0, .int .u8 0, .int .u8 0, .int .u8 0, .int .u8 0, .int .u8 0, .int .u8 0, .int .u8 0, .int .u8 0] T (fun _ => .int .u8 0) (fun i hi => by
    have h32 : i < 32 := hi
    show ((List.replicate 32 (Value.int .u8 0)).toArray)[i]? = _
    rw [List.getElem?_toArray, List.getElem?_replicate, if_pos h32])

/-- The text of the sixteen bytes. -/
def text (g : Nat → Int) : ByteArray := ⟨(Hx.encode (Lib.bytesOf (lst g))).toArray⟩

set_option maxHeartbeats 1000000 in
set_option maxRecDepth 100000 in
/-- (TraceID).String. -/
theorem string16 (g : Nat → Int) (s : ByteArray) (Hs : Hid (s = text g)) (w : World) (hr : ∀ i, i < 16 → 0 ≤ g i ∧ g i < 256) :
    Calls Ybad.prog 5 #[.agg #[.int .u8 (g 0), .int .u8 (g 1), .int .u8 (g 2), .int .u8 (g 3), .int .u8 (g 4), .int .u8 (g 5), .int .u8 (g 6), .int .u8 (g 7), .int .u8 (g 8), .int .u8 (g 9), .int .u8 (g 10), .int .u8 (g 11), .int .u8 (g 12), .int .u8 (g 13), .int .u8 (g 14), .int .u8 (g 15)]] w fun e w' => e = .returned (.string s) ∧ Below w.heap.size w w' := by
  have HR : Hid (∀ i, i < 16 → 0 ≤ (lst g).getD i 0 ∧ (lst g).getD i 0 < 256) := fun i hi => by rw [lst_at g i hi]; exact hr i hi
  have HC : Hid (∀ i, i < 16 → ((w.alloc (.cells #[.int .u8 (g 0), .int .u8 (g 1), .int .u8 (g 2), .int .u8 (g 3), .int .u8 (g 4), .int .u8 (g 5), .int .u8 (g 6), .int .u8 (g 7), .int .u8 (g 8), .int .u8 (g 9), .int .u8 (g 10), .int .u8 (g 11), .int .u8 (g 12), .int .u8 (g 13), .int .u8 (g 14), .int .u8 (g 15)] 23)).alloc (.cells #[.int .u8 0, .int .u8 0, .int .u8 0, .int .u8 0, .int .u8 0, .int .u8 0, .int .u8 0, .int .u8 0, .int .u8 0, .int .u8 0, .int .u8 0, .int .u8 0, .int .u8 0, .int .u8 0, .int .u8 0, .int .u8 0, .int .u8 0, .int .u8 0, .int .u8 0, .int .u8 0, .int .u8 0, .int .u8 0, .int .u8 0, .int .u8 0, .int .u8 0, .int .u8 0, .int .u8 0, .int .u8 0, .int .u8 0, .int .u8 0, .int .u8 0, .int .u8 0] 33)).cell? ⟨w.heap.size, i, none⟩ = some (.int .u8 ((lst g).getD i 0))) := fun i hi => by
    rw [lst_at g i hi, ← cells16 g 23 w i hi]
    exact World.cell?_alloc_lt _ _ _ (by simp)
  have HZ : Hid (((w.alloc (.cells #[.int .u8 (g 0), .int .u8 (g 1), .int .u8 (g 2), .int .u8 (g 3), .int .u8 (g 4), .int .u8 (g 5), .int .u8 (g 6), .int .u8 (g 7), .int .u8 (g 8), .int .u8 (g 9), .int .u8 (g 10), .int .u8 (g 11), .int .u8 (g 12), .int .u8 (g 13), .int .u8 (g 14), .int .u8 (g 15)] 23)).alloc (.cells #[.int .u8 0, .int .u8 0, .int .u8 0, .int .u8 0, .int .u8 0, .int .u8 0, .int .u8 0, .int .u8 0, .int .u8 0, .int .u8 0, .int .u8 0, .int .u8 0, .int .u8 0, .int .u8 0, .int .u8 0, .int .u8 0, .int .u8 0, .int .u8 0, .int .u8 0, .int .u8 0, .int .u8 0, .int .u8 0, .int .u8 0, .int .u8 0, .int .u8 0, .int .u8 0, .int .u8 0, .int .u8 0, .int .u8 0, .int .u8 0, .int .u8 0, .int .u8 0] 33)).rowIs (w.heap.size + 1) 33 32 (fun _ => .int .u8 0)) := by
    have := zeros32 33 (w.alloc (.cells #[.int .u8 (g 0), .int .u8 (g 1), .int .u8 (g 2), .int .u8 (g 3), .int .u8 (g 4), .int .u8 (g 5), .int .u8 (g 6), .int .u8 (g 7), .int .u8 (g 8), .int .u8 (g 9), .int .u8 (g 10), .int .u8 (g 11), .int .u8 (g 12), .int .u8 (g 13), .int .u8 (g 14), .int .u8 (g 15)] 23))
    simpa [Hid] using this
  clear hr
  go_enter Ybad.func5, Ybad.ntmps5
  go_wp2_with fail
  go_region_with (go_at_call 8; refine (encode16 33 (w.heap.size + 1) (fun _ => .int .u8 0) w.heap.size (lst g) _ (lst_length g) HR.out (by exact HC.out) (by exact HZ.out) (by omega)).mono ?_; rintro e w1 ⟨rfl, hrow, hg⟩)
  all_goals
    have gc := run_convert_bytes_arg (P := Ybad.prog) w1 32 5 Ybad.underlying32 Ybad.underlying5 (w.heap.size + 1) 0 32 32 (Hx.nums (Lib.bytesOf (lst g))) (by rw [Hx.nums_length, Lib.bytesOf_length, lst_length]) (fun i hi => by rw [Nat.zero_add, hrow.cell hi, Hx.row_in _ _ _ _ (by omega)]) 9 Ybad.underlying9
    have HG : Hid (World.grownBy _ w1 (some (w.heap.size + 1))) := hg
    clear hrow hg
    go_wp2
    go_ret
    exact ⟨by rw [Hs.out, text, ← Hx.strOfNums_nums]; rfl, (((Below.refl _ w).alloc (Nat.le_refl _) _).alloc (by simp) _).drew.grown HG.out (by simp; omega) (fun k hk => by cases hk; omega)⟩

end Go.Proofs.YbulkaxfiDoor
