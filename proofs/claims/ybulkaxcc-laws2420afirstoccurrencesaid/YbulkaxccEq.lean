/-
  slices.Equal at []string WALKED over this dump (after the shelf's Derived/Shelf/Slices/Equal.lean), over 'Reads'.
-/
import Derived.Test.YbulkaxccUniq
import Derived.RegionTactic
import Derived.Deep.LoopGhost
import Derived.Deep.Draws
import Derived.Lib.Slices
import Derived.Lib.SlicesS
import Derived.Lib.SlicesMore
namespace Go.Proofs.Ybulkaxcc
open Go.RowKit

set_option maxHeartbeats 800000 in
set_option maxRecDepth 100000 in
theorem equal_some (b1 o1 c b2 o2 d : Nat) (xs : List ByteArray) (w : World) (hbig : xs.length ≤ 1024)
    (hc1 : ∀ j, j < xs.length → w.cell? ⟨b1, o1 + j, none⟩ = some (.string (xs.getD j ByteArray.empty))) (hc2 : ∀ j, j < xs.length → w.cell? ⟨b2, o2 + j, none⟩ = some (.string (xs.getD j ByteArray.empty))) :
    Calls Yba.prog 7 #[.slice (some ⟨b1, o1, none⟩) xs.length c, .slice (some ⟨b2, o2, none⟩) xs.length d] w fun e w' => e = .returned (.bool true) ∧ ∃ q, w' = w.drewN q := by
  go_enter Yba.func7, Yba.ntmps7
  go_wp2
  go_loopg [13] xs.length (fun g s13 wr => ∃ k q : Nat, k ≤ xs.length ∧ xs.length - k ≤ g ∧ s13 = .int .i64 k ∧ wr = w.drewN q)
  case atStart => exact ⟨0, 0, Nat.zero_le _, by omega, rfl, rfl⟩
  case round =>
    obtain ⟨k, q, hk, hg, rfl, rfl⟩ := hrel
    by_cases hlt : k < xs.length
    · have g1 := hc1 k hlt
      have g2 := hc2 k hlt
      clear hc1 hc2
      generalize xs.getD k ByteArray.empty = x at g1 g2
      go_wp2_with fail
      go_region
      go_wp2
      go_roundg (xs.length - (k + 1))
      case measure => omega
      case rel => exact ⟨k + 1, q + 1, by omega, by omega, by go_num, rfl⟩
    · clear hc1 hc2
      go_wp2
      go_ret
      exact ⟨rfl, q, rfl⟩

set_option maxHeartbeats 800000 in
set_option maxRecDepth 100000 in
theorem equal_none (a1 a2 : Option Addr) (c d : Nat) (w : World) :
    Calls Yba.prog 7 #[.slice a1 0 c, .slice a2 0 d] w fun e w' => e = .returned (.bool true) ∧ ∃ q, w' = w.drewN q := by
  go_enter Yba.func7, Yba.ntmps7
  go_wp2
  go_loopg [13] 0 (fun _ s13 wr => s13 = .int .i64 0 ∧ wr = w)
  case atStart => exact ⟨rfl, rfl⟩
  case round =>
    obtain ⟨rfl, rfl⟩ := hrel
    go_wp2
    go_ret
    exact ⟨rfl, 0, rfl⟩

/-- slices.Equal of two slices with the same words: true. -/
theorem equal_same (v1 v2 : Value) (xs : List ByteArray) (w : World) (hbig : xs.length ≤ 1024) (h1 : Reads w v1 xs) (h2 : Reads w v2 xs) :
    Calls Yba.prog 7 #[v1, v2] w fun e w' => e = .returned (.bool true) ∧ ∃ q, w' = w.drewN q := by
  obtain ⟨a1, c1, rfl, h1⟩ := h1
  obtain ⟨a2, c2, rfl, h2⟩ := h2
  by_cases hx : xs = []
  · subst hx
    exact equal_none a1 a2 c1 c2 w
  · rcases h1 with h1 | ⟨b1, o1, rfl, _, hc1⟩
    · exact absurd h1 hx
    rcases h2 with h2 | ⟨b2, o2, rfl, _, hc2⟩
    · exact absurd h2 hx
    exact equal_some b1 o1 c1 b2 o2 c2 xs w hbig hc1 hc2

end Go.Proofs.Ybulkaxcc
