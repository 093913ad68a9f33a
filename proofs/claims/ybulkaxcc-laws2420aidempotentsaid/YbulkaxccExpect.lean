/-
  'zzs2420aexpect' WALKED: a loop in a loop; the inner test draws its order.
-/
import Derived.Test.YbulkaxccEq
import Derived.WalkSmall
namespace Go.Proofs.Ybulkaxcc
open Go.RowKit

set_option maxRecDepth 100000 in
theorem expect_none (a : Option Addr) (cap : Nat) (w : World) : Calls Yba.prog 6 #[.slice a 0 cap] w fun e w' => e = .returned (.slice none 0 0) ∧ Below w.heap.size w w' := by
  go_enter Yba.func6, Yba.ntmps6
  go_wp2
  refine wp_loop_rounds 1 ?_
  rw [rounds_succ]
  go_wp2
  go_ret
  exact ⟨rfl, Below.refl _ _⟩

theorem beq_false {x y : ByteArray} (h : ¬ x = y) : (x.toList == y.toList) = false := (Lib.bytes_beq_false_iff _ _).2 h

set_option maxHeartbeats 1600000 in
set_option maxRecDepth 100000 in
theorem expect_some (b off cap : Nat) (ss : List ByteArray) (w : World) (hreach : ss.length ≤ 1024) (hb : b < w.heap.size)
    (hc : ∀ j, j < ss.length → w.cell? ⟨b, off + j, none⟩ = some (.string (ss.getD j ByteArray.empty))) :
    Calls Yba.prog 6 #[.slice (some ⟨b, off, none⟩) ss.length cap] w fun e w' => ∃ v, e = .returned v ∧ w'.ownsRow w.heap.size 9 1 v (U ss ss.length).length ((U ss ss.length).map Value.string) ∧ Below w.heap.size w w' := by
  obtain ⟨i0, hi, hz0, hz1, hz2⟩ := info_parts info9
  go_enter Yba.func6, Yba.ntmps6
  go_wp2
  go_loopg [3, 4] ss.length (fun g v i wr => ∃ k : Nat, k ≤ ss.length ∧ ss.length - k ≤ g ∧ i = .int .i64 k ∧ wr.ownsRow w.heap.size 9 1 v (U ss k).length ((U ss k).map Value.string) ∧ Below w.heap.size w wr)
  case atStart => exact ⟨0, Nat.zero_le _, by omega, rfl, by rw [U_zero]; exact World.ownsRow_nil _ _ _ _, Below.refl _ _⟩
  case round =>
    obtain ⟨k, hk, hg, rfl, hrow, hnx⟩ := hrel
    obtain ⟨wo, rfl⟩ : ∃ wo : World, wo = wr := ⟨_, rfl⟩
    obtain ⟨go, rfl⟩ : ∃ go : Nat, go = gk := ⟨_, rfl⟩
    by_cases hlt : k < ss.length
    · have hal := U_le ss k
      have hco : ∀ j, j < ss.length → wo.cell? ⟨b, off + j, none⟩ = some (.string (ss.getD j ByteArray.empty)) := fun j hj => (hnx.cell (by exact hb)).trans (hc j hj)
      clear hc
      have HC : Hid (∀ j, j < ss.length → wo.cell? ⟨b, off + j, none⟩ = some (.string (ss.getD j ByteArray.empty))) := hco
      clear hco
      have hck := HC.out k hlt
      go_wp2
      go_loopg [5, 6] k (fun g d j wi => ∃ m q : Nat, m ≤ k ∧ k - m ≤ g ∧ j = .int .i64 m ∧ d = .bool false ∧ wi = wo.drewN q ∧ ∀ j, j < m → ¬ ss.getD j ByteArray.empty = ss.getD k ByteArray.empty)
      case atStart => exact ⟨0, 0, Nat.zero_le _, by omega, rfl, rfl, rfl, fun j hj => absurd hj (Nat.not_lt_zero _)⟩
      case round =>
        obtain ⟨m, q, hm, hgi, rfl, rfl, rfl, hne⟩ := hrel
        have HN : Hid (∀ j, j < m → ¬ ss.getD j ByteArray.empty = ss.getD k ByteArray.empty) := hne
        clear hne
        by_cases hmk : m < k
        · have hcm := HC.out m (by omega)
          by_cases hxy : ss.getD m ByteArray.empty = ss.getD k ByteArray.empty
          · -- a repeat
            have HU : Hid (U ss (k + 1) = U ss k) := U_old ss k hlt ((mem_U ss k (by omega) _).2 ⟨m, hmk, hxy⟩)
            rw [hxy] at hcm
            clear hxy
            generalize ss.getD k ByteArray.empty = x at hcm hck
            go_wp2_with fail
            go_region
            go_wp2
            go_roundg (ss.length - (k + 1))
            case measure => omega
            case rel => exact ⟨k + 1, by omega, by omega, by go_num, by rw [HU.out]; exact hrow, below_drewN hnx _⟩
          · have HN2 : Hid (∀ j, j < m + 1 → ¬ ss.getD j ByteArray.empty = ss.getD k ByteArray.empty) := fun j hj => by
              by_cases e : j = m
              · subst e; exact hxy
              · exact HN.out j (by omega)
            have hbq := beq_false hxy
            clear hxy
            generalize ss.getD m ByteArray.empty = y at hcm hbq
            generalize hx : ss.getD k ByteArray.empty = x at hcm hck hbq
            have HX : Hid (ss.getD k ByteArray.empty = x) := hx
            clear hx
            go_wp2_with fail
            go_region
            go_wp2
            go_roundg (k - (m + 1))
            case measure => omega
            case rel => exact ⟨m + 1, q + 1, by omega, by omega, by go_num, rfl, rfl, HN2.out⟩
        · -- no repeat: it goes to the end
          have hmk' : m = k := by omega
          subst hmk'
          have HU : Hid (U ss (m + 1) = U ss m ++ [ss.getD m ByteArray.empty]) := U_new ss m hlt fun h => by
            obtain ⟨j, hj, e⟩ := (mem_U ss m (by omega) _).1 h
            exact HN.out j hj e
          generalize ss.getD m ByteArray.empty = x at hck HU
          go_wp2_with (first
            | (at_builtin; refine wpList_append_own _ rfl _ _ 22 rfl w.heap.size 9 i0 (.string ByteArray.empty) 1 16 Yba.underlying22 hi hz0 hz1 hz2 rfl (by decide) _ _ _ rfl (World.ownsRow.alloc (w := wo.drewN q) hrow _) ⟨wo.heap.size, 0, none⟩ 1 1 [.string x] rfl rfl (cell_one_new (wo.drewN q) _ _) (str_oneCell x) (by unfold maxLen; omega) (by omega) (by have := hnx.size; simp; omega) ?_; intro v' w2 hown' hgrow2 hnil2))
          have s2 := hgrow2.size
          simp at s2
          have hnz := hnx.size
          go_roundg (ss.length - (m + 1))
          case measure => omega
          case rel =>
            refine ⟨m + 1, by omega, by omega, by go_num, ?_, ?_⟩
            · rw [HU.out]
              simpa using hown'
            · exact (((below_drewN hnx q).alloc (by simpa using hnz) _).grown hgrow2 (by simp; omega) (fun j hj => (hrow.lt j hj).1))
    · have : k = ss.length := by omega
      subst this
      clear hc
      go_wp2
      go_ret
      exact ⟨_, rfl, hrow, hnx⟩

end Go.Proofs.Ybulkaxcc
