/-
  record.Digits, zzs2418avalid, routingCheckDigit WALKED.
-/
import Derived.Test.YbulkaxbaFmtPlain
import Derived.Test.YbulkaxbaFmtProg
import Derived.WalkKit
import Derived.WalkSpells
import Derived.LoopTactic
namespace Go.Proofs.YbulkaxbaFmt
open Go.RowKit

set_option maxHeartbeats 400000 in
/-- record.Digits at nine bytes: all digits. -/
theorem digits_yes (s : ByteArray) (w : World) (hs : s.size = 9) (hd : digs s 9) :
    Calls Ybaf.prog 8 #[.string s] w fun e w' => e = .returned (.bool true) ∧ w' = w := by
  have HD : Hid (digs s 9) := hd
  clear hd
  go_enter Ybaf.func8, Ybaf.ntmps8
  go_wp2
  go_loop [3] (fun i => ∃ k : Nat, k ≤ 9 ∧ i = .int .i64 k) (fun i => 9 - (intOf i).toNat)
  case atStart => exact ⟨0, Nat.zero_le _, rfl⟩
  case round =>
    obtain ⟨k, hk, rfl⟩ := hrel
    by_cases hlt : k < 9
    · have hb := HD.out k hlt
      rw [byteAt_eq s k (by omega)] at hb
      obtain ⟨hb1, hb2⟩ := hb
      have hlt' : k < s.size := by omega
      go_wp2
      go_round
      case rel => exact ⟨k + 1, by omega, by go_num⟩
      case measure => simp [intOf]; omega
    · go_wp2
      go_ret
      exact ⟨rfl, rfl⟩

set_option maxHeartbeats 400000 in
/-- record.Digits at nine bytes: not all digits. -/
theorem digits_no (s : ByteArray) (w : World) (hs : s.size = 9) (hd : ¬ digs s 9) :
    Calls Ybaf.prog 8 #[.string s] w fun e w' => e = .returned (.bool false) ∧ w' = w := by
  have HD : Hid (¬ digs s 9) := hd
  clear hd
  go_enter Ybaf.func8, Ybaf.ntmps8
  go_wp2
  go_loop [3] (fun i => ∃ k : Nat, k ≤ 9 ∧ i = .int .i64 k ∧ digs s k) (fun i => 9 - (intOf i).toNat)
  case atStart => exact ⟨0, Nat.zero_le _, rfl, fun j hj => absurd hj (Nat.not_lt_zero _)⟩
  case round =>
    obtain ⟨k, hk, rfl, hdk⟩ := hrel
    have HK : Hid (digs s k) := hdk
    clear hdk
    by_cases hlt : k < 9
    · have hlt' : k < s.size := by omega
      have HB : Hid (byteAt s k = (s[k].toNat : Int)) := byteAt_eq s k hlt'
      by_cases hb : 48 ≤ (s[k].toNat : Int) ∧ (s[k].toNat : Int) ≤ 57
      · obtain ⟨hb1, hb2⟩ := hb
        go_wp2
        go_round
        case rel => exact ⟨k + 1, by omega, by go_num, digs_succ HK.out (by rw [HB.out]; exact hb1) (by rw [HB.out]; exact hb2)⟩
        case measure => simp [intOf]; omega
      · by_cases hc : (s[k].toNat : Int) < 48
        · clear hb
          go_wp2
          go_ret
          exact ⟨rfl, rfl⟩
        · have hc2 : 57 < (s[k].toNat : Int) := by omega
          clear hb
          go_wp2
          go_ret
          exact ⟨rfl, rfl⟩
    · have : k = 9 := by omega
      subst this
      exact absurd HK.out HD.out

theorem ret_bool {a b : Bool} (h : a = b) : Ending.returned (.bool a) = .returned (.bool b) := by rw [h]
theorem ret_int {q : IntKind} {a b : Int} (h : a = b) : Ending.returned (.int q a) = .returned (.int q b) := by rw [h]
theorem no_of {v : Bool} {p : Prop} (h : v = true ↔ p) (hn : ¬ p) : false = v := by
  cases v with
  | false => rfl
  | true => exact absurd (h.1 rfl) hn

theorem yes_of {s : ByteArray} {v : Bool} (h : v = true ↔ Valid s) (hs : s.size = 9) (hd : digs s 9) : (wsum s 9 % 10 == 0) = v := by
  have e : (wsum s 9 % 10 == 0) = true ↔ Valid s := by
    rw [beq_iff_eq]
    exact ⟨fun h0 => ⟨hs, hd, h0⟩, fun hv => hv.2.2⟩
  exact Bool.eq_iff_iff.2 (e.trans h.symm)

theorem cells9 (w : World) (k : Nat) (h : k < 9) : (w.alloc (.cells #[.int .i64 3, .int .i64 7, .int .i64 1, .int .i64 3, .int .i64 7, .int .i64 1, .int .i64 3, .int .i64 7, .int .i64 1] 38)).cell? ⟨w.heap.size, k, none⟩ = some (.int .i64 (wt k)) := by
  match k, h with
  | 0, _ | 1, _ | 2, _ | 3, _ | 4, _ | 5, _ | 6, _ | 7, _ | 8, _ => simp [go_sem, wt]

set_option maxHeartbeats 400000 in
theorem valid_len (s : ByteArray) (w : World) (hs : ¬ (s.size : Int) = 9) :
    Calls Ybaf.prog 7 #[.string s] w fun e w' => e = .returned (.bool false) ∧ Below w.heap.size w w' := by
  go_enter Ybaf.func7, Ybaf.ntmps7
  go_wp2
  go_ret
  exact ⟨rfl, Below.refl _ _⟩

set_option maxHeartbeats 800000 in
/-- zzs2418avalid at nine bytes. -/
theorem valid_nine (s : ByteArray) (w : World) (hs : s.size = 9) (v : Bool) (HV : Hid (v = true ↔ Valid s)) :
    Calls Ybaf.prog 7 #[.string s] w fun e w' => e = .returned (.bool v) ∧ Below w.heap.size w w' := by
  have hcell := cells9 w
  go_enter Ybaf.func7, Ybaf.ntmps7
  go_wp2
  go_loop [4, 5] (fun t i => ∃ k : Nat, k ≤ 9 ∧ i = .int .i64 k ∧ t = .int .i64 (wsum s k) ∧ digs s k) (fun _ i => 9 - (intOf i).toNat)
  case atStart => exact ⟨0, Nat.zero_le _, rfl, rfl, fun j hj => absurd hj (Nat.not_lt_zero _)⟩
  case round =>
    obtain ⟨k, hk, rfl, rfl, hdk⟩ := hrel
    have hwb := wsum_bd s k hk hdk
    have HK : Hid (digs s k) := hdk
    clear hdk
    by_cases hlt : k < 9
    · have hlt' : k < s.size := by omega
      have HB : Hid (byteAt s k = (s[k].toNat : Int)) := byteAt_eq s k hlt'
      have hck := hcell k hlt
      have hwt := wt_bd k hlt
      clear hcell
      have HS : Hid (wsum s (k + 1) = wsum s k + wt k * ((s[k].toNat : Int) - 48)) := by rw [← HB.out]; rfl
      by_cases hc : (s[k].toNat : Int) < 48
      · go_wp2
        go_ret
        refine ⟨ret_bool (no_of HV.out fun hv => ?_), (Below.refl _ _).alloc (Nat.le_refl _) _⟩
        have := hv.2.1 k hlt
        rw [HB.out] at this
        omega
      · by_cases hc2 : 57 < (s[k].toNat : Int)
        · go_wp2
          go_ret
          refine ⟨ret_bool (no_of HV.out fun hv => ?_), (Below.refl _ _).alloc (Nat.le_refl _) _⟩
          have := hv.2.1 k hlt
          rw [HB.out] at this
          omega
        · have hmb := mul_bd (wt k) ((s[k].toNat : Int) - 48) hwt (by omega)
          obtain ⟨hm1, hm2⟩ := hmb
          have hc' : 48 ≤ (s[k].toNat : Int) := by omega
          have hc2' : (s[k].toNat : Int) ≤ 57 := by omega
          clear hc hc2
          go_wp2
          go_round
          case rel => exact ⟨k + 1, by omega, by go_num, by rw [HS.out], digs_succ HK.out (by rw [HB.out]; exact hc') (by rw [HB.out]; exact hc2')⟩
          case measure => simp [intOf]; omega
    · have : k = 9 := by omega
      subst this
      clear hcell
      go_wp2
      go_ret
      refine ⟨ret_bool ?_, (Below.refl _ _).alloc (Nat.le_refl _) _⟩
      exact yes_of HV.out hs HK.out

/-- A weight out of the array of eight, at every index. -/
theorem index8 (k : Nat) (h : k < 8) (w : World) : (Instr.index 29 (.agg #[.int .i64 3, .int .i64 7, .int .i64 1, .int .i64 3, .int .i64 7, .int .i64 1, .int .i64 3, .int .i64 7]) (.int .i64 (k : Int))).run Ybaf.prog w = .ok (.int .i64 (wt k)) w := by
  obtain rfl | rfl | rfl | rfl | rfl | rfl | rfl | rfl : k = 0 ∨ k = 1 ∨ k = 2 ∨ k = 3 ∨ k = 4 ∨ k = 5 ∨ k = 6 ∨ k = 7 := by omega
  all_goals kernel_rfl

set_option maxHeartbeats 800000 in
/-- routingCheckDigit at eight digits. -/
theorem digit_eight (s : ByteArray) (w : World) (hs : s.size = 8) (hd : digs s 8) :
    Calls Ybaf.prog 10 #[.string s] w fun e w' => e = .returned (.int .u8 (48 + (10 - wsum s 8 % 10) % 10)) ∧ Below w.heap.size w w' := by
  have HD : Hid (digs s 8) := hd
  clear hd
  go_enter Ybaf.func10, Ybaf.ntmps10
  go_wp2
  go_loop [4, 9] (fun t i => ∃ k : Nat, k ≤ 8 ∧ i = .int .i64 k ∧ t = .int .i64 (wsum s k)) (fun _ i => 8 - (intOf i).toNat)
  case atStart => exact ⟨0, Nat.zero_le _, rfl, rfl⟩
  case round =>
    obtain ⟨k, hk, rfl, rfl⟩ := hrel
    obtain ⟨hw1, hw2⟩ := wsum_bd s k (by omega) (digs_mono HD.out hk)
    by_cases hlt : k < 8
    · have hlt' : k < s.size := by omega
      have hix := index8 k hlt
      have HB : Hid (byteAt s k = (s[k].toNat : Int)) := byteAt_eq s k hlt'
      have HS : Hid (wsum s (k + 1) = wsum s k + wt k * ((s[k].toNat : Int) - 48)) := by rw [← HB.out]; rfl
      obtain ⟨hc1, hc2⟩ : 48 ≤ (s[k].toNat : Int) ∧ (s[k].toNat : Int) ≤ 57 := by rw [← HB.out]; exact HD.out k hlt
      obtain ⟨hm1, hm2⟩ := mul_bd (wt k) ((s[k].toNat : Int) - 48) (wt_bd k (by omega)) (by omega)
      go_wp2
      go_round
      case rel => exact ⟨k + 1, by omega, by go_num, by rw [HS.out]⟩
      case measure => simp [intOf]; omega
    · have : k = 8 := by omega
      subst this
      go_wp2
      go_ret
      exact ⟨ret_int (by omega), (Below.refl _ _).alloc (Nat.le_refl _) _⟩
end Go.Proofs.YbulkaxbaFmt
