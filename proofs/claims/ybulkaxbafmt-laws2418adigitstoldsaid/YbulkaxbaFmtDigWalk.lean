/-
  LawS2418ADigits WALKED: its loop of eight rounds is walked round by round; string(bs) by its law; the rest out of the contracts.
-/
import Derived.Test.YbulkaxbaFmtRoute
import Derived.LoopN
import Derived.Laws.BytesArg
namespace Go.Proofs.YbulkaxbaFmt
open Go.RowKit Go.Extern.Stop Go.Stop Go.Extern

theorem make9 (w : World) : (Instr.makeSlice 30 (.int .i64 9) (.int .i64 9)).run Ybaf.prog w = .ok (.slice (some ⟨w.heap.size, 0, none⟩) 9 9) (w.alloc (.cells #[.int .u8 0, .int .u8 0, .int .u8 0, .int .u8 0, .int .u8 0, .int .u8 0, .int .u8 0, .int .u8 0, .int .u8 0] 5)) := by kernel_rfl

/-- string(bs) of nine bytes that the call has laid. -/
theorem conv9 (W : World) (b : Nat) (hb : b = W.heap.size) (x0 x1 x2 x3 x4 x5 x6 x7 x8 : Int) :
    (convert 30 9 (.slice (some ⟨b, 0, none⟩) 9 9)).run Ybaf.prog (W.alloc (.cells #[.int .u8 x0, .int .u8 x1, .int .u8 x2, .int .u8 x3, .int .u8 x4, .int .u8 x5, .int .u8 x6, .int .u8 x7, .int .u8 x8] 5)) =
      .ok (.string (strOfNums [x0, x1, x2, x3, x4, x5, x6, x7, x8])) (W.alloc (.cells #[.int .u8 x0, .int .u8 x1, .int .u8 x2, .int .u8 x3, .int .u8 x4, .int .u8 x5, .int .u8 x6, .int .u8 x7, .int .u8 x8] 5)) := by
  subst hb
  refine run_convert_bytes_arg _ 30 5 Ybaf.underlying30 Ybaf.underlying5 W.heap.size 0 9 9 [x0, x1, x2, x3, x4, x5, x6, x7, x8] rfl (fun i hi => ?_) 9 Ybaf.underlying9
  obtain rfl | rfl | rfl | rfl | rfl | rfl | rfl | rfl | rfl : i = 0 ∨ i = 1 ∨ i = 2 ∨ i = 3 ∨ i = 4 ∨ i = 5 ∨ i = 6 ∨ i = 7 ∨ i = 8 := by omega
  all_goals simp [go_sem]

/-- The nine bytes of the text. -/
def nine (v0 v1 v2 v3 v4 v5 v6 v7 y : Int) : ByteArray := strOfNums [48 + v0, 48 + v1, 48 + v2, 48 + v3, 48 + v4, 48 + v5, 48 + v6, 48 + v7, y]

theorem ofNat_small (x : Int) (h0 : 0 ≤ x) (h1 : x ≤ 255) : ((UInt8.ofNat x.toNat).toNat : Int) = x := by
  rw [UInt8.toNat_ofNat']
  omega

theorem nine_sum (v0 v1 v2 v3 v4 v5 v6 v7 y : Int) (h0 : 0 ≤ v0 ∧ v0 ≤ 9) (h1 : 0 ≤ v1 ∧ v1 ≤ 9) (h2 : 0 ≤ v2 ∧ v2 ≤ 9) (h3 : 0 ≤ v3 ∧ v3 ≤ 9) (h4 : 0 ≤ v4 ∧ v4 ≤ 9) (h5 : 0 ≤ v5 ∧ v5 ≤ 9) (h6 : 0 ≤ v6 ∧ v6 ≤ 9) (h7 : 0 ≤ v7 ∧ v7 ≤ 9)
    (hy : y = 48 + -((3 * v0 + 7 * v1 + v2 + 3 * v3 + 7 * v4 + v5 + 3 * v6 + 7 * v7) % 10) % 10) : Valid (nine v0 v1 v2 v3 v4 v5 v6 v7 y) := by
  have b0 : byteAt (nine v0 v1 v2 v3 v4 v5 v6 v7 y) 0 = 48 + v0 := ofNat_small _ (by omega) (by omega)
  have b1 : byteAt (nine v0 v1 v2 v3 v4 v5 v6 v7 y) 1 = 48 + v1 := ofNat_small _ (by omega) (by omega)
  have b2 : byteAt (nine v0 v1 v2 v3 v4 v5 v6 v7 y) 2 = 48 + v2 := ofNat_small _ (by omega) (by omega)
  have b3 : byteAt (nine v0 v1 v2 v3 v4 v5 v6 v7 y) 3 = 48 + v3 := ofNat_small _ (by omega) (by omega)
  have b4 : byteAt (nine v0 v1 v2 v3 v4 v5 v6 v7 y) 4 = 48 + v4 := ofNat_small _ (by omega) (by omega)
  have b5 : byteAt (nine v0 v1 v2 v3 v4 v5 v6 v7 y) 5 = 48 + v5 := ofNat_small _ (by omega) (by omega)
  have b6 : byteAt (nine v0 v1 v2 v3 v4 v5 v6 v7 y) 6 = 48 + v6 := ofNat_small _ (by omega) (by omega)
  have b7 : byteAt (nine v0 v1 v2 v3 v4 v5 v6 v7 y) 7 = 48 + v7 := ofNat_small _ (by omega) (by omega)
  have b8 : byteAt (nine v0 v1 v2 v3 v4 v5 v6 v7 y) 8 = y := ofNat_small _ (by omega) (by omega)
  refine ⟨rfl, fun j hj => ?_, ?_⟩
  · obtain rfl | rfl | rfl | rfl | rfl | rfl | rfl | rfl | rfl : j = 0 ∨ j = 1 ∨ j = 2 ∨ j = 3 ∨ j = 4 ∨ j = 5 ∨ j = 6 ∨ j = 7 ∨ j = 8 := by omega
    · rw [b0]; omega
    · rw [b1]; omega
    · rw [b2]; omega
    · rw [b3]; omega
    · rw [b4]; omega
    · rw [b5]; omega
    · rw [b6]; omega
    · rw [b7]; omega
    · rw [b8]; omega
  · simp only [wsum]
    rw [b0, b1, b2, b3, b4, b5, b6, b7, b8]
    simp [wt]
    omega

theorem mod10 (a : Int) : 0 ≤ a % 10 ∧ a % 10 ≤ 9 := by omega

set_option maxRecDepth 100000 in
set_option maxHeartbeats 2000000 in
/-- The check digit made right. -/
theorem dig_fix (key : ByteArray) (a0 a1 a2 a3 a4 a5 a6 a7 la : Int) (w : World) (hk : ¬ 1024 < (key.size : Int))
    (h0 : 0 ≤ a0 ∧ a0 ≤ 255) (h1 : 0 ≤ a1 ∧ a1 ≤ 255) (h2 : 0 ≤ a2 ∧ a2 ≤ 255) (h3 : 0 ≤ a3 ∧ a3 ≤ 255) (h4 : 0 ≤ a4 ∧ a4 ≤ 255) (h5 : 0 ≤ a5 ∧ a5 ≤ 255) (h6 : 0 ≤ a6 ∧ a6 ≤ 255) (h7 : 0 ≤ a7 ∧ a7 ≤ 255) :
    Calls Ybaf.prog 4 #[.string key, .agg #[.int .u8 a0, .int .u8 a1, .int .u8 a2, .int .u8 a3, .int .u8 a4, .int .u8 a5, .int .u8 a6, .int .u8 a7], .int .u8 la, .bool true] w fun e w' => e = .returned (.bool true) ∧ Below w.heap.size w w' := by
  have hmk := make9
  obtain ⟨y, Hy⟩ : ∃ y, Hid (y = 48 + -((3 * (a0 % 10) + 7 * (a1 % 10) + a2 % 10 + 3 * (a3 % 10) + 7 * (a4 % 10) + a5 % 10 + 3 * (a6 % 10) + 7 * (a7 % 10)) % 10) % 10) := ⟨_, rfl⟩
  obtain ⟨s, HS⟩ : ∃ s, Hid (s = nine (a0 % 10) (a1 % 10) (a2 % 10) (a3 % 10) (a4 % 10) (a5 % 10) (a6 % 10) (a7 % 10) y) := ⟨_, rfl⟩
  have HV : Hid (Valid s) := by
    have e := HS.out
    subst e
    exact nine_sum _ _ _ _ _ _ _ _ _ (mod10 _) (mod10 _) (mod10 _) (mod10 _) (mod10 _) (mod10 _) (mod10 _) (mod10 _) Hy.out
  have hcv := conv9 ((w.alloc (.cells #[.int .u8 a0, .int .u8 a1, .int .u8 a2, .int .u8 a3, .int .u8 a4, .int .u8 a5, .int .u8 a6, .int .u8 a7] 28)).alloc (.cells #[.int .i64 3, .int .i64 7, .int .i64 1, .int .i64 3, .int .i64 7, .int .i64 1, .int .i64 3, .int .i64 7] 29))
    (w.heap.size + 1 + 1) (by simp) (48 + a0 % 10) (48 + a1 % 10) (48 + a2 % 10) (48 + a3 % 10) (48 + a4 % 10) (48 + a5 % 10) (48 + a6 % 10) (48 + a7 % 10) y
  rw [← nine, ← HS.out, Hy.out] at hcv
  go_enter Ybaf.func4, Ybaf.ntmps4
  go_wp2
  refine wp_loop_rounds 9 ?_
  rw [rounds_succ]; go_wp2
  rw [rounds_succ]; go_wp2
  rw [rounds_succ]; go_wp2
  rw [rounds_succ]; go_wp2
  rw [rounds_succ]; go_wp2
  rw [rounds_succ]; go_wp2
  rw [rounds_succ]; go_wp2
  rw [rounds_succ]; go_wp2
  rw [rounds_succ]
  go_wp2_with (first
    | (go_at_call 5; refine (route_yes _ _ _ HV.out).mono ?_; rintro e w1 ⟨rfl, hb1⟩)
    | (go_at_call 7; refine (valid_any _ _ true ⟨fun _ => HV.out, fun _ => rfl⟩).mono ?_; rintro e w2 ⟨rfl, hb2⟩)
    | (go_at_call 6; refine (ok_yes _ _).mono ?_; rintro e w3 ⟨rfl, rfl⟩))
  go_ret
  refine ⟨rfl, ?_⟩
  have hb3 : Below w.heap.size w w1 := ((((Below.refl _ _).alloc (Nat.le_refl _) _).alloc (by simp) _).alloc (by simp; omega) _).trans (hb1.mono (by simp; omega))
  exact hb3.trans (hb2.mono hb3.size)

set_option maxRecDepth 100000 in
set_option maxHeartbeats 4000000 in
/-- The last digit drawn. -/
theorem dig_last (F : Interp) (key : ByteArray) (a0 a1 a2 a3 a4 a5 a6 a7 la : Int) (w : World) (hF : F.answers w.tape) (hk : ¬ 1024 < (key.size : Int))
    (h0 : 0 ≤ a0 ∧ a0 ≤ 255) (h1 : 0 ≤ a1 ∧ a1 ≤ 255) (h2 : 0 ≤ a2 ∧ a2 ≤ 255) (h3 : 0 ≤ a3 ∧ a3 ≤ 255) (h4 : 0 ≤ a4 ∧ a4 ≤ 255) (h5 : 0 ≤ a5 ∧ a5 ≤ 255) (h6 : 0 ≤ a6 ∧ a6 ≤ 255) (h7 : 0 ≤ a7 ∧ a7 ≤ 255) (hla : 0 ≤ la ∧ la ≤ 255) :
    Calls Ybaf.prog 4 #[.string key, .agg #[.int .u8 a0, .int .u8 a1, .int .u8 a2, .int .u8 a3, .int .u8 a4, .int .u8 a5, .int .u8 a6, .int .u8 a7], .int .u8 la, .bool false] w fun e w' => e = .returned (.bool true) ∧ Below w.heap.size w w' := by
  have hmk := make9
  obtain ⟨s, HS⟩ : ∃ s, Hid (s = nine (a0 % 10) (a1 % 10) (a2 % 10) (a3 % 10) (a4 % 10) (a5 % 10) (a6 % 10) (a7 % 10) (48 + la % 10)) := ⟨_, rfl⟩
  have hcv := conv9 ((w.alloc (.cells #[.int .u8 a0, .int .u8 a1, .int .u8 a2, .int .u8 a3, .int .u8 a4, .int .u8 a5, .int .u8 a6, .int .u8 a7] 28)).alloc (.cells #[.int .i64 3, .int .i64 7, .int .i64 1, .int .i64 3, .int .i64 7, .int .i64 1, .int .i64 3, .int .i64 7] 29))
    (w.heap.size + 1 + 1) (by simp) (48 + a0 % 10) (48 + a1 % 10) (48 + a2 % 10) (48 + a3 % 10) (48 + a4 % 10) (48 + a5 % 10) (48 + a6 % 10) (48 + a7 % 10) (48 + la % 10)
  rw [← nine, ← HS.out] at hcv
  by_cases hv : Valid s
  · have HV : Hid (Valid s) := hv
    clear hv
    go_enter Ybaf.func4, Ybaf.ntmps4
    go_wp2
    refine wp_loop_rounds 9 ?_
    rw [rounds_succ]; go_wp2
    rw [rounds_succ]; go_wp2
    rw [rounds_succ]; go_wp2
    rw [rounds_succ]; go_wp2
    rw [rounds_succ]; go_wp2
    rw [rounds_succ]; go_wp2
    rw [rounds_succ]; go_wp2
    rw [rounds_succ]; go_wp2
    rw [rounds_succ]
    go_wp2_with (first
      | (go_at_call 5; refine (route_yes _ _ _ HV.out).mono ?_; rintro e w1 ⟨rfl, hb1⟩)
      | (go_at_call 7; refine (valid_any _ _ true ⟨fun _ => HV.out, fun _ => rfl⟩).mono ?_; rintro e w2 ⟨rfl, hb2⟩)
      | (go_at_call 6; refine (ok_yes _ _).mono ?_; rintro e w3 ⟨rfl, rfl⟩))
    go_ret
    refine ⟨rfl, ?_⟩
    have hb3 : Below w.heap.size w w1 := ((((Below.refl _ _).alloc (Nat.le_refl _) _).alloc (by simp) _).alloc (by simp; omega) _).trans (hb1.mono (by simp; omega))
    exact hb3.trans (hb2.mono hb3.size)
  · have HV : Hid (¬ Valid s) := hv
    have HF : Hid (false = true ↔ Valid s) := ⟨fun h => absurd h Bool.false_ne_true, fun h => absurd h hv⟩
    clear hv
    go_enter Ybaf.func4, Ybaf.ntmps4
    go_wp2
    refine wp_loop_rounds 9 ?_
    rw [rounds_succ]; go_wp2
    rw [rounds_succ]; go_wp2
    rw [rounds_succ]; go_wp2
    rw [rounds_succ]; go_wp2
    rw [rounds_succ]; go_wp2
    rw [rounds_succ]; go_wp2
    rw [rounds_succ]; go_wp2
    rw [rounds_succ]; go_wp2
    rw [rounds_succ]
    go_wp2_with (first
      | (go_at_call 5; refine (route_no F _ _ _ (by exact hF) HV.out).mono ?_; rintro e w1 ⟨b, u, rfl, hbs, hc0, hc1, hb1⟩)
      | (go_at_call 7; refine (valid_any _ _ false HF).mono ?_; rintro e w2 ⟨rfl, hb2⟩)
      | (go_at_call 6; refine (ok_no _ b u _ ((hb2.cell (by exact hbs)).trans hc0) ((hb2.cell (by exact hbs)).trans hc1)).mono ?_; rintro e w3 ⟨rfl, rfl⟩))
    go_ret
    refine ⟨rfl, ?_⟩
    have hb3 : Below w.heap.size w w1 := ((((Below.refl _ _).alloc (Nat.le_refl _) _).alloc (by simp) _).alloc (by simp; omega) _).trans (hb1.mono (by simp; omega))
    exact hb3.trans (hb2.mono hb3.size)

set_option maxHeartbeats 400000 in
theorem dig_long (key : ByteArray) (a0 a1 a2 a3 a4 a5 a6 a7 la : Int) (fix : Bool) (w : World) (hk : 1024 < (key.size : Int)) :
    Calls Ybaf.prog 4 #[.string key, .agg #[.int .u8 a0, .int .u8 a1, .int .u8 a2, .int .u8 a3, .int .u8 a4, .int .u8 a5, .int .u8 a6, .int .u8 a7], .int .u8 la, .bool fix] w fun e w' => e = .returned (.bool true) ∧ Below w.heap.size w w' := by
  go_enter Ybaf.func4, Ybaf.ntmps4
  go_wp2
  go_ret
  exact ⟨rfl, (Below.refl _ _).alloc (Nat.le_refl _) _⟩

theorem digits_law (F : Interp) (key : ByteArray) (a0 a1 a2 a3 a4 a5 a6 a7 la : Int) (fix : Bool) (w : World) (hF : F.answers w.tape)
    (h0 : 0 ≤ a0 ∧ a0 ≤ 255) (h1 : 0 ≤ a1 ∧ a1 ≤ 255) (h2 : 0 ≤ a2 ∧ a2 ≤ 255) (h3 : 0 ≤ a3 ∧ a3 ≤ 255) (h4 : 0 ≤ a4 ∧ a4 ≤ 255) (h5 : 0 ≤ a5 ∧ a5 ≤ 255) (h6 : 0 ≤ a6 ∧ a6 ≤ 255) (h7 : 0 ≤ a7 ∧ a7 ≤ 255) (hla : 0 ≤ la ∧ la ≤ 255) :
    Calls Ybaf.prog 4 #[.string key, .agg #[.int .u8 a0, .int .u8 a1, .int .u8 a2, .int .u8 a3, .int .u8 a4, .int .u8 a5, .int .u8 a6, .int .u8 a7], .int .u8 la, .bool fix] w fun e w' => e = .returned (.bool true) ∧ Below w.heap.size w w' := by
  by_cases hk : 1024 < (key.size : Int)
  · exact dig_long key a0 a1 a2 a3 a4 a5 a6 a7 la fix w hk
  · cases fix with
    | true => exact dig_fix key a0 a1 a2 a3 a4 a5 a6 a7 la w hk h0 h1 h2 h3 h4 h5 h6 h7
    | false => exact dig_last F key a0 a1 a2 a3 a4 a5 a6 a7 la w hF hk h0 h1 h2 h3 h4 h5 h6 h7 hla

end Go.Proofs.YbulkaxbaFmt
