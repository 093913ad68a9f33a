/-
  checkRouting, zzs2418aok WALKED, out of the contracts of what they call.
-/
import Derived.Test.YbulkaxbaFmtWalks
import Derived.Test.YbulkaxbaFmtErr
namespace Go.Proofs.YbulkaxbaFmt
open Go.RowKit Go.Extern.Stop Go.Stop Go.Extern

/-- The call returns a *FieldError that is new, whose Field is the key and whose Err is not nil. -/
def Refused (key : ByteArray) (w : World) (e : Ending) (w' : World) : Prop :=
  ∃ b u, e = .returned (.iface 34 (.pointer (some ⟨b, 0, none⟩))) ∧ b < w'.heap.size ∧ w'.cell? ⟨b, 0, none⟩ = some (.string key) ∧ w'.cell? ⟨b, 1, none⟩ = some (.iface 43 (.pointer (some u))) ∧ Below w.heap.size w w'

set_option maxHeartbeats 400000 in
/-- checkRouting at a routing number: nil. -/
theorem route_yes (key s : ByteArray) (w : World) (hv : Valid s) :
    Calls Ybaf.prog 5 #[.string key, .string s] w fun e w' => e = .returned .nilIface ∧ Below w.heap.size w w' := by
  obtain ⟨hs, hd, hm⟩ := hv
  have hx : (s.extract 0 8).size = 8 := by simp [ByteArray.size_extract]; omega
  have HC : Hid ((s[8]'(by omega)).toNat = 48 + (10 - wsum s 8 % 10) % 10) := by
    have := (check_iff s hd).2 hm
    rw [byteAt_eq s 8 (by omega)] at this
    exact this
  have HD : Hid (digs s 9) := hd
  have HX : Hid ((s.extract 0 8).size = 8) := hx
  have HS : Hid (s.size = 9) := hs
  have hs8 : 8 < s.size := by omega
  have hneq : ((((s[8]'hs8).toNat : Int)) != 48 + (10 - wsum (s.extract 0 8) 8 % 10) % 10) = false := by
    rw [extract_sum s hs 8 (Nat.le_refl _)]
    simpa using HC.out
  clear hd hx hm HC
  go_enter Ybaf.func5, Ybaf.ntmps5
  go_wp2_with (first | (go_at_call 8; refine (digits_yes _ _ HS.out HD.out).mono ?_; rintro e w' ⟨rfl, rfl⟩) | (go_at_call 10; refine (digit_eight _ _ HX.out (extract_digs s HS.out (digs_mono HD.out (by omega)))).mono ?_; rintro e w' ⟨rfl, hb⟩))
  go_ret
  exact ⟨rfl, hb⟩

/-- FieldErrorf's end behind the variadic block, as the law wants it. -/
theorem refused_of {key t : ByteArray} {w W : World} (o : Obj) (hb : Below w.heap.size w W) :
    Refused key w (.returned (.iface 34 (.pointer (some ⟨W.heap.size + 1 + 1, 0, none⟩)))) (((W.alloc o).alloc (.cells #[.string t] 45)).alloc (.cells #[.string key, .iface 43 (.pointer (some ⟨W.heap.size + 1, 0, none⟩))] 37)).drew := by
  have hz := hb.size
  refine ⟨W.heap.size + 1 + 1, ⟨W.heap.size + 1, 0, none⟩, rfl, ?_, ?_, ?_, ?_⟩
  · simp [go_sem]
  · simp [go_sem]
  · simp [go_sem]
  · exact (((hb.alloc hb.size _).alloc (by simp; omega) _).alloc (by simp; omega) _).drew

set_option maxHeartbeats 400000 in
theorem route_len (F : Interp) (key s : ByteArray) (w : World) (hF : F.answers w.tape) (hs : ¬ (s.size : Int) = 9) :
    Calls Ybaf.prog 5 #[.string key, .string s] w (Refused key w) := by
  go_enter Ybaf.func5, Ybaf.ntmps5
  go_wp2_with (first | (go_at_call 9; refine (fe_A F key s _ (by exact hF) w.heap.size (by simp [go_sem])).mono ?_; rintro e w' ⟨t, rfl, rfl⟩))
  go_ret
  exact refused_of _ (Below.refl _ _)

set_option maxHeartbeats 400000 in
theorem route_digs (F : Interp) (key s : ByteArray) (w : World) (hF : F.answers w.tape) (hs : s.size = 9) (hd : ¬ digs s 9) :
    Calls Ybaf.prog 5 #[.string key, .string s] w (Refused key w) := by
  have HD : Hid (¬ digs s 9) := hd
  have HS : Hid (s.size = 9) := hs
  clear hd
  go_enter Ybaf.func5, Ybaf.ntmps5
  go_wp2_with (first | (go_at_call 8; refine (digits_no _ _ HS.out HD.out).mono ?_; rintro e w' ⟨rfl, rfl⟩) | (go_at_call 9; refine (fe_A F key s _ (by exact hF) _ (by simp [go_sem])).mono ?_; rintro e w' ⟨t, rfl, rfl⟩))
  go_ret
  exact refused_of _ (Below.refl _ _)

set_option maxHeartbeats 400000 in
theorem route_sum (F : Interp) (key s : ByteArray) (w : World) (hF : F.answers w.tape) (hs : s.size = 9) (hd : digs s 9) (hm : ¬ wsum s 9 % 10 = 0) :
    Calls Ybaf.prog 5 #[.string key, .string s] w (Refused key w) := by
  have hx : (s.extract 0 8).size = 8 := by simp [ByteArray.size_extract]; omega
  have hs8 : 8 < s.size := by omega
  have HD : Hid (digs s 9) := hd
  have HX : Hid ((s.extract 0 8).size = 8) := hx
  have HS : Hid (s.size = 9) := hs
  have hneq : ¬ ((s[8]'hs8).toNat : Int) = 48 + -(wsum (s.extract 0 8) 8 % 10) % 10 := by
    rw [extract_sum s hs 8 (Nat.le_refl _)]
    intro h
    refine hm ((check_iff s hd).1 ?_)
    rw [byteAt_eq s 8 (by omega)]
    have := wsum_bd s 8 (by omega) (digs_mono hd (by omega))
    omega
  clear hd hx hm
  have hwb := wsum_bd (s.extract 0 8) 8 (by omega) (extract_digs s HS.out (digs_mono HD.out (by omega)))
  have hF' : F.answers w.tape := hF
  go_enter Ybaf.func5, Ybaf.ntmps5
  go_wp2_with (first | (go_at_call 8; refine (digits_yes _ _ HS.out HD.out).mono ?_; rintro e w' ⟨rfl, rfl⟩) | (go_at_call 10; refine (digit_eight _ _ HX.out (extract_digs s HS.out (digs_mono HD.out (by omega)))).mono ?_; rintro e w1 ⟨rfl, hb⟩))
  refine (fe_B F key s ((s[8]'hs8).toNat : Int) (48 + -(wsum (s.extract 0 8) 8 % 10) % 10) _ (by show F.answers w1.tape; rw [hb.tape]; exact hF') w1.heap.size (by simp [go_sem]) (by simp [go_sem]) (by simp [go_sem])).mono ?_
  rintro e w2 ⟨t, rfl, rfl⟩
  go_wp2_with fail
  go_ret
  exact refused_of _ hb

theorem route_no (F : Interp) (key s : ByteArray) (w : World) (hF : F.answers w.tape) (hv : ¬ Valid s) :
    Calls Ybaf.prog 5 #[.string key, .string s] w (Refused key w) := by
  by_cases hs : s.size = 9
  · by_cases hd : digs s 9
    · exact route_sum F key s w hF hs hd fun h => hv ⟨hs, hd, h⟩
    · exact route_digs F key s w hF hs hd
  · exact route_len F key s w hF (by omega)

/-- zzs2418avalid, at every string. -/
theorem valid_any (s : ByteArray) (w : World) (v : Bool) (HV : Hid (v = true ↔ Valid s)) :
    Calls Ybaf.prog 7 #[.string s] w fun e w' => e = .returned (.bool v) ∧ Below w.heap.size w w' := by
  by_cases hs : s.size = 9
  · exact valid_nine s w hs v HV
  · have e : false = v := no_of HV.out fun h => hs h.1
    subst e
    exact valid_len s w (by omega)

set_option maxHeartbeats 400000 in
theorem ok_yes (key : ByteArray) (w : World) :
    Calls Ybaf.prog 6 #[.string key, .nilIface, .bool true] w fun e w' => e = .returned (.bool true) ∧ w' = w := by
  go_enter Ybaf.func6, Ybaf.ntmps6
  go_wp2
  go_ret
  exact ⟨rfl, rfl⟩

/-- err.(*FieldError) of a *FieldError. -/
theorem assert34 (a : Addr) (w : World) : (Instr.typeAssert (.iface 34 (.pointer (some a))) 23 34 true).run Ybaf.prog w = .ok (.tuple #[.pointer (some a), .bool true]) w := by kernel_rfl

set_option maxHeartbeats 400000 in
theorem ok_no (key : ByteArray) (b : Nat) (u : Addr) (w : World) (h0 : w.cell? ⟨b, 0, none⟩ = some (.string key)) (h1 : w.cell? ⟨b, 1, none⟩ = some (.iface 43 (.pointer (some u)))) :
    Calls Ybaf.prog 6 #[.string key, .iface 34 (.pointer (some ⟨b, 0, none⟩)), .bool false] w fun e w' => e = .returned (.bool true) ∧ w' = w := by
  have hta := assert34
  go_enter Ybaf.func6, Ybaf.ntmps6
  go_wp2
  go_ret
  exact ⟨rfl, rfl⟩

set_option maxHeartbeats 400000 in
/-- THE LAW's WALK: LawS2418AString returns true. -/
theorem string_law (F : Interp) (key s : ByteArray) (w : World) (hF : F.answers w.tape) :
    Calls Ybaf.prog 3 #[.string key, .string s] w fun e w' => e = .returned (.bool true) ∧ Below w.heap.size w w' := by
  by_cases h1 : 1024 < (s.size : Int)
  · go_enter Ybaf.func3, Ybaf.ntmps3
    go_wp2
    go_ret
    exact ⟨rfl, Below.refl _ _⟩
  by_cases h2 : 1024 < (key.size : Int)
  · go_enter Ybaf.func3, Ybaf.ntmps3
    go_wp2
    go_ret
    exact ⟨rfl, Below.refl _ _⟩
  by_cases hv : Valid s
  · have HV : Hid (Valid s) := hv
    clear hv
    go_enter Ybaf.func3, Ybaf.ntmps3
    go_wp2_with (first
      | (go_at_call 5; refine (route_yes _ _ _ HV.out).mono ?_; rintro e w1 ⟨rfl, hb1⟩)
      | (go_at_call 7; refine (valid_any _ _ true ⟨fun _ => HV.out, fun _ => rfl⟩).mono ?_; rintro e w2 ⟨rfl, hb2⟩)
      | (go_at_call 6; refine (ok_yes _ _).mono ?_; rintro e w3 ⟨rfl, rfl⟩))
    go_ret
    exact ⟨rfl, hb1.trans (hb2.mono hb1.size)⟩
  · have HV : Hid (¬ Valid s) := hv
    have HF : Hid (false = true ↔ Valid s) := ⟨fun h => absurd h Bool.false_ne_true, fun h => absurd h hv⟩
    clear hv
    go_enter Ybaf.func3, Ybaf.ntmps3
    go_wp2_with (first
      | (go_at_call 5; refine (route_no F _ _ _ hF HV.out).mono ?_; rintro e w1 ⟨b, u, rfl, hbs, hc0, hc1, hb1⟩)
      | (go_at_call 7; refine (valid_any _ _ false HF).mono ?_; rintro e w2 ⟨rfl, hb2⟩)
      | (go_at_call 6; refine (ok_no _ b u _ ((hb2.cell (by exact hbs)).trans hc0) ((hb2.cell (by exact hbs)).trans hc1)).mono ?_; rintro e w3 ⟨rfl, rfl⟩))
    go_ret
    exact ⟨rfl, hb1.trans (hb2.mono hb1.size)⟩

end Go.Proofs.YbulkaxbaFmt
