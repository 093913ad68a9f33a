/-
  THE TWO LAWS' WALKS, out of the contracts of unique, zzs2420aexpect, slices.Equal.
-/
import Derived.Test.YbulkaxccExpect
import Derived.Deep.QuietTactic
import Derived.BigQuiet
namespace Go.Proofs.Ybulkaxcc
open Go.RowKit

theorem nodups {xs : List ByteArray} (h : ∀ x ∈ xs, x.size ≤ maxLen) (j : Nat) (hj : j < xs.length) : (xs.getD j ByteArray.empty).size ≤ maxLen := by
  rw [List.getD, List.getElem?_eq_getElem hj]
  exact h _ (List.getElem_mem hj)

theorem unique_any (v : Value) (xs : List ByteArray) (w : World) (hr : Reads w v xs) (hlen : xs.length ≤ 1024) (hws : ∀ x ∈ xs, x.size ≤ maxLen) :
    Calls Yba.prog 5 #[v] w fun e w' => ∃ a cap, e = .returned (.slice a (uniq xs).length cap) ∧ Reads w' (.slice a (uniq xs).length cap) (uniq xs) ∧ Below w.heap.size w w' ∧ (xs = [] → a = none ∧ cap = 0) := by
  obtain ⟨a, cap, rfl, h1⟩ := hr
  by_cases hx : xs = []
  · subst hx
    refine (unique_none a cap w).mono fun e w' ⟨he, hb⟩ => ?_
    exact ⟨none, 0, he, ⟨none, 0, rfl, .inl rfl⟩, hb, fun _ => ⟨rfl, rfl⟩⟩
  · rcases h1 with h1 | ⟨b, off, rfl, hb, hc⟩
    · exact absurd h1 hx
    refine (unique_some b off cap xs w hlen hb hc (nodups hws)).mono fun e w' ⟨v', he, hown, hbl⟩ => ?_
    rw [U_all] at hown
    have hR := Reads.own hown
    obtain ⟨a', cap', hv', h'⟩ := hR
    subst hv'
    exact ⟨a', cap', he, ⟨a', cap', rfl, h'⟩, hbl, fun h => absurd h hx⟩

theorem expect_any (v : Value) (xs : List ByteArray) (w : World) (hr : Reads w v xs) (hlen : xs.length ≤ 1024) :
    Calls Yba.prog 6 #[v] w fun e w' => ∃ a cap, e = .returned (.slice a (uniq xs).length cap) ∧ Reads w' (.slice a (uniq xs).length cap) (uniq xs) ∧ Below w.heap.size w w' := by
  obtain ⟨a, cap, rfl, h1⟩ := hr
  by_cases hx : xs = []
  · subst hx
    refine (expect_none a cap w).mono fun e w' ⟨he, hb⟩ => ?_
    exact ⟨none, 0, he, ⟨none, 0, rfl, .inl rfl⟩, hb⟩
  · rcases h1 with h1 | ⟨b, off, rfl, hb, hc⟩
    · exact absurd h1 hx
    refine (expect_some b off cap xs w hlen hb hc).mono fun e w' ⟨v', he, hown, hbl⟩ => ?_
    rw [U_all] at hown
    have hR := Reads.own hown
    obtain ⟨a', cap', hv', h'⟩ := hR
    subst hv'
    exact ⟨a', cap', he, ⟨a', cap', rfl, h'⟩, hbl⟩

set_option maxHeartbeats 400000 in
theorem first_long (a : Option Addr) (n cap : Nat) (w : World) (hn : 1024 < (n : Int)) : Calls Yba.prog 3 #[.slice a n cap] w fun e w' => e = .returned (.bool true) ∧ Below w.heap.size w w' := by
  go_enter Yba.func3, Yba.ntmps3
  go_wp2
  go_ret
  exact ⟨rfl, Below.refl _ _⟩

set_option maxHeartbeats 800000 in
theorem first_short (a : Option Addr) (n cap : Nat) (xs : List ByteArray) (w : World) (hr : Reads w (.slice a n cap) xs) (hx : xs.length = n) (hlen : n ≤ 1024) (hws : ∀ x ∈ xs, x.size ≤ maxLen) :
    Calls Yba.prog 3 #[.slice a n cap] w fun e w' => e = .returned (.bool true) ∧ Below w.heap.size w w' := by
  have HR : Hid (Reads w (.slice a n cap) xs) := hr
  have HX : Hid (xs.length = n) := hx
  have HW : Hid (∀ x ∈ xs, x.size ≤ maxLen) := hws
  clear hr hx hws
  by_cases h0 : n = 0
  · subst h0
    have hn1 := fun a n c n' c' w => run_neq_slice_nil_any (P := Yba.prog) w 22 9 a n c n' c' Yba.underlying22
    clear HR HX HW
    go_enter Yba.func3, Yba.ntmps3
    go_wp2_with (first
      | (go_at_call 5; refine (unique_none _ _ _).mono ?_; rintro e w1 ⟨rfl, hb1⟩)
      | (go_at_call 6; refine (expect_none _ _ _).mono ?_; rintro e w2 ⟨rfl, hb2⟩)
      | (go_at_call 7; refine (equal_none _ _ _ _ _).mono ?_; rintro e w3 ⟨rfl, q, rfl⟩))
    go_ret
    exact ⟨rfl, below_drewN (hb1.trans (hb2.mono hb1.size)) q⟩
  · have h0' : ((n : Int) == 0) = false := by simpa using h0
    go_enter Yba.func3, Yba.ntmps3
    go_wp2_with (first
      | (go_at_call 5; refine (unique_any _ xs _ HR.out (by have := HX.out; omega) HW.out).mono ?_; rintro e w1 ⟨a1, c1, rfl, hr1, hb1, hn⟩)
      | (go_at_call 6; refine (expect_any _ xs _ (HR.out.below hb1) (by have := HX.out; omega)).mono ?_; rintro e w2 ⟨a2, c2, rfl, hr2, hb2⟩)
      | (go_at_call 7; refine (equal_same _ _ (uniq xs) _ (by have := HX.out; have := uniq_le xs; omega) (hr1.below hb2) hr2).mono ?_; rintro e w3 ⟨rfl, q, rfl⟩))
    go_ret
    exact ⟨rfl, below_drewN (hb1.trans (hb2.mono hb1.size)) q⟩

theorem first_law (a : Option Addr) (n cap : Nat) (xs : List ByteArray) (w : World) (hr : Reads w (.slice a n cap) xs) (hx : xs.length = n) (hws : ∀ x ∈ xs, x.size ≤ maxLen) :
    Calls Yba.prog 3 #[.slice a n cap] w fun e w' => e = .returned (.bool true) ∧ Below w.heap.size w w' := by
  by_cases hn : 1024 < (n : Int)
  · exact first_long a n cap w hn
  · exact first_short a n cap xs w hr hx (by omega) hws

set_option maxHeartbeats 400000 in
theorem idem_long (a : Option Addr) (n cap : Nat) (w : World) (hn : 1024 < (n : Int)) : Calls Yba.prog 4 #[.slice a n cap] w fun e w' => e = .returned (.bool true) ∧ Below w.heap.size w w' := by
  go_enter Yba.func4, Yba.ntmps4
  go_wp2
  go_ret
  exact ⟨rfl, Below.refl _ _⟩

set_option maxHeartbeats 400000 in
theorem idem_none (a : Option Addr) (cap : Nat) (w : World) : Calls Yba.prog 4 #[.slice a 0 cap] w fun e w' => e = .returned (.bool true) ∧ Below w.heap.size w w' := by
  go_enter Yba.func4, Yba.ntmps4
  go_wp2_with fail
  refine (unique_none _ _ _).mono ?_
  rintro e w1 ⟨rfl, hb1⟩
  go_wp2_with fail
  refine (unique_none _ _ _).mono ?_
  rintro e w2 ⟨rfl, hb2⟩
  go_wp2_with fail
  refine (equal_none _ _ _ _ _).mono ?_
  rintro e w3 ⟨rfl, q, rfl⟩
  go_wp2_with fail
  go_ret
  exact ⟨rfl, below_drewN (hb1.trans (hb2.mono hb1.size)) q⟩

/-- The first cell of a slice that is not empty. -/
theorem Reads.first {w : World} {a : Option Addr} {n cap : Nat} {x : ByteArray} {r : List ByteArray} (h : Reads w (.slice a n cap) (x :: r)) : ∃ b off, a = some ⟨b, off, none⟩ ∧ b < w.heap.size ∧ w.cell? ⟨b, off, none⟩ = some (.string x) := by
  obtain ⟨a', cap', e, h1⟩ := h
  simp only [Value.slice.injEq] at e
  obtain ⟨rfl, _, _⟩ := e
  rcases h1 with h1 | ⟨b, off, rfl, hb, hc⟩
  · exact absurd h1 (by simp)
  · exact ⟨b, off, rfl, hb, by simpa using hc 0 (by simp)⟩

set_option maxRecDepth 100000 in
set_option maxHeartbeats 800000 in
theorem idem_some (a : Option Addr) (cap : Nat) (x : ByteArray) (xs : List ByteArray) (w : World) (hr : Reads w (.slice a (xs.length + 1) cap) (x :: xs)) (hlen : xs.length + 1 ≤ 1024) (hws : ∀ y ∈ x :: xs, y.size ≤ maxLen) :
    Calls Yba.prog 4 #[.slice a (xs.length + 1) cap] w fun e w' => e = .returned (.bool true) ∧ Below w.heap.size w w' := by
  obtain ⟨b, off, rfl, hb, hc0⟩ := hr.first
  obtain ⟨r, HU⟩ : ∃ r, Hid (uniq (x :: xs) = x :: r) := uniq_head x xs
  have hlr : r.length ≤ xs.length := by
    have := uniq_le (x :: xs)
    rw [HU.out] at this
    simpa using this
  have HR : Hid (Reads w (.slice (some ⟨b, off, none⟩) (xs.length + 1) cap) (x :: xs)) := hr
  have HW : Hid (∀ y ∈ x :: xs, y.size ≤ maxLen) := hws
  have HW2 : Hid (∀ y ∈ x :: r, y.size ≤ maxLen) := fun y hy => hws y ((mem_uniq _ _).1 (by rw [HU.out]; exact hy))
  have HI : Hid (uniq (x :: r) = x :: r) := by
    have := uniq_uniq (x :: xs)
    rw [HU.out] at this
    exact this
  have c1 := fun w hr => unique_any (.slice (some ⟨b, off, none⟩) (xs.length + 1) cap) (x :: xs) w hr hlen HW.out
  rw [HU.out] at c1
  have C1 : Hid _ := c1
  have c2 := fun v w hr => unique_any v (x :: r) w hr (by simp; omega) HW2.out
  rw [HI.out] at c2
  have C2 : Hid _ := c2
  clear hr hws c1 c2
  go_enter Yba.func4, Yba.ntmps4
  go_wp2_with fail
  refine (C1.out _ HR.out).mono ?_
  rintro e w1 ⟨a1, cap1, rfl, hr1, hb1, _⟩
  obtain ⟨b1, o1, rfl, hb1l, hc1⟩ := hr1.first
  have HR1 : Hid (Reads w1 (.slice (some ⟨b1, o1, none⟩) (x :: r).length cap1) (x :: r)) := hr1
  clear hr1
  go_wp2_with fail
  refine (C2.out _ _ HR1.out).mono ?_
  rintro e w2 ⟨a2, cap2, rfl, hr2, hb2, _⟩
  have HR2 : Hid (Reads w2 (.slice a2 (x :: r).length cap2) (x :: r)) := hr2
  clear hr2
  go_wp2_with fail
  refine (equal_same _ _ (x :: r) _ (by simp; omega) (HR1.out.below hb2) HR2.out).mono ?_
  rintro e w3 ⟨rfl, q, rfl⟩
  have hc0' : w2.cell? ⟨b, off, none⟩ = some (.string x) := by rw [hb2.cell (by have := hb1.size; simp; omega), hb1.cell (by exact hb)]; exact hc0
  have hc1' : w2.cell? ⟨b1, o1, none⟩ = some (.string x) := by rw [hb2.cell (by exact hb1l)]; exact hc1
  have hbb := hb1.trans (hb2.mono hb1.size)
  clear hc0 hc1
  go_wp2_with fail
  have hg0 : (((r.length : Int) + 1) == 0) = false := by rw [beq_eq_false_iff_ne]; omega
  have hg1 : (0 : Int) < (r.length : Int) + 1 := by omega
  have hg2 : (0 : Int) < (xs.length : Int) + 1 := by omega
  go_quiet (fail)
  go_wp2
  go_ret
  exact ⟨rfl, below_drewN (below_drewN hbb q) _⟩

end Go.Proofs.Ybulkaxcc
