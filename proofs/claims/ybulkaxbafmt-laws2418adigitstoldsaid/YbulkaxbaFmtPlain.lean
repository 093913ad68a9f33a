/-
  THE PLAIN MATHEMATICS OF THE ROUTING NUMBER: no Go in sight.
-/
namespace Go.Proofs.YbulkaxbaFmt

/-- The weights 3, 7, 1, 3, 7, 1, 3, 7, 1. -/
def wt (k : Nat) : Int := ([3, 7, 1, 3, 7, 1, 3, 7, 1] : List Int).getD k 0
/-- Byte k of the text, as a number (0 behind its end). -/
def byteAt (s : ByteArray) (k : Nat) : Int := ((s.data.toList.getD k 0).toNat : Int)
/-- The first k bytes are ASCII digits. -/
def digs (s : ByteArray) (k : Nat) : Prop := ∀ j, j < k → 48 ≤ byteAt s j ∧ byteAt s j ≤ 57
/-- The weighted sum of the first k bytes less 48. -/
def wsum (s : ByteArray) : Nat → Int
  | 0 => 0
  | k + 1 => wsum s k + wt k * (byteAt s k - 48)
/-- A routing number: nine digits, the weighted sum a multiple of ten. -/
def Valid (s : ByteArray) : Prop := s.size = 9 ∧ digs s 9 ∧ wsum s 9 % 10 = 0

theorem byteAt_eq (s : ByteArray) (k : Nat) (h : k < s.size) : byteAt s k = (s[k].toNat : Int) := by
  unfold byteAt
  have hk : k < s.data.toList.length := by simpa using h
  rw [List.getD_eq_getElem?_getD, List.getElem?_eq_getElem hk]
  rfl

theorem byteAt_bd (s : ByteArray) (k : Nat) : 0 ≤ byteAt s k ∧ byteAt s k ≤ 255 := by
  unfold byteAt
  have := (s.data.toList.getD k 0).toNat_lt
  omega

theorem wt_bd (k : Nat) (h : k < 9) : 1 ≤ wt k ∧ wt k ≤ 7 := by
  match k, h with
  | 0, _ | 1, _ | 2, _ | 3, _ | 4, _ | 5, _ | 6, _ | 7, _ | 8, _ => decide

theorem mul_bd (x d : Int) (hx : 1 ≤ x ∧ x ≤ 7) (hd : 0 ≤ d ∧ d ≤ 9) : 0 ≤ x * d ∧ x * d ≤ 63 := by
  obtain ⟨h1, h2⟩ := hx
  obtain ⟨h3, h4⟩ := hd
  refine ⟨Int.mul_nonneg (by omega) h3, ?_⟩
  calc x * d ≤ 7 * d := Int.mul_le_mul_of_nonneg_right h2 h3
    _ ≤ 63 := by omega

theorem digs_mono {s : ByteArray} {k m : Nat} (h : digs s m) (hk : k ≤ m) : digs s k := fun j hj => h j (by omega)
theorem digs_succ {s : ByteArray} {k : Nat} (h : digs s k) (h1 : 48 ≤ byteAt s k) (h2 : byteAt s k ≤ 57) : digs s (k + 1) := fun j hj => by
  by_cases e : j = k
  · subst e; exact ⟨h1, h2⟩
  · exact h j (by omega)

theorem wsum_bd (s : ByteArray) : ∀ k, k ≤ 9 → digs s k → 0 ≤ wsum s k ∧ wsum s k ≤ 63 * k
  | 0, _, _ => by simp [wsum]
  | k + 1, hk, hd => by
    have ih := wsum_bd s k (by omega) (digs_mono hd (by omega))
    have := mul_bd (wt k) (byteAt s k - 48) (wt_bd k (by omega)) (by have := hd k (by omega); omega)
    simp only [wsum]
    omega

/-- THE LAW: the ninth byte is the check digit just where the whole weighted sum is a multiple of ten. -/
theorem check_iff (s : ByteArray) (h : digs s 9) : byteAt s 8 = 48 + (10 - wsum s 8 % 10) % 10 ↔ wsum s 9 % 10 = 0 := by
  have e : wsum s 9 = wsum s 8 + byteAt s 8 - 48 := by
    show wsum s 8 + wt 8 * (byteAt s 8 - 48) = _
    have : wt 8 = 1 := by decide
    rw [this]; omega
  have h8 := h 8 (by omega)
  have hb := wsum_bd s 8 (by omega) (digs_mono h (by omega))
  rw [e]
  omega

theorem extract_at (s : ByteArray) (k : Nat) (hk : k < 8) (hs : s.size = 9) : byteAt (s.extract 0 8) k = byteAt s k := by
  have h1 : k < (s.extract 0 8).size := by simp [ByteArray.size_extract]; omega
  rw [byteAt_eq _ k h1, byteAt_eq s k (by omega), ByteArray.getElem_extract]
  simp

theorem extract_sum (s : ByteArray) (hs : s.size = 9) : ∀ k, k ≤ 8 → wsum (s.extract 0 8) k = wsum s k
  | 0, _ => rfl
  | k + 1, hk => by simp only [wsum]; rw [extract_sum s hs k (by omega), extract_at s k (by omega) hs]

theorem extract_digs (s : ByteArray) (hs : s.size = 9) (h : digs s 8) : digs (s.extract 0 8) 8 := fun j hj => by
  rw [extract_at s j hj hs]; exact h j hj

end Go.Proofs.YbulkaxbaFmt
