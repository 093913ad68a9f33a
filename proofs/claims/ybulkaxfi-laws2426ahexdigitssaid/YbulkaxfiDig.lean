/-
  LawS2426AHexDigits WALKED.
-/
import Derived.Test.YbulkaxfiEnc
import Derived.Deep.LoopGhost
import Derived.WalkSmall
namespace Go.Proofs.Ybulkaxfi
open Go.RowKit Go.Lib

theorem text_size (g : Nat → Int) : (text g).size = 32 := by
  show (Hx.encode (Lib.bytesOf (lst g))).toArray.size = 32
  simp [Hx.encode_length, Lib.bytesOf_length, lst_length]

theorem text_hi (g : Nat → Int) (k : Nat) (hk : k < 16) (h0 : 0 ≤ g k) (h1 : g k < 256) (h : 2 * k < (text g).size) (ht : (g k / 16).toNat < Hx.tab.size) : (text g)[2 * k] = Hx.tab[(g k / 16).toNat] := by
  have e := (Hx.encode_at (Lib.bytesOf (lst g)) k _ (Hx.bytes_at (lst g) k (by rw [lst_length]; exact hk))).1
  rw [lst_at g k hk] at e
  have e1 := Hx.dig_hi (g k) h0 h1 ht
  have e2 : (text g)[2 * k] = Hx.digit ((UInt8.ofNat (g k).toNat).toNat / 16) := by
    show (Hx.encode (Lib.bytesOf (lst g))).toArray[2 * k] = _
    have : (Hx.encode (Lib.bytesOf (lst g)))[2 * k]? = some ((Hx.encode (Lib.bytesOf (lst g)))[2 * k]'(by exact h)) := List.getElem?_eq_getElem _
    rw [this] at e
    exact Option.some.inj e
  rw [e2]
  apply UInt8.toNat_inj.1
  omega

theorem text_lo (g : Nat → Int) (k : Nat) (hk : k < 16) (h0 : 0 ≤ g k) (h1 : g k < 256) (h : 2 * k + 1 < (text g).size) (ht : (g k % 16).toNat < Hx.tab.size) : (text g)[2 * k + 1] = Hx.tab[(g k % 16).toNat] := by
  have e := (Hx.encode_at (Lib.bytesOf (lst g)) k _ (Hx.bytes_at (lst g) k (by rw [lst_length]; exact hk))).2
  rw [lst_at g k hk] at e
  have e1 := Hx.dig_lo (g k) h0 h1 ht
  have e2 : (text g)[2 * k + 1] = Hx.digit ((UInt8.ofNat (g k).toNat).toNat % 16) := by
    show (Hx.encode (Lib.bytesOf (lst g))).toArray[2 * k + 1] = _
    have : (Hx.encode (Lib.bytesOf (lst g)))[2 * k + 1]? = some ((Hx.encode (Lib.bytesOf (lst g)))[2 * k + 1]'(by exact h)) := List.getElem?_eq_getElem _
    rw [this] at e
    exact Option.some.inj e
  rw [e2]
  apply UInt8.toNat_inj.1
  omega

theorem byte_hi {g : Nat → Int} {s : ByteArray} (hs : s = text g) {k : Nat} (hk : k < 16) {x : Int} (h0 : 0 ≤ x) (h1 : x < 256) (hx : x = g k) (i : Nat) (hi : i = 2 * k) (h : i < s.size) (ht : (x / 16).toNat < Hx.tab.size) : s[i] = Hx.tab[(x / 16).toNat] := by
  subst hs hi hx
  exact text_hi g k hk h0 h1 h ht
theorem byte_lo {g : Nat → Int} {s : ByteArray} (hs : s = text g) {k : Nat} (hk : k < 16) {x : Int} (h0 : 0 ≤ x) (h1 : x < 256) (hx : x = g k) (i : Nat) (hi : i = 2 * k + 1) (h : i < s.size) (ht : (x % 16).toNat < Hx.tab.size) : s[i] = Hx.tab[(x % 16).toNat] := by
  subst hs hi hx
  exact text_lo g k hk h0 h1 h ht

set_option maxHeartbeats 1000000 in
set_option maxRecDepth 100000 in
theorem digits_law (g : Nat → Int) (w : World) (hr : ∀ i, i < 16 → 0 ≤ g i ∧ g i < 256) :
    Calls Yba.prog 3 #[.agg #[.int .u8 (g 0), .int .u8 (g 1), .int .u8 (g 2), .int .u8 (g 3), .int .u8 (g 4), .int .u8 (g 5), .int .u8 (g 6), .int .u8 (g 7), .int .u8 (g 8), .int .u8 (g 9), .int .u8 (g 10), .int .u8 (g 11), .int .u8 (g 12), .int .u8 (g 13), .int .u8 (g 14), .int .u8 (g 15)]] w fun e w' => e = .returned (.bool true) ∧ Below w.heap.size w w' := by
  have HR : Hid (∀ i, i < 16 → 0 ≤ g i ∧ g i < 256) := hr
  have HC : Hid (∀ i, i < 16 → (w.alloc (.cells #[.int .u8 (g 0), .int .u8 (g 1), .int .u8 (g 2), .int .u8 (g 3), .int .u8 (g 4), .int .u8 (g 5), .int .u8 (g 6), .int .u8 (g 7), .int .u8 (g 8), .int .u8 (g 9), .int .u8 (g 10), .int .u8 (g 11), .int .u8 (g 12), .int .u8 (g 13), .int .u8 (g 14), .int .u8 (g 15)] 22)).cell? ⟨w.heap.size, i, none⟩ = some (.int .u8 (g i))) := cells16 g 22 w
  obtain ⟨s, Hs⟩ : ∃ s, Hid (s = text g) := ⟨_, rfl⟩
  have hsz : s.size = 32 := by rw [Hs.out]; exact text_size g
  clear hr
  go_enter Yba.func3, Yba.ntmps3
  go_wp2_with (first | (go_at_call 4; refine (string16 g s Hs _ HR.out).mono ?_; rintro e w1 ⟨rfl, hb1⟩))
  have HC1 : Hid (∀ i, i < 16 → w1.cell? ⟨w.heap.size, i, none⟩ = some (.int .u8 (g i))) := fun i hi => (hb1.cell (by simp)).trans (HC.out i hi)
  have HB : Hid (Below w.heap.size w w1) := ((Below.refl _ w).alloc (Nat.le_refl _) _).trans (hb1.mono (by simp))
  clear hb1
  go_loopg [4] 16 (fun gg i wr => ∃ k q : Nat, k ≤ 16 ∧ 16 - k ≤ gg ∧ i = .int .i64 k ∧ wr = w1.drewN q)
  case atStart => exact ⟨0, 0, by omega, by omega, rfl, rfl⟩
  case round =>
    obtain ⟨k, q, hk, hgg, rfl, rfl⟩ := hrel
    by_cases hlt : k < 16
    · have hcx := HC1.out k hlt
      obtain ⟨hx0, hx1⟩ := HR.out k hlt
      have hi1 : 2 * k < s.size := by omega
      have hi2 : 2 * k + 1 < s.size := by omega
      have hw1 : IntKind.i64.wrap (2 * (k : Int)) = 2 * (k : Int) := by rw [IntKind.wrap_i64]; omega
      have hw2 : IntKind.i64.wrap (2 * (k : Int) + 1) = 2 * (k : Int) + 1 := by rw [IntKind.wrap_i64]; omega
      have b1 : (0 : Int) ≤ 2 * (k : Int) := by omega
      have b2 : 2 * (k : Int) < 32 := by omega
      have b3 : (0 : Int) ≤ 2 * (k : Int) + 1 := by omega
      have b4 : 2 * (k : Int) + 1 < 32 := by omega
      obtain ⟨x, hx⟩ : ∃ x, x = g k := ⟨_, rfl⟩
      rw [← hx] at hcx hx0 hx1
      have HX : Hid (x = g k) := hx
      clear hx
      have b5 : (0 : Int) ≤ x / 16 := by omega
      have b6 : x / 16 < 16 := by omega
      have b7 : (0 : Int) ≤ x % 16 := by omega
      have b8 : x % 16 < 16 := by omega
      have b9 : (0 : Int) ≤ (k : Int) := by omega
      have b10 : (k : Int) < 16 := by omega
      have p1 : (2 * (k : Int)).toNat < s.size := by omega
      have p2 : (2 * (k : Int) + 1).toNat < s.size := by omega
      have p3 : (x / 16).toNat < (⟨#[48, 49, 50, 51, 52, 53, 54, 55, 56, 57, 97, 98, 99, 100, 101, 102]⟩ : ByteArray).size := by show _ < 16; omega
      have p4 : (x % 16).toNat < (⟨#[48, 49, 50, 51, 52, 53, 54, 55, 56, 57, 97, 98, 99, 100, 101, 102]⟩ : ByteArray).size := by show _ < 16; omega
      obtain ⟨c1, t1⟩ : ∃ c1, (⟨#[48, 49, 50, 51, 52, 53, 54, 55, 56, 57, 97, 98, 99, 100, 101, 102]⟩ : ByteArray)[(x / 16).toNat]'p3 = c1 := ⟨_, rfl⟩
      obtain ⟨c2, t2⟩ : ∃ c2, (⟨#[48, 49, 50, 51, 52, 53, 54, 55, 56, 57, 97, 98, 99, 100, 101, 102]⟩ : ByteArray)[(x % 16).toNat]'p4 = c2 := ⟨_, rfl⟩
      have s1 : s[(2 * (k : Int)).toNat]'p1 = c1 := by
        rw [← t1]
        exact byte_hi Hs.out hlt hx0 hx1 HX.out _ (by omega) _ _
      have s2 : s[(2 * (k : Int) + 1).toNat]'p2 = c2 := by
        rw [← t2]
        exact byte_lo Hs.out hlt hx0 hx1 HX.out _ (by omega) _ _
      go_wp2_with fail
      go_quiet (fail)
      go_wp2
      go_roundg (16 - (k + 1))
      case measure => omega
      case rel => exact ⟨k + 1, _, by omega, by omega, by go_num, rfl⟩
    · go_wp2
      go_ret
      exact ⟨rfl, below_drewN HB.out q⟩

end Go.Proofs.Ybulkaxfi
