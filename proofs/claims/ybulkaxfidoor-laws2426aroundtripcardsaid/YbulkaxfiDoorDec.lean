/-
  lowerhex.Digit, lowerhex.Decode (at the text that String writes), (TraceID).IsValid WALKED.
-/
import Derived.Test.YbulkaxfiDoorEq
import Derived.Deep.LoopGhost
import Derived.WalkSmall
namespace Go.Proofs.YbulkaxfiDoor
open Go.RowKit Go.Lib

theorem text_size (g : Nat → Int) : (text g).size = 32 := by
  show (Hx.encode (Lib.bytesOf (lst g))).toArray.size = 32
  simp [Hx.encode_length, Lib.bytesOf_length, lst_length]

theorem text_hi (g : Nat → Int) (k : Nat) (hk : k < 16) (h0 : 0 ≤ g k) (h1 : g k < 256) (h : 2 * k < (text g).size) (ht : (g k / 16).toNat < Hx.tab.size) : (text g)[2 * k] = Hx.tab[(g k / 16).toNat] := by
  have e := (Hx.encode_at (Lib.bytesOf (lst g)) k _ (Hx.bytes_at (lst g) k (by rw [lst_length]; exact hk))).1
  rw [lst_at g k hk] at e
  have e1 := Hx.dig_hi (g k) h0 h1 ht
  have e2 : (text g)[2 * k] = Hx.digit ((UInt8.ofNat (g k).toNat).toNat / 16) := by
    show (Hx.encode (Lib.bytesOf (lst g))).toArray[2 * k] = _
    have : (Hx.encode (Lib.bytesOf (lst g)))[2 * k]? = some ((Hx.encode (Lib.bytesOf (lst g)))[2 * k]'(by exact h)) := List.getElem?_eq_getElem _
    rw [this] at e
    exact Option.some.inj e
  rw [e2]
  apply UInt8.toNat_inj.1
  omega

theorem text_lo (g : Nat → Int) (k : Nat) (hk : k < 16) (h0 : 0 ≤ g k) (h1 : g k < 256) (h : 2 * k + 1 < (text g).size) (ht : (g k % 16).toNat < Hx.tab.size) : (text g)[2 * k + 1] = Hx.tab[(g k % 16).toNat] := by
  have e := (Hx.encode_at (Lib.bytesOf (lst g)) k _ (Hx.bytes_at (lst g) k (by rw [lst_length]; exact hk))).2
  rw [lst_at g k hk] at e
  have e1 := Hx.dig_lo (g k) h0 h1 ht
  have e2 : (text g)[2 * k + 1] = Hx.digit ((UInt8.ofNat (g k).toNat).toNat % 16) := by
    show (Hx.encode (Lib.bytesOf (lst g))).toArray[2 * k + 1] = _
    have : (Hx.encode (Lib.bytesOf (lst g)))[2 * k + 1]? = some ((Hx.encode (Lib.bytesOf (lst g)))[2 * k + 1]'(by exact h)) := List.getElem?_eq_getElem _
    rw [this] at e
    exact Option.some.inj e
  rw [e2]
  apply UInt8.toNat_inj.1
  omega

theorem byte_hi {g : Nat → Int} {s : ByteArray} (hs : s = text g) {k : Nat} (hk : k < 16) {x : Int} (h0 : 0 ≤ x) (h1 : x < 256) (hx : x = g k) (i : Nat) (hi : i = 2 * k) (h : i < s.size) (ht : (x / 16).toNat < Hx.tab.size) : s[i] = Hx.tab[(x / 16).toNat] := by
  subst hs hi hx
  exact text_hi g k hk h0 h1 h ht
theorem byte_lo {g : Nat → Int} {s : ByteArray} (hs : s = text g) {k : Nat} (hk : k < 16) {x : Int} (h0 : 0 ≤ x) (h1 : x < 256) (hx : x = g k) (i : Nat) (hi : i = 2 * k + 1) (h : i < s.size) (ht : (x % 16).toNat < Hx.tab.size) : s[i] = Hx.tab[(x % 16).toNat] := by
  subst hs hi hx
  exact text_lo g k hk h0 h1 h ht

/-- A hex digit's sign and its value. -/
def IsDig (c d : Int) : Prop := (48 ≤ c ∧ c ≤ 57 ∧ d = c - 48) ∨ (97 ≤ c ∧ c ≤ 102 ∧ d = c - 87)

theorem tab_digits : ∀ d : Fin 16, (48 ≤ ((Hx.tab[d.val]'d.isLt).toNat : Int) ∧ ((Hx.tab[d.val]'d.isLt).toNat : Int) ≤ 57 ∧ (d.val : Int) = ((Hx.tab[d.val]'d.isLt).toNat : Int) - 48) ∨ (97 ≤ ((Hx.tab[d.val]'d.isLt).toNat : Int) ∧ ((Hx.tab[d.val]'d.isLt).toNat : Int) ≤ 102 ∧ (d.val : Int) = ((Hx.tab[d.val]'d.isLt).toNat : Int) - 87) := by decide +kernel

theorem tab_dig (d : Int) (h0 : 0 ≤ d) (h1 : d < 16) (h : d.toNat < Hx.tab.size) : IsDig ((Hx.tab[d.toNat]'h).toNat : Int) d := by
  have := tab_digits ⟨d.toNat, by omega⟩
  have e : ((d.toNat : Nat) : Int) = d := by omega
  simp only [e] at this
  exact this

theorem ret_pair {q : IntKind} {a b : Int} {v : Value} (h : a = b) : Ending.returned (.tuple #[.int q a, v]) = .returned (.tuple #[.int q b, v]) := by rw [h]

set_option maxHeartbeats 400000 in
theorem digit_any (c d : Int) (h : IsDig c d) (w : World) : Calls Ybad.prog 9 #[.int .u8 c] w fun e w' => e = .returned (.tuple #[.int .u8 d, .bool true]) ∧ w' = w := by
  rcases h with ⟨h1, h2, rfl⟩ | ⟨h1, h2, rfl⟩
  · go_enter Ybad.func9, Ybad.ntmps9
    go_wp2
    go_ret2
    exact ⟨rfl, rfl⟩
  · have h3 : ¬ c ≤ 57 := by omega
    have h4 : 48 ≤ c := by omega
    go_enter Ybad.func9, Ybad.ntmps9
    go_wp2
    go_ret2
    exact ⟨ret_pair (by omega), rfl⟩

theorem or_all : ∀ x : Fin 256, bits BinOp.or IntKind.u8 ((x.val : Int) / 16 * 16) ((x.val : Int) % 16) = (x.val : Int) := by decide +kernel
theorem or_bits (x : Int) (h0 : 0 ≤ x) (h1 : x < 256) : bits BinOp.or IntKind.u8 (x / 16 * 16) (x % 16) = x := by
  have := or_all ⟨x.toNat, by omega⟩
  have e : ((x.toNat : Nat) : Int) = x := by omega
  simpa only [e] using this

/-- The first k bytes written, the rest zero. -/
def pre (g : Nat → Int) (k : Nat) : Array Value := ((List.range 16).map fun i => Value.int .u8 (if i < k then g i else 0)).toArray

theorem pre_zero (g : Nat → Int) : pre g 0 = #[.int .u8 0, .int .u8 0, .int .u8 0, .int .u8 0, .int .u8 0, .int .u8 0, .int .u8 0, .int .u8 0, .int .u8 0, .int .u8 0, .int .u8 0, .int .u8 0, .int .u8 0, .int .u8 0, .int .u8 0, .int .u8 0] := rfl
theorem pre_all (g : Nat → Int) : pre g 16 = arr g := rfl
theorem pre_size (g : Nat → Int) (k : Nat) : (pre g k).size = 16 := by simp [pre]
theorem pre_at (g : Nat → Int) (k : Nat) (hk : k < 16) : (pre g k)[k]? = some (.int .u8 0) := by simp [pre, hk]
theorem pre_step (g : Nat → Int) (k : Nat) : (pre g k).setIfInBounds k (.int .u8 (g k)) = pre g (k + 1) := by
  apply Array.ext_getElem?
  intro i
  rw [Array.getElem?_setIfInBounds]
  by_cases e : k = i
  · subst e
    by_cases h : k < 16
    · simp [pre, h]
    · simp [pre, h]
  · rw [if_neg e]
    by_cases h : i < 16
    · simp only [pre, List.getElem?_toArray, List.getElem?_map, List.getElem?_range h, Option.map_some, Option.some.injEq, Value.int.injEq, true_and]
      by_cases h2 : i < k
      · rw [if_pos h2, if_pos (by omega)]
      · rw [if_neg h2, if_neg (by omega)]
    · simp [pre, h]

set_option maxHeartbeats 1000000 in
set_option maxRecDepth 100000 in
/-- lowerhex.Decode of String's text into an array of sixteen zeros that the call has just laid. -/
theorem decode16 (g : Nat → Int) (s : ByteArray) (Hs : Hid (s = text g)) (hr : ∀ i, i < 16 → 0 ≤ g i ∧ g i < 256) (W : World) (b : Nat) (hb : W.heap.size = b) :
    Calls Ybad.prog 7 #[.slice (some ⟨b, 0, none⟩) 16 16, .string s] (W.alloc (.cells #[.int .u8 0, .int .u8 0, .int .u8 0, .int .u8 0, .int .u8 0, .int .u8 0, .int .u8 0, .int .u8 0, .int .u8 0, .int .u8 0, .int .u8 0, .int .u8 0, .int .u8 0, .int .u8 0, .int .u8 0, .int .u8 0] 23)) fun e w' => e = .returned (.bool true) ∧ w' = W.alloc (.cells #[.int .u8 (g 0), .int .u8 (g 1), .int .u8 (g 2), .int .u8 (g 3), .int .u8 (g 4), .int .u8 (g 5), .int .u8 (g 6), .int .u8 (g 7), .int .u8 (g 8), .int .u8 (g 9), .int .u8 (g 10), .int .u8 (g 11), .int .u8 (g 12), .int .u8 (g 13), .int .u8 (g 14), .int .u8 (g 15)] 23) := by
  have HR : Hid (∀ i, i < 16 → 0 ≤ g i ∧ g i < 256) := hr
  have hsz : s.size = 32 := by rw [Hs.out]; exact text_size g
  clear hr
  rw [← pre_zero g]
  go_enter Ybad.func7, Ybad.ntmps7
  go_wp2
  go_loopg [18] 16 (fun gg i wr => ∃ k : Nat, k ≤ 16 ∧ 16 - k ≤ gg ∧ i = .int .i64 k ∧ wr = W.alloc (.cells (pre g k) 23))
  case atStart => exact ⟨0, by omega, by omega, rfl, rfl⟩
  case round =>
    obtain ⟨k, hk, hgg, rfl, rfl⟩ := hrel
    by_cases hlt : k < 16
    · obtain ⟨hx0, hx1⟩ := HR.out k hlt
      obtain ⟨x, hx⟩ : ∃ x, x = g k := ⟨_, rfl⟩
      rw [← hx] at hx0 hx1
      have HX : Hid (x = g k) := hx
      clear hx
      have p1 : 2 * k < s.size := by omega
      have p2 : 2 * k + 1 < s.size := by omega
      have D1 : Hid (IsDig ((s[2 * k]'p1).toNat : Int) (x / 16)) := by
        rw [byte_hi Hs.out hlt hx0 hx1 HX.out _ rfl p1 (by show _ < 16; omega)]
        exact tab_dig _ (by omega) (by omega) _
      have D2 : Hid (IsDig ((s[2 * k + 1]'p2).toNat : Int) (x % 16)) := by
        rw [byte_lo Hs.out hlt hx0 hx1 HX.out _ rfl p2 (by show _ < 16; omega)]
        exact tab_dig _ (by omega) (by omega) _
      have b5 : (0 : Int) ≤ x / 16 := by omega
      have b6 : x / 16 < 16 := by omega
      have b7 : (0 : Int) ≤ x % 16 := by omega
      have b8 : x % 16 < 16 := by omega
      have hpa := pre_at g k hlt
      have hps := pre_size g k
      go_wp2_with fail
      refine (digit_any _ _ D1.out _).mono ?_
      rintro e w1 ⟨rfl, rfl⟩
      go_wp2_with fail
      refine (digit_any _ _ D2.out _).mono ?_
      rintro e w1 ⟨rfl, rfl⟩
      go_wp2
      go_roundg (16 - (k + 1))
      case measure => omega
      case rel => exact ⟨k + 1, by omega, by omega, by go_num, by rw [or_bits x hx0 hx1, HX.out, pre_step]⟩
    · have : k = 16 := by omega
      subst this
      go_wp2
      go_ret
      exact ⟨rfl, rfl⟩

set_option maxHeartbeats 400000 in
set_option maxRecDepth 100000 in
/-- (TraceID).IsValid. -/
theorem valid16 (g : Nat → Int) (b : Bool) (hb : b = true ↔ ∀ i, i < 16 → g i = (fun _ => (0 : Int)) i) (w : World) :
    Calls Ybad.prog 6 #[.agg #[.int .u8 (g 0), .int .u8 (g 1), .int .u8 (g 2), .int .u8 (g 3), .int .u8 (g 4), .int .u8 (g 5), .int .u8 (g 6), .int .u8 (g 7), .int .u8 (g 8), .int .u8 (g 9), .int .u8 (g 10), .int .u8 (g 11), .int .u8 (g 12), .int .u8 (g 13), .int .u8 (g 14), .int .u8 (g 15)]] w fun e w' => e = .returned (.bool (!b)) ∧ w' = w.alloc (.cells #[.int .u8 (g 0), .int .u8 (g 1), .int .u8 (g 2), .int .u8 (g 3), .int .u8 (g 4), .int .u8 (g 5), .int .u8 (g 6), .int .u8 (g 7), .int .u8 (g 8), .int .u8 (g 9), .int .u8 (g 10), .int .u8 (g 11), .int .u8 (g 12), .int .u8 (g 13), .int .u8 (g 14), .int .u8 (g 15)] 23) := by
  have hE := neq16 g (fun _ => 0) b hb
  simp only [arr] at hE
  clear hb
  go_enter Ybad.func6, Ybad.ntmps6
  go_wp2
  go_ret
  exact ⟨rfl, rfl⟩

end Go.Proofs.YbulkaxfiDoor
