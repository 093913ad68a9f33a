/-
  'unique' WALKED (after the guide's MapsetDedupeWalks.lean): a set 'map[string]bool' that the call makes and keeps to itself, and a slice that it builds and hands back. The set is a ghost of the proof: its datum lives over 'Unit'.
-/
import Derived.Test.YbulkaxccPlain
import Derived.Test.YbulkaxccProg
import Derived.Maps.AppendAt
import Derived.WalkKit
import Derived.WalkSpells
import Derived.LoopN
import Derived.StringKeys
import Derived.WideShapes
namespace Go.Proofs.Ybulkaxcc
open Go.RowKit Go.Maps Go.WideMaps Go.WideShapes

/-- The value is a slice of strings whose elements are xs, in old memory. -/
def Reads (w : World) (v : Value) (xs : List ByteArray) : Prop :=
  ∃ a cap, v = .slice a xs.length cap ∧ (xs = [] ∨ ∃ b off, a = some ⟨b, off, none⟩ ∧ b < w.heap.size ∧ ∀ j, j < xs.length → w.cell? ⟨b, off + j, none⟩ = some (.string (xs.getD j ByteArray.empty)))

theorem Reads.below {w w' : World} {v : Value} {xs : List ByteArray} (h : Reads w v xs) (hb : Below w.heap.size w w') : Reads w' v xs := by
  obtain ⟨a, cap, rfl, h1⟩ := h
  refine ⟨a, cap, rfl, ?_⟩
  rcases h1 with h1 | ⟨b, off, rfl, hlt, hc⟩
  · exact .inl h1
  · exact .inr ⟨b, off, rfl, Nat.lt_of_lt_of_le hlt hb.size, fun j hj => (hb.cell (by exact hlt)).trans (hc j hj)⟩

theorem Reads.own {w : World} {base : Nat} {v : Value} {xs : List ByteArray} (h : w.ownsRow base 9 1 v xs.length (xs.map Value.string)) : Reads w v xs := by
  have h0 := h
  obtain ⟨_, h1⟩ := h
  rcases h1 with ⟨rfl, hn⟩ | ⟨g, cap, cur, rfl, hg, hh, hn, hcap, hsz, htake⟩
  · have : xs = [] := List.length_eq_zero_iff.1 hn
    subst this
    exact ⟨none, 0, rfl, .inl rfl⟩
  · refine ⟨some ⟨g, 0, none⟩, cap, rfl, .inr ⟨g, 0, rfl, (Array.getElem?_eq_some_iff.1 hh).1, fun j hj => ?_⟩⟩
    have := h0.cells (g := g) rfl j (.string (xs.getD j ByteArray.empty)) (by simp [List.getElem?_eq_getElem hj])
    rw [add_plain] at this
    simpa using this

/-- 'm[k]' (without 'ok') on a map[K]bool that the call has made, the answer known. (Beside the guide's wpList_lookup_own_int.) -/
theorem wpList_lookup_own_bool {H : Type} {P : Program} (w : World) {ops : Array Oper} {rest : List Oper} {o : Oper} {a : Act} {Q : Exit → Act → World → Prop}
    (hg : o.guard = none) (m x : Operand) (t : TypeId) (hop : o.op = Op.lookup t m x false)
    (k e : TypeId) (K : Keyed P k) (ht : P.underlying t = some (.map k e)) (he : P.underlying e = some .bool) (hz : (zeroValue e).run P w = .ok (.bool false) w) (b n : Nat) (D : DataW H)
    (hm : a.eval m = .map (some b)) (hown : w.ownsMap P k (plainElem P e) b n D) (key : Value) (kl : Lit) (hx : a.eval x = key) (hkey : keyOf P k key = some kl)
    (c : Bool) (hc : D.atKey kl (.lit (.bool false)) = .lit (.bool c))
    (hK : wpList P ops Q rest (a.put o.dst (.bool c)) w) :
    wpList P ops Q (o :: rest) a w := by
  refine wpList_plain hg fun K' hK' => ?_
  obtain ⟨v, ps, hrun, hv⟩ := hown.lookup K ht hz (plainElem_bool he false) hkey
  rw [hc] at hv
  have ev : v = .bool c := by
    unfold plainElem at hv
    rw [he] at hv
    cases v <;> simp at hv
    rw [hv.1]
  subst ev
  unfold Oper.wp
  simp [execOp, hop, hm, hx, hrun, Result.andThen]
  exact hK' _ _ hK

theorem law9 : Keyed Yba.prog 9 := string_keyed Yba.underlying9
theorem zero4 (w : World) : (zeroValue 4).run Yba.prog w = .ok (.bool false) w := by kernel_rfl
theorem info9 : (Yba.prog.info? 9).map (fun i => (i.zero, i.size, i.bytes)) = some (some (.string ByteArray.empty), 1, 16) := by kernel_rfl

theorem row_ne {w : World} {base : Nat} {e : TypeId} {size : Nat} {v : Value} {n : Nat} {xs : List Value} (h : w.ownsRow base e size v n xs) {b : Nat} (hb : b < base) : some b ≠ v.ownBlock := fun e1 => by
  have := (h.lt b e1.symm).1
  omega
theorem str_oneCell (s : ByteArray) : ∀ u ∈ [Value.string s], u.oneCell' = true := by simp [Value.oneCell']

set_option maxRecDepth 100000 in
/-- No word: a slice of length 0, a nil one too. -/
theorem unique_none (a : Option Addr) (cap : Nat) (w : World) : Calls Yba.prog 5 #[.slice a 0 cap] w fun e w' => e = .returned (.slice none 0 0) ∧ Below w.heap.size w w' := by
  have hmm := @run_makeMap Yba.prog
  go_enter Yba.func5, Yba.ntmps5
  go_wp2
  refine wp_loop_rounds 1 ?_
  rw [rounds_succ]
  go_wp2
  go_ret
  exact ⟨rfl, (Below.refl _ _).alloc (Nat.le_refl _) _⟩

set_option maxHeartbeats 800000 in
set_option maxRecDepth 100000 in
theorem unique_some (b off cap : Nat) (ss : List ByteArray) (w : World) (hreach : ss.length ≤ 1024) (hb : b < w.heap.size)
    (hc : ∀ j, j < ss.length → w.cell? ⟨b, off + j, none⟩ = some (.string (ss.getD j ByteArray.empty))) (hws : ∀ j, j < ss.length → (ss.getD j ByteArray.empty).size ≤ maxLen) :
    Calls Yba.prog 5 #[.slice (some ⟨b, off, none⟩) ss.length cap] w fun e w' => ∃ v, e = .returned v ∧ w'.ownsRow (w.heap.size + 1) 9 1 v (U ss ss.length).length ((U ss ss.length).map Value.string) ∧ Below w.heap.size w w' := by
  have hmm := @run_makeMap Yba.prog
  obtain ⟨i0, hi, hz0, hz1, hz2⟩ := info_parts info9
  go_enter Yba.func5, Yba.ntmps5
  go_wp2
  go_loopw [4, 10] (fun v i wr => ∃ k : Nat, k ≤ ss.length ∧ i = .int .i64 k ∧ wr.ownsMap Yba.prog 9 (plainElem Yba.prog 4) w.heap.size k (Sd (H := Unit) ss k) ∧ wr.ownsRow (w.heap.size + 1) 9 1 v (U ss k).length ((U ss k).map Value.string) ∧
      Below w.heap.size w wr ∧ w.heap.size + 1 ≤ wr.heap.size)
    (fun _ i _ => ss.length - (intOf i).toNat)
  case atStart => exact ⟨0, Nat.zero_le _, rfl, by rw [Sd_zero]; exact World.ownsMap_made _ _ _ _, by rw [U_zero]; exact World.ownsRow_nil _ _ _ _, (Below.refl _ _).alloc (Nat.le_refl _) _, by simp⟩
  case round =>
    obtain ⟨k, hk, rfl, hown, hrow, hnx, hws1⟩ := hrel
    by_cases hlt : k < ss.length
    · have hcx : wr.cell? ⟨b, off + k, none⟩ = some (.string (ss.getD k ByteArray.empty)) := (hnx.cell (by exact hb)).trans (hc k hlt)
      have hkey : keyOf Yba.prog 9 (.string (ss.getD k ByteArray.empty)) = some (keyLit (ss.getD k ByteArray.empty)) := keyOf_string_mk Yba.underlying9 (hws k hlt)
      have hal := U_le ss k
      by_cases hin : ss.getD k ByteArray.empty ∈ U ss k
      · have HU : Hid (U ss (k + 1) = U ss k) := U_old ss k hlt hin
        have HA := Sd_in (H := Unit) ss k _ hin
        have HSd : Hid (Sd (H := Unit) ss (k + 1) = Sd ss k) := by unfold Hid Sd; rw [U_old ss k hlt hin]
        generalize hxs : ss.getD k ByteArray.empty = x at hcx hkey hin HA
        have HX : Hid (ss.getD k ByteArray.empty = x) := hxs
        clear hxs hin hc hws
        have HAh : Hid ((Sd (H := Unit) ss k).atKey (keyLit x) (.lit (.bool false)) = .lit (.bool true)) := HA
        clear HA
        have HK : Hid (keyOf Yba.prog 9 (.string x) = some (keyLit x)) := hkey
        clear hkey
        go_wp2_with (first
          | (at_lookup; refine wpList_lookup_own_bool _ rfl _ _ 26 rfl 9 4 law9 Yba.underlying26 Yba.underlying4 (zero4 _) w.heap.size k _ rfl hown _ _ rfl HK.out true HAh.out ?_))
        go_roundw
        case rel => exact ⟨k + 1, by omega, by go_num, by rw [HSd.out]; exact hown.mono (Nat.le_succ _), by rw [HU.out]; exact hrow, hnx, hws1⟩
        case measure => simp [intOf]; omega
      · have HU : Hid (U ss (k + 1) = U ss k ++ [ss.getD k ByteArray.empty]) := U_new ss k hlt hin
        have HA := Sd_out (H := Unit) ss k _ hin
        have HSd : Hid (Sd (H := Unit) ss (k + 1) = (Sd ss k).put (keyLit (ss.getD k ByteArray.empty)) (.lit (.bool true))) := Sd_new ss k hlt hin
        generalize hxs : ss.getD k ByteArray.empty = x at hcx hkey hin HA HU HSd
        clear hxs hin hc hws
        have HAh : Hid ((Sd (H := Unit) ss k).atKey (keyLit x) (.lit (.bool false)) = .lit (.bool false)) := HA
        clear HA
        have HK : Hid (keyOf Yba.prog 9 (.string x) = some (keyLit x)) := hkey
        clear hkey
        go_wp2_with (first
          | (at_lookup; refine wpList_lookup_own_bool _ rfl _ _ 26 rfl 9 4 law9 Yba.underlying26 Yba.underlying4 (zero4 _) w.heap.size k _ rfl hown _ _ rfl HK.out false HAh.out ?_)
          | (at_mapUpdate; refine wpList_mapUpdate_own _ rfl _ _ _ 26 rfl 9 4 law9 Yba.underlying26 (plainElem (H := Unit) Yba.prog 4) w.heap.size k _ rfl hown (by unfold maxLen; omega) _ _ _ rfl rfl HK.out _ [] (plainElem_bool Yba.underlying4 true) ?_; intro w1 hown1 hgrow1)
          | (at_builtin; refine wpList_append_own _ rfl _ _ 22 rfl (w.heap.size + 1) 9 i0 (.string ByteArray.empty) 1 16 Yba.underlying22 hi hz0 hz1 hz2 rfl (by decide) _ _ _ rfl ((hrow.kept hgrow1 (Or.inr (row_ne hrow (Nat.lt_succ_self _)).symm)).alloc _) ⟨w1.heap.size, 0, none⟩ 1 1 [.string x] rfl rfl (cell_one_new _ _ _) (str_oneCell x) (by unfold maxLen; omega) (by omega) (by have := hgrow1.size; simp at this ⊢; omega) ?_; intro v' w2 hown' hgrow2 hnil2))
        have hr1 := hrow.kept hgrow1 (Or.inr (row_ne hrow (Nat.lt_succ_self _)).symm)
        have s1 := hgrow1.size
        have s2 := hgrow2.size
        simp at s1 s2
        go_roundw
        case rel =>
          refine ⟨k + 1, by omega, by go_num, ?_, ?_, ?_, by omega⟩
          · rw [HSd.out]
            exact (hown1.alloc _).kept hgrow2 (row_ne hr1 (Nat.lt_succ_self _))
          · rw [HU.out]
            simpa using hown'
          · exact (((hnx.grown hgrow1 (by omega) (fun j hj => by cases hj; exact Nat.le_refl _)).alloc (by omega) _).grown hgrow2 (by simp; omega) (fun j hj => Nat.le_trans (Nat.le_succ _) (hr1.lt j hj).1))
        case measure => simp [intOf]; omega
    · have : k = ss.length := by omega
      subst this
      go_wp2
      go_ret
      exact ⟨_, rfl, hrow, hnx⟩

end Go.Proofs.Ybulkaxcc
