/-
  THE PLAIN MATHEMATICS OF 'unique': a list without its repeats, each where it first stands; and the set that holds just those words, as a datum. No Go in sight.
-/
import Derived.Maps.OwnSet
namespace Go.Proofs.Ybulkaxcc
open Go.Maps

/-- A word that is not yet on the list goes to its end. -/
def add (acc : List ByteArray) (x : ByteArray) : List ByteArray := if acc.any (fun y => decide (y = x)) then acc else acc ++ [x]
theorem add_pos {acc : List ByteArray} {x : ByteArray} (h : x ∈ acc) : add acc x = acc := by
  unfold add
  rw [if_pos (List.any_eq_true.2 ⟨x, h, by simp⟩)]
theorem add_neg {acc : List ByteArray} {x : ByteArray} (h : x ∉ acc) : add acc x = acc ++ [x] := by
  unfold add
  rw [if_neg fun hn => ?_]
  obtain ⟨y, hy, e⟩ := List.any_eq_true.1 hn
  exact h (of_decide_eq_true e ▸ hy)
/-- The list without repeats. -/
def uniq (l : List ByteArray) : List ByteArray := l.foldl add []

theorem mem_fold : ∀ (l acc : List ByteArray) (x : ByteArray), x ∈ l.foldl add acc ↔ x ∈ acc ∨ x ∈ l
  | [], acc, x => by simp
  | a :: r, acc, x => by
    rw [List.foldl_cons, mem_fold r (add acc a) x]
    by_cases h : a ∈ acc
    · rw [add_pos h]
      simp only [List.mem_cons]
      constructor
      · rintro (h1 | h1)
        · exact .inl h1
        · exact .inr (.inr h1)
      · rintro (h1 | rfl | h1)
        · exact .inl h1
        · exact .inl h
        · exact .inr h1
    · rw [add_neg h]
      simp only [List.mem_append, List.mem_cons, List.not_mem_nil, or_false]
      exact or_assoc

theorem mem_uniq (l : List ByteArray) (x : ByteArray) : x ∈ uniq l ↔ x ∈ l := by
  unfold uniq
  rw [mem_fold]
  simp

theorem nodup_fold : ∀ (l acc : List ByteArray), acc.Nodup → (l.foldl add acc).Nodup
  | [], acc, h => h
  | a :: r, acc, h => by
    rw [List.foldl_cons]
    refine nodup_fold r _ ?_
    by_cases hn : a ∈ acc
    · rw [add_pos hn]
      exact h
    · rw [add_neg hn, List.nodup_append]
      refine ⟨h, by simp, fun x hx y hy => ?_⟩
      simp at hy
      subst hy
      exact fun e => hn (e ▸ hx)

theorem nodup_uniq (l : List ByteArray) : (uniq l).Nodup := nodup_fold l [] List.nodup_nil

theorem fold_nodup : ∀ (l acc : List ByteArray), (acc ++ l).Nodup → l.foldl add acc = acc ++ l
  | [], acc, _ => by simp
  | a :: r, acc, h => by
    have hn : a ∉ acc := fun ha => by
      rw [List.nodup_append] at h
      exact h.2.2 a ha a (by simp) rfl
    rw [List.foldl_cons]
    rw [add_neg hn, fold_nodup r (acc ++ [a]) (by simpa using h)]
    simp

theorem uniq_nodup {l : List ByteArray} (h : l.Nodup) : uniq l = l := by
  unfold uniq
  rw [fold_nodup l [] (by simpa using h)]
  rfl

/-- IDEMPOTENT. -/
theorem uniq_uniq (l : List ByteArray) : uniq (uniq l) = uniq l := uniq_nodup (nodup_uniq l)

theorem fold_le : ∀ (l acc : List ByteArray), (l.foldl add acc).length ≤ acc.length + l.length
  | [], acc => by simp
  | a :: r, acc => by
    rw [List.foldl_cons]
    have := fold_le r (add acc a)
    have h2 : (add acc a).length ≤ acc.length + 1 := by
      by_cases hn : a ∈ acc
      · rw [add_pos hn]
        omega
      · rw [add_neg hn]
        simp
    simp only [List.length_cons]
    omega

theorem uniq_le (l : List ByteArray) : (uniq l).length ≤ l.length := by
  have := fold_le l []
  simpa [uniq] using this

theorem fold_head : ∀ (l : List ByteArray) (x : ByteArray) (acc : List ByteArray), ∃ r, l.foldl add (x :: acc) = x :: r
  | [], x, acc => ⟨acc, rfl⟩
  | a :: r, x, acc => by
    rw [List.foldl_cons]
    by_cases hn : a ∈ x :: acc
    · rw [add_pos hn]
      exact fold_head r x acc
    · rw [add_neg hn]
      exact fold_head r x (acc ++ [a])

/-- The first word stays the first. -/
theorem uniq_head (x : ByteArray) (l : List ByteArray) : ∃ r, uniq (x :: l) = x :: r := by
  unfold uniq
  rw [List.foldl_cons]
  exact fold_head l x []

/-- The words gathered behind k rounds. -/
def U (ss : List ByteArray) (k : Nat) : List ByteArray := uniq (ss.take k)

theorem U_zero (ss : List ByteArray) : U ss 0 = [] := by simp [U, uniq]
theorem U_succ (ss : List ByteArray) (k : Nat) (hk : k < ss.length) : U ss (k + 1) = add (U ss k) (ss.getD k ByteArray.empty) := by
  unfold U uniq
  rw [List.take_add_one, List.foldl_append]
  simp [List.getD, List.getElem?_eq_getElem hk]
theorem U_all (ss : List ByteArray) : U ss ss.length = uniq ss := by unfold U; rw [List.take_length]
theorem U_le (ss : List ByteArray) (k : Nat) : (U ss k).length ≤ k := by
  have := uniq_le (ss.take k)
  have h2 := List.length_take_le k ss
  unfold U
  omega
theorem U_old (ss : List ByteArray) (k : Nat) (hk : k < ss.length) (h : ss.getD k ByteArray.empty ∈ U ss k) : U ss (k + 1) = U ss k := by
  rw [U_succ ss k hk, add_pos h]
theorem U_new (ss : List ByteArray) (k : Nat) (hk : k < ss.length) (h : ss.getD k ByteArray.empty ∉ U ss k) : U ss (k + 1) = U ss k ++ [ss.getD k ByteArray.empty] := by
  rw [U_succ ss k hk, add_neg h]
/-- A word is among those gathered just if it stands earlier in the list. -/
theorem mem_U (ss : List ByteArray) (k : Nat) (hk : k ≤ ss.length) (x : ByteArray) : x ∈ U ss k ↔ ∃ j, j < k ∧ ss.getD j ByteArray.empty = x := by
  unfold U
  rw [mem_uniq, List.mem_take_iff_getElem]
  constructor
  · rintro ⟨j, hj, rfl⟩
    exact ⟨j, by omega, by simp [List.getD, List.getElem?_eq_getElem (show j < ss.length by omega)]⟩
  · rintro ⟨j, hj, rfl⟩
    exact ⟨j, by omega, by simp [List.getD, List.getElem?_eq_getElem (show j < ss.length by omega)]⟩

/-! ### the set, as a datum -/
section
variable {H : Type}
def keyLit (s : ByteArray) : Lit := .string s.data.toList

theorem keyLit_inj {a b : ByteArray} (h : keyLit a = keyLit b) : a = b := by
  simp only [keyLit, Lit.string.injEq] at h
  cases a; cases b
  simp only at h
  congr 1
  exact Array.toList_inj.1 h

theorem key_lit (s : ByteArray) : WideAt.IsKeyLit (keyLit s) := trivial

theorem fold_atKey (u z : DataW H) (x : ByteArray) : ∀ (acc : List ByteArray) (m : DataW H), IsMap m → (x ∈ acc → (acc.foldl (fun m y => m.put (keyLit y) u) m).atKey (keyLit x) z = u) ∧ (x ∉ acc → (acc.foldl (fun m y => m.put (keyLit y) u) m).atKey (keyLit x) z = m.atKey (keyLit x) z)
  | [], m, _ => ⟨fun h => by simp at h, fun _ => rfl⟩
  | a :: r, m, hm => by
    have ih := fold_atKey u z x r _ (hm.put (keyLit a) u)
    rw [List.foldl_cons]
    by_cases hx : x ∈ r
    · exact ⟨fun _ => ih.1 hx, fun h => absurd (List.mem_cons_of_mem _ hx) h⟩
    · refine ⟨fun h => ?_, fun h => ?_⟩
      · rcases List.mem_cons.1 h with rfl | h1
        · rw [ih.2 hx, atKey_put_same hm (key_lit _)]
        · exact absurd h1 hx
      · have hne : keyLit x ≠ keyLit a := fun e => h (by rw [keyLit_inj e]; exact List.mem_cons_self)
        rw [ih.2 hx, atKey_put_other hne]

/-- The set behind k rounds. -/
def Sd (ss : List ByteArray) (k : Nat) : DataW H := setOf (.lit (.bool true)) ((U ss k).map keyLit)

theorem Sd_zero (ss : List ByteArray) : Sd (H := H) ss 0 = .map [] := by simp [Sd, U_zero, setOf]
theorem Sd_in (ss : List ByteArray) (k : Nat) (x : ByteArray) (h : x ∈ U ss k) : (Sd (H := H) ss k).atKey (keyLit x) (.lit (.bool false)) = .lit (.bool true) := by
  unfold Sd setOf
  rw [List.foldl_map]
  exact (fold_atKey (H := H) (.lit (.bool true)) (.lit (.bool false)) x (U ss k) (.map []) isMap_empty).1 h
theorem Sd_out (ss : List ByteArray) (k : Nat) (x : ByteArray) (h : x ∉ U ss k) : (Sd (H := H) ss k).atKey (keyLit x) (.lit (.bool false)) = .lit (.bool false) := by
  unfold Sd setOf
  rw [List.foldl_map]
  exact (fold_atKey (H := H) (.lit (.bool true)) (.lit (.bool false)) x (U ss k) (.map []) isMap_empty).2 h
theorem Sd_new (ss : List ByteArray) (k : Nat) (hk : k < ss.length) (h : ss.getD k ByteArray.empty ∉ U ss k) : Sd (H := H) ss (k + 1) = (Sd ss k).put (keyLit (ss.getD k ByteArray.empty)) (.lit (.bool true)) := by
  unfold Sd
  rw [U_new ss k hk h, List.map_append, List.map_singleton, setOf_snoc]
end

end Go.Proofs.Ybulkaxcc
