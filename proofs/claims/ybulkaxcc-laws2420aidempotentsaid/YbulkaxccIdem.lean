/-
  'Rows.LawS2420AIdempotentSaid' PROVED: unique of unique is the same list, no longer than the input, its first item the first of the input.
-/
import Derived.Test.YbulkaxccOpen
namespace Go.Proofs.Ybulkaxcc.idem
open Go.ChangeShapes Go.WideShapes Go.ChangeAt Go.RowKit

theorem idem_law (a : Option Addr) (n cap : Nat) (xs : List ByteArray) (w : World) (hr : Reads w (.slice a n cap) xs) (hx : xs.length = n) (hws : ∀ x ∈ xs, x.size ≤ maxLen) :
    Calls Yba.prog 4 #[.slice a n cap] w fun e w' => e = .returned (.bool true) ∧ Below w.heap.size w w' := by
  by_cases hn : 1024 < (n : Int)
  · exact idem_long a n cap w hn
  · cases xs with
    | nil =>
      subst hx
      exact idem_none a cap w
    | cons x r =>
      subst hx
      exact idem_some a cap x r w hr (by simp at hn; omega) hws

set_option maxRecDepth 100000 in
theorem lifted (os : Os) (started : os.Started) (H : Type) (enc : TypeId × Value → H) :
    ReturnsInHanded {} Yba.checked os 4 .any (Rows.lawS2420AIdempotentSpec.pre6 enc Yba.prog Yba.f4 Rows.lawS2420AIdempotentRow.domain false) (Rows.lawS2420AIdempotentSpec.post enc Yba.prog Yba.f4 false true false false) := by
  refine returnsInHanded_of_change (C := Yba.checked) own started (by kernel_rfl) Yba.func4
    (ChangeSpec.witness6 (enc := enc) (C := Yba.checked) false ⟨#[], #[.slice none 0 0], []⟩ 8 (by kernel_rfl) (by kernel_rfl) (by kernel_rfl) (by kernel_rfl)) ?_
  intro W base args ds gs before hval0 hW _ _
  have hval : ∀ (j : Nat) t v, Yba.f4.params[j]? = some t → args[j]? = some v → Value.okWide Yba.prog W .any base t v := hval0
  have hW' := hW
  obtain ⟨p, q, hA0, hV, rfl, _, _⟩ := hW
  have hA : DataW.TrodAll enc Yba.prog W 0 (fun _ => true) true Yba.f4.params.toList args.toList ds p := hA0
  rw [Yba.params4] at hA hval
  obtain ⟨v0, d0, rfl, rfl, h0⟩ := trodAll_one hA
  obtain ⟨rfl, rfl⟩ := trodVars_none hV
  clear hA0 hval0
  simp only [List.append_nil] at hW'
  have hlt : ∀ x ∈ p, x.block < W.heap.size := fun x hx => by simpa using hW'.lt x hx
  obtain ⟨a, n, cap, xs, rfl, hx, hr, hws⟩ := open22 (hval 0 22 v0 rfl rfl) h0 hlt
  refine (idem_law a n cap xs W hr hx hws).mono fun e W' ⟨he, hb⟩ => ?_
  subst he
  refine ⟨_, rfl, _, _, _, [], p, [], hW', ?_, ?_, rfl, hb.frame _, fun h => by cases h⟩
  · exact trodAll_mk1 (shut_bool Yba.underlying4 true)
  · exact trodAll_mk1 (Below.trod laidOut (by kernel_rfl) (of_decide_eq_true (by kernel_rfl)) h0 hb hlt)

/-- THE STATEMENT. -/
theorem proved : Rows.LawS2420AIdempotentSaid :=
  OpenClaim.holds_of_wide 4 Yba.f4 rfl rfl rfl rfl rfl rfl rfl ⟨rfl, rfl, rfl, rfl, rfl⟩ rfl rfl rfl rfl rfl (by kernel_rfl) Yba.func4 (by kernel_rfl)
    (of_decide_eq_true (by kernel_rfl)) (by unfold Func.isWrapper; first | (rw [if_pos (by decide +kernel)]; kernel_rfl) | (rw [if_neg (by decide +kernel)]; exact ⟨rfl, rfl⟩))
    (fun os started H enc _ => lifted os started H enc)
#print axioms proved
end Go.Proofs.Ybulkaxcc.idem
