/-
  AN ARRAY OF BYTES BY VALUE, opened: its cells are integers of kind u8, its reading is their list, it leads to no memory. Of no program.
-/
import Derived.ProofKit
import Derived.OpenShut
import Derived.Deep.Slices
namespace Go.Proofs.YbulkaxfiDoor
open Go.ChangeShapes Go.WideShapes Go.ChangeAt Go.RowKit Go.Deep

theorem open_byteArray {H : Type} {enc : TypeId × Value → H} {P : Program} {w : World} {base : Nat} {spare : Nat → Bool} {held : Bool} {fuel : Nat} {t e : TypeId} {n : Nat} {cs : List Value} {x : DataW H × List MemPlace}
    (ht : P.underlying t = some (.array n e)) (he : P.underlying e = some (.int .u8)) (hc : P.cellsOf e = 1) (ht1 : P.cellsOf t = n) (h : DataW.trod enc P w base spare held fuel t cs = some x) :
    ∃ f : Nat → Int, cs = (List.range n).map (fun i => Value.int .u8 (f i)) ∧ x.2 = [] ∧ ∀ i, i < n → (Lit.int .u8 (f i)).wf = true := by
  obtain ⟨xs, m, _, hx, hl, hlx, hi⟩ := DataW.trod_array ht h
  rw [hc] at hi
  rw [ht1] at hl
  have each : ∀ i, i < n → ∃ z : Int, cs[i]? = some (.int .u8 z) ∧ xs[i]? = some (.lit (.int .u8 z), []) ∧ (Lit.int .u8 z).wf = true := by
    intro i hin
    have h1 := hi i hin
    obtain ⟨y, hy⟩ : ∃ y, xs[i]? = some y := ⟨xs[i]'(by omega), List.getElem?_eq_getElem (by omega)⟩
    rw [hy] at h1
    obtain ⟨z, e0, rfl, wz⟩ := DataW.trod_int he h1
    have hci : cs[i]? = some (cs[i]'(by omega)) := List.getElem?_eq_getElem (by omega)
    have e1 : (cs.drop (i * 1)).take 1 = [cs[i]'(by omega)] := by
      rw [Nat.mul_one, List.drop_eq_getElem_cons (by omega)]
      rfl
    rw [e1] at e0
    simp at e0
    exact ⟨z, by rw [hci, e0], hy, wz⟩
  obtain ⟨f, hf⟩ := choose_lt each
  refine ⟨f, ?_, ?_, fun i hi => (hf i hi).2.2⟩
  · apply List.ext_getElem?
    intro i
    by_cases hin : i < n
    · rw [(hf i hin).1]
      simp [hin]
    · rw [List.getElem?_eq_none (by omega), List.getElem?_eq_none (by simp; omega)]
  · rw [hx]
    show xs.flatMap (·.2) = []
    rw [List.flatMap_eq_nil_iff]
    intro y hy
    obtain ⟨i, hi', rfl⟩ := List.getElem_of_mem hy
    have := (hf i (by omega)).2.1
    rw [List.getElem?_eq_getElem hi'] at this
    rw [Option.some.inj this]

end Go.Proofs.YbulkaxfiDoor
