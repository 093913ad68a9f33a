/-
  THE ARGUMENT 'words []string', opened: the value, its words, where they lie.
-/
import Derived.Test.YbulkaxccRows
import Derived.Test.YbulkaxccLaws
import Derived.ProofKit
import Derived.SliceStrings
namespace Go.Proofs.Ybulkaxcc
open Go.ChangeShapes Go.WideShapes Go.ChangeAt Go.RowKit

theorem own : ownKnob Yba.prog.godebug = none := by kernel_rfl
theorem laidOut : laidOutB Yba.prog = true := by kernel_rfl
theorem cells9' : Yba.prog.cellsOf 9 = 1 := by kernel_rfl

theorem open22 {H : Type} {enc : TypeId × Value → H} {W : World} {base : Nat} {v : Value} {d : DataW H} {p : List MemPlace} (hv : Value.okWide Yba.prog W .any base 22 v) (h : DataW.Trod enc Yba.prog W 0 (fun _ => true) true 22 v d p) (hlt : ∀ x ∈ p, x.block < W.heap.size) :
    ∃ a n cap xs, v = .slice a n cap ∧ xs.length = n ∧ Reads W (.slice a n cap) xs ∧ ∀ x ∈ xs, x.size ≤ maxLen := by
  obtain ⟨a0, len, cap, rfl⟩ := okWide_slice Yba.underlying22 hv
  obtain ⟨fuel, hf⟩ := h
  rcases open_strings Yba.underlying22 Yba.underlying9 cells9' hf with ⟨hcs, hx⟩ | ⟨a, len', cap', ss, hcs, _, hl, hm, hz, hx, hcell, hws⟩
  · simp [Value.cells] at hcs
    obtain ⟨rfl, rfl, rfl⟩ := hcs
    exact ⟨none, 0, 0, [], rfl, rfl, ⟨none, 0, rfl, .inl rfl⟩, by simp⟩
  · simp [Value.cells] at hcs
    obtain ⟨rfl, rfl, rfl⟩ := hcs
    simp only [Prod.mk.injEq] at hx
    obtain ⟨rfl, rfl⟩ := hx
    simp only [if_true] at hz
    have hxl : (ss.take len).length = len := by rw [List.length_take]; omega
    refine ⟨some a, len, cap, ss.take len, rfl, hxl, ⟨some a, cap, by rw [hxl], ?_⟩, fun x hx => hws x (List.mem_of_mem_take hx)⟩
    by_cases h0 : len = 0
    · left
      subst h0
      simp
    · right
      obtain ⟨b, off, spot⟩ := a
      have hspot : spot = none := by simpa [Addr.add] using World.cell?_spot (hcell 0 (by omega))
      subst hspot
      refine ⟨b, off, rfl, hlt (.cell b off) (MemPlace.mem_row.2 ⟨0, by omega, by simp⟩), fun j hj => ?_⟩
      rw [hxl] at hj
      have := hcell j (by omega)
      rw [add_plain] at this
      rw [this]
      simp [hj]

end Go.Proofs.Ybulkaxcc
