/-
  LawS2426ARoundTrip LIFTED to its row: what the cell 'laid' gives, the argument opened, the two named variables read again.
-/
import Derived.Test.YbulkaxfiDoorRows
import Derived.Test.YbulkaxfiDoorArr
import Derived.ProofKit
import Derived.LaidMore
import Derived.OpenShut
import Derived.WalkSmall
import Derived.MakeChecks
import Derived.Stop.Joined
import Derived.Stop.LaidErr
namespace Go.Proofs.YbulkaxfiDoor
open Go.ChangeShapes Go.WideShapes Go.ChangeAt Go.RowKit

theorem own : ownKnob Ybad.prog.godebug = none := by kernel_rfl
theorem laidOut : laidOutB Ybad.prog = true := by kernel_rfl
theorem cells5 : Ybad.prog.cellsOf 5 = 1 := by kernel_rfl
theorem cells9 : Ybad.prog.cellsOf 9 = 1 := by kernel_rfl
theorem cells22 : Ybad.prog.cellsOf 22 = 16 := by kernel_rfl
theorem cells57 : Ybad.prog.cellsOf 57 = 1 := by kernel_rfl
theorem kind0 : (Ybad.prog.globals[0]?).map (·.type) = some 25 := by kernel_rfl
theorem kind1 : (Ybad.prog.globals[1]?).map (·.type) = some 25 := by kernel_rfl

/-- The two named variables, by the row's own list. -/
abbrev nA : String := Rows.lawS2426ARoundTripRow.named.headD ""
abbrev nB : String := Rows.lawS2426ARoundTripRow.named.tail.headD ""
theorem gA : Ybad.prog.globalNamed nA = some 0 := by kernel_rfl
theorem gB : Ybad.prog.globalNamed nB = some 1 := by kernel_rfl

/-- The argument [16]byte: its value and its reading. -/
theorem open22 {H : Type} {enc : TypeId × Value → H} {W : World} {base : Nat} {sp : Nat → Bool} {v : Value} {d : DataW H} {p : List MemPlace} (hv : Value.okWide Ybad.prog W .any base 22 v) (h : DataW.Trod enc Ybad.prog W 0 sp true 22 v d p) :
    ∃ f : Nat → Int, v = .agg #[.int .u8 (f 0), .int .u8 (f 1), .int .u8 (f 2), .int .u8 (f 3), .int .u8 (f 4), .int .u8 (f 5), .int .u8 (f 6), .int .u8 (f 7), .int .u8 (f 8), .int .u8 (f 9), .int .u8 (f 10), .int .u8 (f 11), .int .u8 (f 12), .int .u8 (f 13), .int .u8 (f 14), .int .u8 (f 15)] ∧ p = [] ∧ ∀ i, i < 16 → 0 ≤ f i ∧ f i < 256 := by
  obtain ⟨cs, rfl, hsz, _⟩ : ∃ cs, v = .agg cs ∧ cs.size = Ybad.prog.cellsOf 22 ∧ Row.okWide Ybad.prog W .any base 22 cs := by
    simpa [Value.okWide, Ybad.underlying22] using hv
  obtain ⟨fuel, hf⟩ := h
  obtain ⟨f, hcs, hp, hw⟩ := open_byteArray Ybad.underlying22 Ybad.underlying5 cells5 cells22 hf
  refine ⟨f, ?_, hp, fun i hi => ?_⟩
  · obtain ⟨l⟩ := cs
    have e : l = (List.range 16).map (fun i => Value.int .u8 (f i)) := by simpa [Value.cells] using hcs
    rw [e]
    rfl
  · have := bounds_u8 (hw i hi)
    omega

/-- WHAT 'laid' GIVES: both sentinels hold a pointer that is not nil. -/
theorem of_laid {W : World} (h : laidMetH Ybad.prog Rows.lawS2426ARoundTripRow.laid W) :
    ∃ (a0 a1 : Addr), W.var? Ybad.prog nA = some #[.iface 38 (.pointer (some a0))] ∧ W.var? Ybad.prog nB = some #[.iface 38 (.pointer (some a1))] := by
  rw [MakeChecks.laidMetH_plain _ _ _ (by kernel_rfl)] at h
  have ht := laidMet.tail h
  obtain ⟨a0, s0, hv0, _⟩ := laid_sentinel h gA kind0 Ybad.underlying25 (fun u hu => typeName_ptr_named (nm := "errors.errorString") (by kernel_rfl) (by kernel_rfl) (by decide) u (hu.trans (congrArg some (by decide)))) Ybad.underlying38 Ybad.underlying57 rfl rfl Ybad.underlying9 cells57 cells9
  obtain ⟨a1, s1, hv1, _⟩ := laid_sentinel ht gB kind1 Ybad.underlying25 (fun u hu => typeName_ptr_named (nm := "errors.errorString") (by kernel_rfl) (by kernel_rfl) (by decide) u (hu.trans (congrArg some (by decide)))) Ybad.underlying38 Ybad.underlying57 rfl rfl Ybad.underlying9 cells57 cells9
  exact ⟨a0, a1, hv0, hv1⟩

/-- The door's own heap meets the condition. -/
theorem door_met (os : Os) (args : Array Value) : laidMetH Ybad.prog Rows.lawS2426ARoundTripRow.laid ((World.doorLaid Ybad.prog 47 os).forCall (fun _ _ => 0) ⟨#[], args, []⟩).memory :=
  laidMetH_of_parts3 (fuel := 8) (laidMet_of_run' 8 (by kernel_rfl) (by kernel_rfl)) (by kernel_rfl) (by kernel_rfl)

set_option maxRecDepth 100000 in
theorem lifted (ok : ∀ (f : Nat → Int), (∀ i, i < 16 → 0 ≤ f i ∧ f i < 256) → (¬ ∀ i, i < 16 → f i = (fun _ => (0 : Int)) i) → ∀ w : World, Calls Ybad.prog 3 #[.agg #[.int .u8 (f 0), .int .u8 (f 1), .int .u8 (f 2), .int .u8 (f 3), .int .u8 (f 4), .int .u8 (f 5), .int .u8 (f 6), .int .u8 (f 7), .int .u8 (f 8), .int .u8 (f 9), .int .u8 (f 10), .int .u8 (f 11), .int .u8 (f 12), .int .u8 (f 13), .int .u8 (f 14), .int .u8 (f 15)]] w fun e w' => e = .returned (.bool true) ∧ Below w.heap.size w w')
    (zero : ∀ (f : Nat → Int), (∀ i, i < 16 → 0 ≤ f i ∧ f i < 256) → (∀ i, i < 16 → f i = (fun _ => (0 : Int)) i) → ∀ (T : TypeId) (a : Addr) (w : World), w.cell? ⟨1, 0, none⟩ = some (.iface T (.pointer (some a))) → 1 < w.heap.size → Calls Ybad.prog 3 #[.agg #[.int .u8 (f 0), .int .u8 (f 1), .int .u8 (f 2), .int .u8 (f 3), .int .u8 (f 4), .int .u8 (f 5), .int .u8 (f 6), .int .u8 (f 7), .int .u8 (f 8), .int .u8 (f 9), .int .u8 (f 10), .int .u8 (f 11), .int .u8 (f 12), .int .u8 (f 13), .int .u8 (f 14), .int .u8 (f 15)]] w fun e w' => e = .returned (.bool true) ∧ Below w.heap.size w w')
    (os : Os) (started : os.Started) (H : Type) (enc : TypeId × Value → H) :
    ReturnsInHanded {} Ybad.checked os 3 .any (fun w args => (Rows.lawS2426ARoundTripSpec.pre enc Ybad.prog Ybad.f3 [] false w args ∧ laidMetH Ybad.prog Rows.lawS2426ARoundTripRow.laid w) ∧ sizedMet enc Ybad.prog Ybad.f3 (OpenSpec.ofChange Rows.lawS2426ARoundTripSpec) false w args)
      (Rows.lawS2426ARoundTripSpec.post enc Ybad.prog Ybad.f3 false true false false) := by
  refine returnsInHanded_of_change_and (C := Ybad.checked) (X := fun w _ => laidMetH Ybad.prog Rows.lawS2426ARoundTripRow.laid w) (fun _ _ _ hh h => h.of_heap hh) own started (by kernel_rfl) Ybad.func3
    (ChangeSpec.witness_shaped (enc := enc) (C := Ybad.checked) (os := os) (X := fun w _ => laidMetH Ybad.prog Rows.lawS2426ARoundTripRow.laid w) false (World.doorLaid Ybad.prog 47 os) #[.agg #[.int .u8 0, .int .u8 0, .int .u8 0, .int .u8 0, .int .u8 0, .int .u8 0, .int .u8 0, .int .u8 0, .int .u8 0, .int .u8 0, .int .u8 0, .int .u8 0, .int .u8 0, .int .u8 0, .int .u8 0, .int .u8 0]] 8 rfl (World.shaped_of_RefB (by kernel_rfl) (by kernel_rfl)) (by kernel_rfl) (by kernel_rfl) (by kernel_rfl) (door_met os _)) ?_
  intro W base args ds gs before hval0 hW _ _ hL _
  have hval : ∀ (j : Nat) t v, Ybad.f3.params[j]? = some t → args[j]? = some v → Value.okWide Ybad.prog W .any base t v := hval0
  have hW' := hW
  obtain ⟨p, q, hA0, hV0, rfl, _, _⟩ := hW
  have hA : DataW.TrodAll enc Ybad.prog W 0 (fun _ => true) true Ybad.f3.params.toList args.toList ds p := hA0
  have hV : DataW.TrodVars enc Ybad.prog W (fun _ => true) [nA, nB] gs q := hV0
  rw [Ybad.params3] at hA hval
  obtain ⟨v0, d0, rfl, rfl, h0⟩ := trodAll_one hA
  obtain ⟨a0, a1, hv0, hv1⟩ := of_laid hL
  obtain ⟨rfl, rfl⟩ := hV.unique (vars_read2 enc gA kind0 Ybad.underlying25 hv0 trivial gB kind1 Ybad.underlying25 hv1 trivial _)
  clear hA0 hV0 hval0
  obtain ⟨f, rfl, rfl, hf⟩ := open22 (hval 0 22 v0 rfl rfl) h0
  have hc : W.cell? ⟨1, 0, none⟩ = some (.iface 38 (.pointer (some a1))) := by simpa using World.var?_cell gB hv1 0
  have h1 : 1 < W.heap.size := World.block_lt_of_cell? _ _ hc
  have both : Calls Ybad.prog 3 #[.agg #[.int .u8 (f 0), .int .u8 (f 1), .int .u8 (f 2), .int .u8 (f 3), .int .u8 (f 4), .int .u8 (f 5), .int .u8 (f 6), .int .u8 (f 7), .int .u8 (f 8), .int .u8 (f 9), .int .u8 (f 10), .int .u8 (f 11), .int .u8 (f 12), .int .u8 (f 13), .int .u8 (f 14), .int .u8 (f 15)]] W fun e w' => e = .returned (.bool true) ∧ Below W.heap.size W w' := by
    by_cases hz : ∀ i, i < 16 → f i = (fun _ => (0 : Int)) i
    · exact zero f hf hz 38 a1 W hc h1
    · exact ok f hf hz W
  refine both.mono fun e W' ⟨he, hb⟩ => ?_
  subst he
  refine ⟨_, rfl, _, _, _, [], [], [.cell 0 0, .cell 1 0], hW', ?_, ?_, ?_, hb.frame _, fun h => by cases h⟩
  · exact trodAll_mk1 (shut_bool Ybad.underlying4 true)
  · exact trodAll_mk1 (Below.trod laidOut (by kernel_rfl) (of_decide_eq_true (by kernel_rfl)) h0 hb (fun x hx => by cases hx))
  · exact vars_read2 enc gA kind0 Ybad.underlying25 (var?_below hb gA (by omega) hv0) trivial gB kind1 Ybad.underlying25 (var?_below hb gB h1 hv1) trivial _

end Go.Proofs.YbulkaxfiDoor
