/-
  'Rows.LawS2418ADigitsToldSaid' PROVED: the told card over LawS2418ADigits. fmt's text is told by the authors' own function and is not read by this law: the walk holds FOR EVERY F.
-/
import Derived.Test.YbulkaxbaFmtCards
import Derived.Test.YbulkaxbaFmtDigWalk
import Derived.Test.YbulkaxbaFmtArr
import Derived.Stop.JoinedAt
import Derived.Stop.Texts
import Derived.Stop.ErrReads
import Derived.Stop.JoinedTold
import Derived.SevenToldRow
import Derived.ShutString
namespace Go.Proofs.YbulkaxbaFmt.Dig
open Go.ChangeShapes Go.WideShapes Go.ChangeAt Go.RowKit Go.Kit
open Go.Extern.Stop Go.Stop Go.Extern
open Go.ChangeMaps (open_string shut_string)

theorem own : ownKnob Ybaf.prog.godebug = none := by kernel_rfl
theorem laidOut : laidOutB Ybaf.pinned.checked.prog = true := by kernel_rfl
theorem stopKnobs : Ybaf.pinned.checked.prog.stopKnobs = [] := by kernel_rfl
theorem quiet (os : Os) : Stop.quiet Ybaf.pinned.checked.prog os := by
  intro k hk
  rw [stopKnobs] at hk
  cases hk
theorem cells5 : Ybaf.prog.cellsOf 5 = 1 := by kernel_rfl
theorem cells28 : Ybaf.prog.cellsOf 28 = 8 := by kernel_rfl

/-- The argument [8]uint8: its value and its reading. -/
theorem open28 {H : Type} {enc : TypeId × Value → H} {W : World} {base : Nat} {sp : Nat → Bool} {v : Value} {d : DataW H} {p : List MemPlace} (hv : Value.okWide Ybaf.prog W .any base 28 v) (h : DataW.Trod enc Ybaf.prog W 0 sp true 28 v d p) :
    ∃ f : Nat → Int, v = .agg #[.int .u8 (f 0), .int .u8 (f 1), .int .u8 (f 2), .int .u8 (f 3), .int .u8 (f 4), .int .u8 (f 5), .int .u8 (f 6), .int .u8 (f 7)] ∧ p = [] ∧ ∀ i, i < 8 → 0 ≤ f i ∧ f i ≤ 255 := by
  obtain ⟨cs, rfl, hsz, _⟩ : ∃ cs, v = .agg cs ∧ cs.size = Ybaf.prog.cellsOf 28 ∧ Row.okWide Ybaf.prog W .any base 28 cs := by
    simpa [Value.okWide, Ybaf.underlying28] using hv
  obtain ⟨fuel, hf⟩ := h
  obtain ⟨f, hcs, hp, hw⟩ := open_byteArray Ybaf.underlying28 Ybaf.underlying5 cells5 cells28 hf
  refine ⟨f, ?_, hp, fun i hi => bounds_u8 (hw i hi)⟩
  obtain ⟨l⟩ := cs
  have e : l = (List.range 8).map (fun i => Value.int .u8 (f i)) := by simpa [Value.cells] using hcs
  rw [e]
  rfl

set_option maxRecDepth 100000 in
theorem lifted (os : Os) (started : os.Started) (H : Type) (enc : TypeId × Value → H) :
    ReturnsInTold none {} Ybaf.checked os 4 .any Input.okWide ((OpenSpec.ofChange Rows.lawS2418ADigitsSpec).preRow enc Ybaf.prog Ybaf.f4 [] false []) (fun F => ((OpenSpec.ofChange Rows.lawS2418ADigitsSpec).at F).post enc Ybaf.prog Ybaf.f4 false true false false) (aloneAtReturn Ybaf.prog) nothingAlways := by
  refine returnsInTold_of_row (C := Ybaf.checked) (s := OpenSpec.ofChange Rows.lawS2418ADigitsSpec) (by kernel_rfl) own started (by kernel_rfl) Ybaf.func4
    (OpenSpec.witness_stopped (enc := enc) (C := Ybaf.checked) false ⟨#[], #[.string ByteArray.empty, .agg #[.int .u8 0, .int .u8 0, .int .u8 0, .int .u8 0, .int .u8 0, .int .u8 0, .int .u8 0, .int .u8 0], .int .u8 0, .bool false], []⟩ 8 (by kernel_rfl) (by kernel_rfl) (by kernel_rfl) (by kernel_rfl)) ?_
  intro F W base args ds gs before _ hF hval0 hW _ _ _ _ _
  have hval : ∀ (j : Nat) t v, Ybaf.f4.params[j]? = some t → args[j]? = some v → Value.okWide Ybaf.prog W .any base t v := hval0
  have hW' := hW
  obtain ⟨p, q, hA0, hV, rfl, hfz, hnd⟩ := hW
  have hA : DataW.TrodAll enc Ybaf.prog W 0 (fun _ => true) true Ybaf.f4.params.toList args.toList ds p := hA0
  rw [Ybaf.params4] at hA hval
  obtain ⟨v0, v1, v2, v3, d0, d1, d2, d3, p0, p1, p2, p3, rfl, rfl, rfl, h0, h1, h2, h3⟩ := trodAll_four hA
  obtain ⟨rfl, rfl⟩ := trodVars_none hV
  obtain ⟨key, rfl, rfl, rfl, hk⟩ := open_string Ybaf.underlying9 (hval 0 9 v0 rfl rfl) h0
  obtain ⟨f, rfl, rfl, hf⟩ := open28 (hval 1 28 v1 rfl rfl) h1
  obtain ⟨la, rfl, rfl, rfl, wla⟩ := open_int Ybaf.underlying5 (hval 2 5 v2 rfl rfl) h2
  obtain ⟨fix, rfl, rfl, rfl⟩ := open_bool Ybaf.underlying4 (hval 3 4 v3 rfl rfl) h3
  clear hA0 hval0
  simp only [List.append_nil] at hW'
  refine (digits_law F.told key (f 0) (f 1) (f 2) (f 3) (f 4) (f 5) (f 6) (f 7) la fix W hF (hf 0 (by omega)) (hf 1 (by omega)) (hf 2 (by omega)) (hf 3 (by omega)) (hf 4 (by omega)) (hf 5 (by omega)) (hf 6 (by omega)) (hf 7 (by omega)) (bounds_u8 wla)).mono fun e W' ⟨he, hb⟩ => ?_
  subst he
  refine ⟨_, rfl, _, _, _, [], [], [], hW', ?_, ?_, rfl, hb.frame _, fun h => by cases h⟩
  · exact trodAll_mk1 (shut_bool Ybaf.underlying4 true)
  · have hd1 := Below.trod laidOut (by kernel_rfl) (of_decide_eq_true (by kernel_rfl)) h1 hb (fun x hx => by cases hx)
    exact trodAll_mk4 (shut_string Ybaf.underlying9 hk) hd1 (shut_int Ybaf.underlying5 wla) (shut_bool Ybaf.underlying4 fix)

theorem told : Rows.LawS2418ADigitsToldSaid :=
  Claim7.holds_of_told_any 4 Ybaf.f4 _ [] [] _ _ _ (by kernel_rfl) rfl rfl rfl laidOut (by kernel_rfl) rfl ⟨rfl, rfl, rfl, rfl, rfl, rfl, rfl⟩ rfl rfl (by kernel_rfl) (by kernel_rfl) Ybaf.func4 (by kernel_rfl)
    (of_decide_eq_true (by kernel_rfl)) (by unfold Func.isWrapper; first | (rw [if_pos (by decide +kernel)]; kernel_rfl) | (rw [if_neg (by decide +kernel)]; exact ⟨rfl, rfl⟩)) (by kernel_rfl) rfl stopKnobs.symm (by kernel_rfl)
    (by kernel_rfl) (by kernel_rfl) (by kernel_rfl) (by kernel_rfl) (by kernel_rfl) (by kernel_rfl) (by kernel_rfl) (by kernel_rfl) (by kernel_rfl) rfl (by kernel_rfl) rfl rfl
    rfl rfl
    rfl (by kernel_rfl) (by kernel_rfl) (by kernel_rfl) (by decide) (by kernel_rfl)
    (OpenClaim.moreEntering_of (by kernel_rfl) (by kernel_rfl) (by kernel_rfl) (by kernel_rfl) (by kernel_rfl) (by kernel_rfl) (by kernel_rfl) (by kernel_rfl) (by kernel_rfl) (by kernel_rfl))
    ⟨_, WideRow.started_initial, quiet _⟩
    (fun os started _ H enc _ => lifted os started H enc)
#print axioms told
end Go.Proofs.YbulkaxbaFmt.Dig
