/-
  'Rows.LawS2420CTierBoundToldSaid' PROVED: the told card over LawS2420CTierBound. fmt's text is told by the authors' own function and is not read by this law: the walk holds FOR EVERY F.
-/
import Derived.Test.YbulkaxccFmtCards
import Derived.Test.YbulkaxccFmtWays
import Derived.ProofKit
import Derived.OpenShut
import Derived.Laws.BytesArg
import Derived.Stop.JoinedAt
import Derived.Stop.Texts
import Derived.Stop.ErrReads
import Derived.Stop.JoinedTold
import Derived.SevenToldRow
import Derived.ShutString
namespace Go.Proofs.YbulkaxccFmt
open Go.ChangeShapes Go.WideShapes Go.ChangeAt Go.RowKit Go.Kit
open Go.Extern.Stop Go.Stop Go.Extern
open Go.ChangeMaps (open_string shut_string)

/-! ### the law, all ways joined -/
set_option maxHeartbeats 400000 in
theorem law_long (key ok : ByteArray) (ra oa : Option Addr) (rn rc on oc : Nat) (present last fail : Bool) (val : Int) (w : World) (h : 1024 < (rn : Int)) :
    Calls Ybaf.prog 3 #[.string key, .bool present, .slice ra rn rc, .string ok, .slice oa on oc, .bool last, .bool fail, .int .i64 val] w fun e w' => e = .returned (.bool true) ∧ Below w.heap.size w w' := by
  go_enter Ybaf.func3, Ybaf.ntmps3
  go_wp2
  go_ret
  exact ⟨rfl, (((Below.refl _ _).alloc (Nat.le_refl _) _).alloc (by simp) _).alloc (by simp; omega) _⟩

set_option maxHeartbeats 400000 in
theorem law_long2 (key ok : ByteArray) (ra oa : Option Addr) (rn rc on oc : Nat) (present last fail : Bool) (val : Int) (w : World) (h0 : ¬ 1024 < (rn : Int)) (h : 1024 < (on : Int)) :
    Calls Ybaf.prog 3 #[.string key, .bool present, .slice ra rn rc, .string ok, .slice oa on oc, .bool last, .bool fail, .int .i64 val] w fun e w' => e = .returned (.bool true) ∧ Below w.heap.size w w' := by
  go_enter Ybaf.func3, Ybaf.ntmps3
  go_wp2
  go_ret
  exact ⟨rfl, (((Below.refl _ _).alloc (Nat.le_refl _) _).alloc (by simp) _).alloc (by simp; omega) _⟩

theorem law_all (F : Interp) (key ok : ByteArray) (ra oa : Option Addr) (rn rc on oc : Nat) (s : ByteArray) (present last fail : Bool) (val : Int) (w : World) (hF : F.answers w.tape) (hk : key.size ≤ maxLen) (hok : ok.size ≤ maxLen)
    (hcv : ∀ W, Below w.heap.size w W → (convert 22 9 (.slice ra rn rc)).run Ybaf.prog W = .ok (.string s) W) :
    Calls Ybaf.prog 3 #[.string key, .bool present, .slice ra rn rc, .string ok, .slice oa on oc, .bool last, .bool fail, .int .i64 val] w fun e w' => e = .returned (.bool true) ∧ Below w.heap.size w w' := by
  by_cases hr : 1024 < (rn : Int)
  · exact law_long key ok ra oa rn rc on oc present last fail val w hr
  by_cases ho : 1024 < (on : Int)
  · exact law_long2 key ok ra oa rn rc on oc present last fail val w hr ho
  by_cases hne : ok = key
  · subst hne
    cases present with
    | true =>
      cases last with
      | true => exact law_s0 F ok ra oa rn rc on oc fail val w hF hr ho hk
      | false =>
        cases fail with
        | false => exact law_s1 ok ra oa rn rc on oc s val w hr ho hk hcv
        | true => exact law_s2 F ok ra oa rn rc on oc s val w hF hr ho hk hcv
    | false =>
      cases last with
      | true => exact law_s3 ok ra oa rn rc on oc fail val w hr ho hk
      | false => exact law_s4 F ok ra oa rn rc on oc fail val w hF hr ho hk
  · cases present with
    | true =>
      cases last with
      | true => exact law_d0 F key ok ra oa rn rc on oc fail val w hF hr ho hk hok hne
      | false =>
        cases fail with
        | false => exact law_d1 key ok ra oa rn rc on oc s val w hr ho hk hok hne hcv
        | true => exact law_d2 F key ok ra oa rn rc on oc s val w hF hr ho hk hok hne hcv
    | false =>
      cases last with
      | true => exact law_d3 key ok ra oa rn rc on oc fail val w hr ho hk hok hne
      | false => exact law_d4 F key ok ra oa rn rc on oc fail val w hF hr ho hk hok hne

/-! ### the argument raw []byte: what 'string(raw)' gives, in every later world -/
theorem cells5 : Ybaf.prog.cellsOf 5 = 1 := by kernel_rfl

theorem conv_some (W : World) (a : Addr) (n cap : Nat) (xs : List Int) (hlen : xs.length = n) (hc : ∀ j, j < n → W.cell? (a.add j) = some (.int .u8 (xs.getD j 0))) :
    (convert 22 9 (.slice (some a) n cap)).run Ybaf.prog W = .ok (.string (strOfNums xs)) W := by
  have hl : (loadCells a n).run Ybaf.prog W = .ok (xs.map (Value.int .u8)).toArray W := by
    have := run_loadCells_list (P := Ybaf.prog) W a (xs.map (Value.int .u8)) (fun j v hj => by
      have hjl : j < xs.length := by
        rcases Nat.lt_or_ge j xs.length with h | h
        · exact h
        · simp [List.getElem?_eq_none (show (xs.map (Value.int .u8)).length ≤ j by simpa using h)] at hj
      rw [hc j (by omega)]
      simp [List.getElem?_eq_getElem hjl] at hj
      subst hj
      simp [List.getElem?_eq_getElem hjl])
    simpa [hlen] using this
  rw [run_convert_bytes_string W 22 9 5 _ n cap Ybaf.underlying22 Ybaf.underlying5 Ybaf.underlying9, run_bytesToString W _ n cap xs hl, foldl_push_bytes]
  simp [strOfNums, ByteArray.empty, ByteArray.emptyWithCapacity]
  rfl

theorem add_block (a : Addr) (j : Nat) : (a.add j).block = a.block := by unfold Addr.add; split <;> rfl

theorem open_raw {H : Type} {enc : TypeId × Value → H} {W : World} {base : Nat} {v : Value} {d : DataW H} {p : List MemPlace} (hv : Value.okWide Ybaf.prog W .any base 22 v) (h : DataW.Trod enc Ybaf.prog W 0 (fun _ => true) true 22 v d p) (hlt : ∀ x ∈ p, x.block < W.heap.size) :
    ∃ a n cap s, v = .slice a n cap ∧ ∀ W', Below W.heap.size W W' → (convert 22 9 (.slice a n cap)).run Ybaf.prog W' = .ok (.string s) W' := by
  obtain ⟨a0, len, cap, rfl⟩ := okWide_slice Ybaf.underlying22 hv
  obtain ⟨fuel, hf⟩ := h
  rcases open_ints Ybaf.underlying22 Ybaf.underlying5 cells5 hf with ⟨hcs, hx⟩ | ⟨a, len', cap', zs, hcs, _, hl, hm, hz, hx, hcell, hwz⟩
  · simp [Value.cells] at hcs
    obtain ⟨rfl, rfl, rfl⟩ := hcs
    exact ⟨none, 0, 0, ByteArray.empty, rfl, fun W' _ => run_convert_bytes_nil W' 22 5 Ybaf.underlying22 Ybaf.underlying5 0 0 9 Ybaf.underlying9⟩
  · simp [Value.cells] at hcs
    obtain ⟨rfl, rfl, rfl⟩ := hcs
    simp only [Prod.mk.injEq] at hx
    obtain ⟨rfl, rfl⟩ := hx
    simp only [if_true] at hz
    have hxl : (zs.take len).length = len := by rw [List.length_take]; omega
    refine ⟨some a, len, cap, strOfNums (zs.take len), rfl, fun W' hb => conv_some W' a len cap (zs.take len) hxl fun j hj => ?_⟩
    have hab : a.block < W.heap.size := hlt (.cell a.block a.off) (MemPlace.mem_row.2 ⟨0, by omega, by simp⟩)
    rw [hb.cell (by rw [add_block]; exact hab), hcell j (by omega)]
    simp [hj]

theorem Ybaf.own : ownKnob Ybaf.prog.godebug = none := by kernel_rfl
theorem Ybaf.laidOut : laidOutB Ybaf.pinned.checked.prog = true := by kernel_rfl
theorem Ybaf.stopKnobs : Ybaf.pinned.checked.prog.stopKnobs = [] := by kernel_rfl
theorem Ybaf.quiet (os : Os) : Stop.quiet Ybaf.pinned.checked.prog os := by
  intro k hk
  rw [Ybaf.stopKnobs] at hk
  cases hk

set_option maxRecDepth 100000 in
theorem bound_lifted (os : Os) (started : os.Started) (H : Type) (enc : TypeId × Value → H) :
    ReturnsInTold none {} Ybaf.checked os 3 .any Input.okWide ((OpenSpec.ofChange Rows.lawS2420CTierBoundSpec).preRow enc Ybaf.prog Ybaf.f3 [] false []) (fun F => ((OpenSpec.ofChange Rows.lawS2420CTierBoundSpec).at F).post enc Ybaf.prog Ybaf.f3 false true false false) (aloneAtReturn Ybaf.prog) nothingAlways := by
  refine returnsInTold_of_row (C := Ybaf.checked) (s := OpenSpec.ofChange Rows.lawS2420CTierBoundSpec) (by kernel_rfl) Ybaf.own started (by kernel_rfl) Ybaf.func3
    (OpenSpec.witness_stopped (enc := enc) (C := Ybaf.checked) false ⟨#[], #[.string ByteArray.empty, .bool false, .slice none 0 0, .string ByteArray.empty, .slice none 0 0, .bool false, .bool false, .int .i64 0], []⟩ 8 (by kernel_rfl) (by kernel_rfl) (by kernel_rfl) (by kernel_rfl)) ?_
  intro F W base args ds gs before _ hF hval0 hW _ _ _ _ _
  have hval : ∀ (j : Nat) t v, Ybaf.f3.params[j]? = some t → args[j]? = some v → Value.okWide Ybaf.prog W .any base t v := hval0
  have hW' := hW
  obtain ⟨p, q, hA0, hV, rfl, _, _⟩ := hW
  have hA : DataW.TrodAll enc Ybaf.prog W 0 (fun _ => true) true Ybaf.f3.params.toList args.toList ds p := hA0
  rw [Ybaf.params3] at hA hval
  obtain ⟨v0, vs0, d0, ds0, p0, q0, hargs, rfl, rfl, h0, r0⟩ := trodAll_cons hA
  obtain ⟨v1, vs1, d1, ds1, p1, q1, rfl, rfl, rfl, h1, r1⟩ := trodAll_cons r0
  obtain ⟨v2, vs2, d2, ds2, p2, q2, rfl, rfl, rfl, h2, r2⟩ := trodAll_cons r1
  obtain ⟨v3, vs3, d3, ds3, p3, q3, rfl, rfl, rfl, h3, r3⟩ := trodAll_cons r2
  obtain ⟨v4, vs4, d4, ds4, p4, q4, rfl, rfl, rfl, h4, r4⟩ := trodAll_cons r3
  obtain ⟨v5, vs5, d5, ds5, p5, q5, rfl, rfl, rfl, h5, r5⟩ := trodAll_cons r4
  obtain ⟨v6, vs6, d6, ds6, p6, q6, rfl, rfl, rfl, h6, r6⟩ := trodAll_cons r5
  obtain ⟨v7, vs7, d7, ds7, p7, q7, rfl, rfl, rfl, h7, r7⟩ := trodAll_cons r6
  obtain ⟨rfl, rfl, rfl⟩ := trodAll_nil r7
  obtain rfl : args = #[v0, v1, v2, v3, v4, v5, v6, v7] := by cases args; simp_all
  obtain ⟨rfl, rfl⟩ := trodVars_none hV
  clear hA0 hval0
  simp only [List.append_nil] at hW'
  have hlt : ∀ x ∈ p0 ++ (p1 ++ (p2 ++ (p3 ++ (p4 ++ (p5 ++ (p6 ++ p7)))))), x.block < W.heap.size := fun x hx => by simpa using hW'.lt x hx
  obtain ⟨key, rfl, _, _, hk⟩ := open_string Ybaf.underlying9 (hval 0 9 v0 rfl rfl) h0
  obtain ⟨present, rfl, _, _⟩ := open_bool Ybaf.underlying4 (hval 1 4 v1 rfl rfl) h1
  obtain ⟨ra, rn, rc, s, rfl, hcv⟩ := open_raw (hval 2 22 v2 rfl rfl) h2 (fun x hx => hlt x (by simp [hx]))
  obtain ⟨ok, rfl, _, _, hok⟩ := open_string Ybaf.underlying9 (hval 3 9 v3 rfl rfl) h3
  obtain ⟨oa, on, oc, rfl⟩ := okWide_slice Ybaf.underlying22 (hval 4 22 v4 rfl rfl)
  obtain ⟨last, rfl, _, _⟩ := open_bool Ybaf.underlying4 (hval 5 4 v5 rfl rfl) h5
  obtain ⟨fail, rfl, _, _⟩ := open_bool Ybaf.underlying4 (hval 6 4 v6 rfl rfl) h6
  obtain ⟨val, rfl, _, _, wv⟩ := open_int Ybaf.underlying3 (hval 7 3 v7 rfl rfl) h7
  refine (law_all F.told key ok ra oa rn rc on oc s present last fail val W hF hk hok hcv).mono fun e W' ⟨he, hb⟩ => ?_
  subst he
  refine ⟨_, rfl, _, _, _, [], p0 ++ (p1 ++ (p2 ++ (p3 ++ (p4 ++ (p5 ++ (p6 ++ p7)))))), [], hW', ?_, ?_, rfl, hb.frame _, fun h => by cases h⟩
  · exact trodAll_mk1 (shut_bool Ybaf.underlying4 true)
  · have tr : ∀ {t : TypeId} {v : Value} {d : DataW H} {pl : List MemPlace}, DataW.Trod enc Ybaf.prog W 0 (fun _ => true) true t v d pl → (∀ x ∈ pl, x ∈ p0 ++ (p1 ++ (p2 ++ (p3 ++ (p4 ++ (p5 ++ (p6 ++ p7))))))) → (t = 9 ∨ t = 4 ∨ t = 22 ∨ t = 3) → DataW.Trod enc Ybaf.prog W' 0 (fun b => decide (b < W.heap.size)) true t v d pl := by
      intro t v d pl h hin ht
      rcases ht with rfl | rfl | rfl | rfl
      · exact Below.trod Ybaf.laidOut (by kernel_rfl) (of_decide_eq_true (by kernel_rfl)) h hb (fun x hx => hlt x (hin x hx))
      · exact Below.trod Ybaf.laidOut (by kernel_rfl) (of_decide_eq_true (by kernel_rfl)) h hb (fun x hx => hlt x (hin x hx))
      · exact Below.trod Ybaf.laidOut (by kernel_rfl) (of_decide_eq_true (by kernel_rfl)) h hb (fun x hx => hlt x (hin x hx))
      · exact Below.trod Ybaf.laidOut (by kernel_rfl) (of_decide_eq_true (by kernel_rfl)) h hb (fun x hx => hlt x (hin x hx))
    have hz := trodAll_cons_mk (tr h0 (fun x hx => by simp [hx]) (by simp)) (trodAll_cons_mk (tr h1 (fun x hx => by simp [hx]) (by simp)) (trodAll_cons_mk (tr h2 (fun x hx => by simp [hx]) (by simp)) (trodAll_cons_mk (tr h3 (fun x hx => by simp [hx]) (by simp))
      (trodAll_cons_mk (tr h4 (fun x hx => by simp [hx]) (by simp)) (trodAll_cons_mk (tr h5 (fun x hx => by simp [hx]) (by simp)) (trodAll_cons_mk (tr h6 (fun x hx => by simp [hx]) (by simp)) (trodAll_cons_mk (tr h7 (fun x hx => by simp [hx]) (by simp)) trodAll_mk0)))))))
    rw [List.append_nil] at hz
    exact hz

theorem bound_told : Rows.LawS2420CTierBoundToldSaid :=
  Claim7.holds_of_told_any 3 Ybaf.f3 _ [] [] _ _ _ (by kernel_rfl) rfl rfl rfl Ybaf.laidOut (by kernel_rfl) rfl ⟨rfl, rfl, rfl, rfl, rfl, rfl, rfl⟩ rfl rfl (by kernel_rfl) (by kernel_rfl) Ybaf.func3 (by kernel_rfl)
    (of_decide_eq_true (by kernel_rfl)) (by unfold Func.isWrapper; first | (rw [if_pos (by decide +kernel)]; kernel_rfl) | (rw [if_neg (by decide +kernel)]; exact ⟨rfl, rfl⟩)) (by kernel_rfl) rfl Ybaf.stopKnobs.symm (by kernel_rfl)
    (by kernel_rfl) (by kernel_rfl) (by kernel_rfl) (by kernel_rfl) (by kernel_rfl) (by kernel_rfl) (by kernel_rfl) (by kernel_rfl) (by kernel_rfl) rfl (by kernel_rfl) rfl rfl
    rfl rfl
    rfl (by kernel_rfl) (by kernel_rfl) (by kernel_rfl) (by decide) (by kernel_rfl)
    (OpenClaim.moreEntering_of (by kernel_rfl) (by kernel_rfl) (by kernel_rfl) (by kernel_rfl) (by kernel_rfl) (by kernel_rfl) (by kernel_rfl) (by kernel_rfl) (by kernel_rfl) (by kernel_rfl))
    ⟨_, WideRow.started_initial, Ybaf.quiet _⟩
    (fun os started _ H enc _ => bound_lifted os started H enc)
#print axioms bound_told
end Go.Proofs.YbulkaxccFmt
