/-
  'Rows.LawS2418BSetsSaid' PROVED: the seat's shell, its one hole (the walk) filled. On a Writer that has spilled nothing SpillTo makes the given Spill the Writer's spill; a second call replaces the first.
-/
import Derived.Test.YbulkaxbaRows
import Derived.WalkKit
import Derived.ProofKit
import Derived.OpenShut
import Derived.ShutString
import Derived.WalkSpells
import Derived.LaidEql
namespace Go.Proofs.Ybulkaxba.lawS2418BSets
open Go.ChangeShapes Go.WideShapes Go.ChangeAt Go.RowKit
open Go.ChangeMaps (open_string shut_string)
set_option linter.unusedVariables false      -- a walk need not use every 'w<i>' (that an integer argument fits its kind)

theorem own : ownKnob Yba.prog.godebug = none := by kernel_rfl

/-! ### STEP 1: THE WALK. The zero Writer (238 cells) is kept behind a name. -/
theorem run_neq_iface_ptr_same {P : Program} {ti tp te : TypeId} {ms : Array (String × TypeId)} {i j : TypeInfo} (a : Addr)
    (hi : P.underlying ti = some (.interface ms)) (hp : P.underlying tp = some (.pointer te)) (hinfo : P.info? tp = some i) (hcomp : i.comparable = true) (hte : P.info? te = some j) (w : World) :
    (binOp .neq ti (.iface tp (.pointer (some a))) (.iface tp (.pointer (some a)))).run P w = .ok (.bool false) w := by
  simp only [binOp]
  simp [Op.equal, Op.maxDepth, run_equalIn_iface_ptr_same w 9998 a hi hp hinfo hcomp hte]

/-- The zero Writer's cells: of the 238 those two that the law looks at unset. -/
theorem zero52 : ∃ Z : Array Value, (∀ w, (zeroValue 52).run Yba.prog w = .ok (.agg Z) w) ∧ Z.size = 238 ∧ Z[222]? = some (.pointer none) ∧ Z[223]? = some (.int .i64 0) :=
  ⟨match ((Yba.prog.info? 52).bind (·.zero)).getD undef with | .agg cs => cs | _ => #[], fun _ => by kernel_rfl, by kernel_rfl, by kernel_rfl, by kernel_rfl⟩

theorem comp53 : ∃ i, Yba.prog.info? 53 = some i ∧ i.comparable = true := ⟨_, rfl, by kernel_rfl⟩
theorem info55 : ∃ i, Yba.prog.info? 55 = some i := ⟨_, rfl⟩

set_option maxRecDepth 100000 in
set_option maxHeartbeats 400000 in
theorem walk1 (a0 : Int) (a1 : Bool) (h0 : 0 ≤ a0) (h1 : a0 ≤ 65535) (w : World) (Z : Array Value) (hz : ∀ w, (zeroValue 52).run Yba.prog w = .ok (.agg Z) w) (hs : Z.size = 238) (hz1 : ∀ h : 222 < Z.size, Z[222] = .pointer none) (hz2 : ∀ h : 223 < Z.size, Z[223] = .int .i64 0) :
    Calls Yba.prog 3 #[.int .u16 a0, .bool a1] w fun e w' => e = .returned (.bool true) ∧ Grown w w' := by
  obtain ⟨i53, hi53, hc53⟩ := comp53
  obtain ⟨i55, hi55⟩ := info55
  have hneq := fun a => run_neq_iface_ptr_same (P := Yba.prog) (ti := 47) (tp := 53) a Yba.underlying47 Yba.underlying53 hi53 hc53 hi55
  clear hi53 hc53 hi55
  cases a1 with
  | false =>
    go_enter Yba.func3, Yba.ntmps3
    go_wp2
    go_end0
    go_wp2
    go_ret
    exact ⟨rfl, by repeat (first | exact Grown.refl _ | apply Grown.alloc)⟩
  | true =>
    go_enter Yba.func3, Yba.ntmps3
    go_wp2
    go_end0
    go_wp2
    go_end0
    go_wp2
    go_ret
    exact ⟨rfl, by repeat (first | exact Grown.refl _ | apply Grown.alloc)⟩

theorem walk (a0 : Int) (a1 : Bool) (w0 : (Lit.int .u16 a0).wf = true) (w : World) :
    Calls Yba.prog 3 #[.int .u16 a0, .bool a1] w fun e w' => e = .returned (.bool true) ∧ Grown w w' := by
  obtain ⟨Z, hz, hs, hz1, hz2⟩ := zero52
  obtain ⟨h0, h1⟩ : 0 ≤ a0 ∧ a0 ≤ 65535 := by
    have := bounds_u16 w0
    omega
  exact walk1 a0 a1 h0 h1 w Z hz hs (fun h => by rw [Array.getElem?_eq_getElem h] at hz1; exact Option.some.inj hz1) (fun h => by rw [Array.getElem?_eq_getElem h] at hz2; exact Option.some.inj hz2)

/-! ### THE ROW's STEP: WRITTEN OUT: LEAVE IT -/
set_option maxRecDepth 100000 in
theorem lifted (os : Os) (started : os.Started) (H : Type) (enc : TypeId × Value → H) :
    ReturnsInHanded {} Yba.checked os 3 .any (Rows.lawS2418BSetsSpec.pre6 enc Yba.prog Yba.f3 Rows.lawS2418BSetsRow.domain false) (Rows.lawS2418BSetsSpec.post enc Yba.prog Yba.f3 false true false false) := by
  refine returnsInHanded_of_change (C := Yba.checked) own started (by kernel_rfl) Yba.func3
    (ChangeSpec.witness6 (enc := enc) (C := Yba.checked) false ⟨#[], #[.int .u16 0, .bool false], []⟩ 8 (by kernel_rfl) (by kernel_rfl) (by kernel_rfl) (by kernel_rfl)) ?_
  intro W base args ds gs before hval0 hW hcnd _
  have hval : ∀ (j : Nat) t v, Yba.f3.params[j]? = some t → args[j]? = some v → Value.okWide Yba.prog W .any base t v := hval0
  have hW' := hW
  obtain ⟨p, q, hA0, hV, rfl, hfz, hnd⟩ := hW
  have hA : DataW.TrodAll enc Yba.prog W 0 (fun _ => true) true Yba.f3.params.toList args.toList ds p := hA0
  rw [Yba.params3] at hA hval
  obtain ⟨v0, vs0, d0, ds0, p0, q0, hargs, rfl, rfl, h0, r0⟩ := trodAll_cons hA
  obtain ⟨v1, vs1, d1, ds1, p1, q1, rfl, rfl, rfl, h1, r1⟩ := trodAll_cons r0
  obtain ⟨rfl, rfl, rfl⟩ := trodAll_nil r1
  obtain rfl : args = #[v0, v1] := by cases args; simp_all
  obtain ⟨rfl, rfl⟩ := trodVars_none hV
  obtain ⟨a0, rfl, rfl, rfl, w0⟩ := open_int Yba.underlying22 (hval 0 22 v0 rfl rfl) h0
  obtain ⟨a1, rfl, rfl, rfl⟩ := open_bool Yba.underlying4 (hval 1 4 v1 rfl rfl) h1
  clear hA0 hval0
  simp only [List.append_nil] at hW'
  refine (walk a0 a1 w0 W).mono fun e W' ⟨he, hg⟩ => ?_
  subst he
  exact ⟨_, rfl, post_of_same (pa := []) (pv := []) hW' (fun _ _ _ => (trodAll_cons_mk (shut_bool Yba.underlying4 _) trodAll_mk0)) (fun sp _ => (trodAll_cons_mk (shut_int Yba.underlying22 w0) (trodAll_cons_mk (shut_bool Yba.underlying4 _) trodAll_mk0))) (fun _ _ => rfl) rfl
    (hg.frame _) hg.2.1 (ok_one (by kernel_rfl) rfl (okWide_bool_mk Yba.underlying4 _))⟩

theorem over : Rows.lawS2418BSetsRow.holds Yba.pinned (OpenSpec.ofChange Rows.lawS2418BSetsSpec) :=
  OpenClaim.holds_of_wide 3 Yba.f3 rfl rfl rfl rfl rfl rfl rfl ⟨rfl, rfl, rfl, rfl, rfl⟩ rfl rfl rfl rfl rfl (by kernel_rfl) Yba.func3 (by kernel_rfl)
    (of_decide_eq_true (by kernel_rfl)) (by unfold Func.isWrapper; first | (rw [if_pos (by decide +kernel)]; kernel_rfl) | (rw [if_neg (by decide +kernel)]; exact ⟨rfl, rfl⟩))
    (fun os started H enc _ => lifted os started H enc)

/-- ████ THE STATEMENT ████ -/
theorem proved : Rows.LawS2418BSetsSaid :=
  over
#print axioms proved
end Go.Proofs.Ybulkaxba.lawS2418BSets
