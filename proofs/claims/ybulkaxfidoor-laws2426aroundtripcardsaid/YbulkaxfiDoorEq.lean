/-
  '==' AND '!=' OF TWO TraceIDs (arrays of sixteen bytes): as the bytes are. (The kit has the law for structs, Derived/Laws/StructEq.lean; for arrays it has none.)
-/
import Derived.Test.YbulkaxfiDoorEnc
import Derived.Laws.StructEq
namespace Go.Proofs.YbulkaxfiDoor
open Go.RowKit Go.Lib

/-- The sixteen bytes as an array of cells. -/
def arr (g : Nat → Int) : Array Value := #[.int .u8 (g 0), .int .u8 (g 1), .int .u8 (g 2), .int .u8 (g 3), .int .u8 (g 4), .int .u8 (g 5), .int .u8 (g 6), .int .u8 (g 7), .int .u8 (g 8), .int .u8 (g 9), .int .u8 (g 10), .int .u8 (g 11), .int .u8 (g 12), .int .u8 (g 13), .int .u8 (g 14), .int .u8 (g 15)]

theorem size5 : ∃ i, Ybad.prog.info? 5 = some i ∧ i.size = 1 := ⟨_, rfl, by kernel_rfl⟩

theorem arr_at (g : Nat → Int) (i : Nat) (h : i < 16) : (arr g)[i]? = some (.int .u8 (g i)) := by
  obtain rfl | rfl | rfl | rfl | rfl | rfl | rfl | rfl | rfl | rfl | rfl | rfl | rfl | rfl | rfl | rfl : i = 0 ∨ i = 1 ∨ i = 2 ∨ i = 3 ∨ i = 4 ∨ i = 5 ∨ i = 6 ∨ i = 7 ∨ i = 8 ∨ i = 9 ∨ i = 10 ∨ i = 11 ∨ i = 12 ∨ i = 13 ∨ i = 14 ∨ i = 15 := by omega
  all_goals rfl

theorem part_at (g : Nat → Int) (i : Nat) (h : i < 16) (w : World) : (part 5 (arr g) i).run Ybad.prog w = .ok (.int .u8 (g i)) w := by
  unfold part
  simp [arr_at g i h]

theorem loop16 (d : Nat) (f h : Nat → Int) (w : World) : ∀ (L : List Nat), (∀ i ∈ L, i < 16) →
    Sem.run Ybad.prog (forIn L ((none : Option Bool), ()) fun i _ => do
            let a ← part 5 (arr f) i
            let b ← part 5 (arr h) i
            let r ← Op.equalIn (d + 1) 5 a b
            if r = false then pure (ForInStep.done (some false, ())) else pure (ForInStep.yield (none, ()))) w =
      .ok (if L.all (fun i => f i == h i) then none else some false, ()) w
  | [], _ => by simp
  | i :: L, hL => by
    have ih := loop16 d f h w L (fun j hj => hL j (List.mem_cons_of_mem _ hj))
    have hi := hL i List.mem_cons_self
    by_cases e : f i = h i
    · simp only [List.forIn_cons, Sem.run_bind, part_at _ i hi, Result.andThen_ok, run_equalIn_int w d 5 .u8 .u8 _ _ Ybad.underlying5, e, beq_self_eq_true, Bool.true_eq_false, if_false, Sem.run_pure, List.all_cons, Bool.true_and]
      exact ih
    · have eb : (f i == h i) = false := by simpa using e
      simp only [List.forIn_cons, Sem.run_bind, part_at _ i hi, Result.andThen_ok, run_equalIn_int w d 5 .u8 .u8 _ _ Ybad.underlying5, eb, if_true, Sem.run_pure, List.all_cons, Bool.false_and, Bool.false_eq_true, if_false]

theorem eq16 (d : Nat) (f h : Nat → Int) (w : World) (b : Bool) (hb : b = true ↔ ∀ i, i < 16 → f i = h i) : (Op.equalIn (d + 2) 23 (.agg (arr f)) (.agg (arr h))).run Ybad.prog w = .ok b w := by
  obtain ⟨i5, hi5, hs5⟩ := size5
  rw [Op.equalIn]
  simp only [Sem.run_bind, run_underlying Ybad.underlying23, Result.andThen_ok]
  simp [sizeOf, typeInfo, hi5, hs5]
  rw [loop16 d f h w _ (fun i hi => by simp [List.mem_range'] at hi; omega)]
  have e : (List.range' 0 16).all (fun i => f i == h i) = b := by
    rw [Bool.eq_iff_iff, hb, List.all_eq_true]
    constructor
    · intro hx i hi
      simpa using hx i (by simp [List.mem_range']; omega)
    · intro hx i hi
      simp [List.mem_range'] at hi
      simpa using hx i (by omega)
  rw [e]
  cases b <;> simp

theorem eql16 (f h : Nat → Int) (b : Bool) (hb : b = true ↔ ∀ i, i < 16 → f i = h i) (w : World) : (binOp .eql 23 (.agg (arr f)) (.agg (arr h))).run Ybad.prog w = .ok (.bool b) w := by
  rw [run_eql_struct, eq16 9998 f h w b hb]
  rfl
theorem neq16 (f h : Nat → Int) (b : Bool) (hb : b = true ↔ ∀ i, i < 16 → f i = h i) (w : World) : (binOp .neq 23 (.agg (arr f)) (.agg (arr h))).run Ybad.prog w = .ok (.bool (!b)) w := by
  rw [run_neq_struct, eq16 9998 f h w b hb]
  rfl

end Go.Proofs.YbulkaxfiDoor
