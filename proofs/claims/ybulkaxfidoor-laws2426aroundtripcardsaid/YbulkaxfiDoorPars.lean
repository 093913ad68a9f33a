/-
  ParseTraceID WALKED out of contracts, the id kept behind a name.
-/
import Derived.Test.YbulkaxfiDoorTrip
import Derived.RegionTactic
namespace Go.Proofs.YbulkaxfiDoor
open Go.RowKit Go.Lib

theorem setRow_old {w : World} {o : Obj} {A : Array Value} {N : Nat} (h : N < w.heap.size) : (w.alloc o).setRow N A = (w.setRow N A).alloc o := by
  show World.setRow { w with heap := w.heap.push o } N A = { w.setRow N A with heap := (w.setRow N A).heap.push o }
  unfold World.setRow
  congr 1
  apply Array.ext_getElem?
  intro i
  simp only [Array.getElem?_modify, Array.getElem?_push, Array.size_modify]
  by_cases e : N = i
  · subst e
    have : ¬ N = w.heap.size := by omega
    simp [this]
  · simp [e]

/-- A store of a whole row into the block that lies third from the end. -/
theorem wpList_store_third {P : Program} {ops : Array Oper} {rest : List Oper} {o : Oper} {a : Act} {w : World} {Q : Exit → Act → World → Prop} (hgd : o.guard = none) (ty : TypeId) (x y : Operand) (ho : o.op = .store ty x y)
    (t : TypeId) (old : Array Value) (u v : Obj) (g : Nat) (cells : Array Value) (hx : a.eval x = .pointer (some ⟨g, 0, none⟩)) (hy : a.eval y = .agg cells)
    (hi : (P.info? ty).map (·.size) = some cells.size) (h1 : cells.all (·.oneCell') = true) (hold : old.size = cells.size) (hN : w.heap.size = g)
    (h : wpList P ops Q rest (a.put o.dst undef) (((w.alloc (.cells cells t)).alloc u).alloc v)) : wpList P ops Q (o :: rest) a (((w.alloc (.cells old t)).alloc u).alloc v) :=
  wpList_store_row hgd ty x y ho g cells hx hy t old (row_old (row_old (row_new hN))) hi hold h1 (by
    rw [setRow_old (by subst hN; simp; omega), setRow_old (by subst hN; simp), setRow_new hN]; exact h)

theorem zero23 : ∃ Z : Array Value, (∀ w, (zeroValue 23).run Ybad.prog w = .ok (.agg Z) w) ∧ Z = #[.int .u8 0, .int .u8 0, .int .u8 0, .int .u8 0, .int .u8 0, .int .u8 0, .int .u8 0, .int .u8 0, .int .u8 0, .int .u8 0, .int .u8 0, .int .u8 0, .int .u8 0, .int .u8 0, .int .u8 0, .int .u8 0] :=
  ⟨_, fun _ => by kernel_rfl, rfl⟩

set_option maxHeartbeats 1000000 in
set_option maxRecDepth 100000 in
theorem parse_walk (A Z : Array Value) (s : ByteArray) (hz : ∀ w, (zeroValue 23).run Ybad.prog w = .ok (.agg Z) w) (HZ : Hid (Z.size = 16)) (H16 : Hid (A.size = 16)) (H1 : Hid (A.all (·.oneCell') = true))
    (HD : Hid (∀ (W : World) (b : Nat), W.heap.size = b → Calls Ybad.prog 7 #[.slice (some ⟨b, 0, none⟩) 16 16, .string s] (W.alloc (.cells Z 23)) fun e w' => e = .returned (.bool true) ∧ w' = W.alloc (.cells A 23)))
    (HV : Hid (∀ w, Calls Ybad.prog 6 #[.agg A] w fun e w' => e = .returned (.bool true) ∧ w' = w.alloc (.cells A 23)))
    (w : World) : Calls Ybad.prog 4 #[.string s] w fun e w' => e = .returned (.tuple #[.agg A, .nilIface]) ∧ Below w.heap.size w w' := by
  have I23 : Hid ((Ybad.prog.info? 23).map (·.size) = some A.size) := by rw [H16.out]; exact size23
  go_enter Ybad.func4, Ybad.ntmps4
  go_wp2_with fail
  refine (HD.out _ _ (by simp)).mono ?_
  rintro e w1 ⟨rfl, rfl⟩
  go_wp2_with (refine wpList_load_whole rfl 23 _ rfl _ rfl _ A _ Ybad.underlying23 rfl I23.out (row_new (by simp)) ?_; dsimp only)
  refine (HV.out _).mono ?_
  rintro e w1 ⟨rfl, rfl⟩
  go_wp2_with (first
    | (refine wpList_load_whole rfl 23 _ rfl _ rfl _ A _ Ybad.underlying23 rfl I23.out (row_old (row_new (by simp))) ?_; dsimp only)
    | (refine wpList_store_third rfl 23 _ _ rfl _ _ _ _ _ A rfl rfl I23.out H1.out (by rw [HZ.out, H16.out]) rfl ?_; dsimp only))
  have hl := run_loadVar_row (P := Ybad.prog) (((w.alloc (.cells A 23)).alloc (.cells A 23)).alloc (.cells A 23)) w.heap.size 23 23 A (0, 0) _ (row_old (row_old (row_new rfl))) Ybad.underlying23 rfl I23.out
  refine bodyPost_ret (v := .tuple #[.agg A, .nilIface]) (by simp [results, Ybad.results4, asAddr, hl]) rfl ⟨rfl, ?_⟩
  exact (((Below.refl _ _).alloc (Nat.le_refl _) _).alloc (by simp) _).alloc (by simp; omega) _

/-- The zeros stored over the zeros. -/
theorem store_same (Z : Array Value) (w : World) (u v : Obj) (h1 : Z.all (·.oneCell') = true) :
    (storeCells ⟨w.heap.size, 0, none⟩ Z.toList).run Ybad.prog (((w.alloc (.cells Z 23)).alloc u).alloc v).drew = .ok () (((w.alloc (.cells Z 23)).alloc u).alloc v).drew := by
  have := run_storeCells_from (P := Ybad.prog) w.heap.size 23 Z.toList 0 Z (((w.alloc (.cells Z 23)).alloc u).alloc v).drew (row_old (row_old (row_new rfl))) (by simp) (fun v hv => (Array.all_eq_true_iff_forall_mem.1 h1) v (by simpa using hv))
  rw [this]
  have e : ((((w.alloc (.cells Z 23)).alloc u).alloc v).drew).setRow w.heap.size (List.take 0 Z.toList ++ Z.toList).toArray = ((((w.alloc (.cells Z 23)).alloc u).alloc v).setRow w.heap.size Z).drew := by
    simp only [List.take_zero, List.nil_append, Array.toArray_toList]
    rfl
  rw [e, setRow_old (by simp; omega), setRow_old (by simp), setRow_new rfl]

set_option maxHeartbeats 1000000 in
set_option maxRecDepth 100000 in
theorem parse_walk0 (Z : Array Value) (s : ByteArray) (T : TypeId) (a : Addr) (hz : ∀ w, (zeroValue 23).run Ybad.prog w = .ok (.agg Z) w) (H16 : Hid (Z.size = 16)) (H1 : Hid (Z.all (·.oneCell') = true))
    (HD : Hid (∀ (W : World) (b : Nat), W.heap.size = b → Calls Ybad.prog 7 #[.slice (some ⟨b, 0, none⟩) 16 16, .string s] (W.alloc (.cells Z 23)) fun e w' => e = .returned (.bool true) ∧ w' = W.alloc (.cells Z 23)))
    (HV : Hid (∀ w, Calls Ybad.prog 6 #[.agg Z] w fun e w' => e = .returned (.bool false) ∧ w' = w.alloc (.cells Z 23)))
    (w : World) (hc : w.cell? ⟨1, 0, none⟩ = some (.iface T (.pointer (some a)))) (l1 : 1 < w.heap.size) : Calls Ybad.prog 4 #[.string s] w fun e w' => e = .returned (.tuple #[.agg Z, .iface T (.pointer (some a))]) ∧ Below w.heap.size w w' := by
  have I23 : Hid ((Ybad.prog.info? 23).map (·.size) = some Z.size) := by rw [H16.out]; exact size23
  have l2 : 1 < w.heap.size + 1 := by omega
  have l3 : 1 < w.heap.size + 1 + 1 := by omega
  have h16 : Z.size = 16 := H16.out
  go_enter Ybad.func4, Ybad.ntmps4
  go_wp2_with fail
  refine (HD.out _ _ (by simp)).mono ?_
  rintro e w1 ⟨rfl, rfl⟩
  go_wp2_with (refine wpList_load_whole rfl 23 _ rfl _ rfl _ Z _ Ybad.underlying23 rfl I23.out (row_new (by simp)) ?_; dsimp only)
  refine (HV.out _).mono ?_
  rintro e w1 ⟨rfl, rfl⟩
  go_wp2
  have hst := store_same Z w (.cells Z 23) (.cells Z 23) H1.out
  go_region
  all_goals go_wp2
  all_goals
    have hl := run_loadVar_row (P := Ybad.prog) (((w.alloc (.cells Z 23)).alloc (.cells Z 23)).alloc (.cells Z 23)).drew w.heap.size 23 23 Z (0, 0) _ (row_old (row_old (row_new rfl))) Ybad.underlying23 rfl I23.out
    refine bodyPost_ret (v := .tuple #[.agg Z, .iface T (.pointer (some a))]) (by simp [results, Ybad.results4, asAddr, hl]) rfl ⟨rfl, ?_⟩
    exact ((((Below.refl _ _).alloc (Nat.le_refl _) _).alloc (by simp) _).alloc (by simp; omega) _).drew

end Go.Proofs.YbulkaxfiDoor
