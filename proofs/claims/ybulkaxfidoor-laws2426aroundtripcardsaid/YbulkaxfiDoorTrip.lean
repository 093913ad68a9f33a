/-
  LawS2426ARoundTrip WALKED out of contracts, the id kept behind a name: whole rows are loaded and laid by laws of their own.
-/
import Derived.Test.YbulkaxfiDoorEq
import Derived.Laws.Rows
namespace Go.Proofs.YbulkaxfiDoor
open Go.RowKit Go.Lib

theorem row_new {w : World} {o : Obj} {N : Nat} (h : w.heap.size = N) : (w.alloc o).heap[N]? = some o := by
  subst h
  show (w.heap.push o)[w.heap.size]? = _
  simp
theorem row_old {w : World} {o x : Obj} {N : Nat} (h : w.heap[N]? = some x) : (w.alloc o).heap[N]? = some x := by
  have hlt : N < w.heap.size := by
    rcases Nat.lt_or_ge N w.heap.size with h' | h'
    · exact h'
    · rw [Array.getElem?_eq_none h'] at h; cases h
  show (w.heap.push o)[N]? = _
  simp only [Array.getElem?_push, Nat.ne_of_lt hlt, if_false]
  exact h
theorem row_below {B : Nat} {w w' : World} {x : Obj} {N : Nat} (hb : Below B w w') (hN : N < B) (h : w.heap[N]? = some x) : w'.heap[N]? = some x := by
  rw [hb.block N hN]; exact h

theorem setRow_new {w : World} {old A : Array Value} {t : TypeId} {N : Nat} (h : w.heap.size = N) : (w.alloc (.cells old t)).setRow N A = w.alloc (.cells A t) := by
  subst h
  show World.setRow { w with heap := w.heap.push (.cells old t) } w.heap.size A = { w with heap := w.heap.push (.cells A t) }
  unfold World.setRow
  congr 1
  apply Array.ext_getElem?
  intro i
  simp only [Array.getElem?_modify, Array.getElem?_push]
  by_cases e : w.heap.size = i
  · subst e; simp
  · have e' : ¬ i = w.heap.size := fun h => e h.symm
    simp [e, e']

/-- A load of a whole row, guarded or not. -/
theorem wpList_load_whole {P : Program} {ops : Array Oper} {rest : List Oper} {o : Oper} {a : Act} {w : World} {Q : Exit → Act → World → Prop} (hw : Region.wanted o (yielded ops a.tmps) = true) (ty : TypeId) (x : Operand) (ho : o.op = .load ty x)
    (g : Nat) (hx : a.eval x = .pointer (some ⟨g, 0, none⟩)) (t : TypeId) (cs : Array Value) (d : TypeDesc)
    (hu : P.underlying ty = some d) (hd : (match d with | .struct _ | .array _ _ => true | _ => false) = true) (hi : (P.info? ty).map (·.size) = some cs.size) (hg : w.heap[g]? = some (.cells cs t (0, 0)))
    (h : wpList P ops Q rest (a.put o.dst (.agg cs)) w) : wpList P ops Q (o :: rest) a w :=
  wpList_step fun _ hK => by
    rw [if_pos hw]
    exact wp_load_row ty x ho g hx t cs (0, 0) d hg hu hd hi (hK _ _ h)

/-- A store of a whole row into the block laid last. -/
theorem wpList_store_new {P : Program} {ops : Array Oper} {rest : List Oper} {o : Oper} {a : Act} {w : World} {Q : Exit → Act → World → Prop} (hgd : o.guard = none) (ty : TypeId) (x y : Operand) (ho : o.op = .store ty x y)
    (t : TypeId) (old : Array Value) (g : Nat) (cells : Array Value) (hx : a.eval x = .pointer (some ⟨g, 0, none⟩)) (hy : a.eval y = .agg cells)
    (hi : (P.info? ty).map (·.size) = some cells.size) (h1 : cells.all (·.oneCell') = true) (hold : old.size = cells.size) (hN : w.heap.size = g)
    (h : wpList P ops Q rest (a.put o.dst undef) (w.alloc (.cells cells t))) : wpList P ops Q (o :: rest) a (w.alloc (.cells old t)) :=
  wpList_store_row hgd ty x y ho g cells hx hy t old (row_new hN) hi hold h1 (by rw [setRow_new hN]; exact h)

theorem size22 : (Ybad.prog.info? 22).map (·.size) = some 16 := by kernel_rfl
theorem size23 : (Ybad.prog.info? 23).map (·.size) = some 16 := by kernel_rfl

set_option maxHeartbeats 1000000 in
set_option maxRecDepth 100000 in
theorem walk_ok (A : Array Value) (s : ByteArray) (H16 : Hid (A.size = 16)) (H1 : Hid (A.all (·.oneCell') = true))
    (HS : Hid (∀ w, Calls Ybad.prog 5 #[.agg A] w fun e w' => e = .returned (.string s) ∧ Below w.heap.size w w'))
    (HP : Hid (∀ w, Calls Ybad.prog 4 #[.string s] w fun e w' => e = .returned (.tuple #[.agg A, .nilIface]) ∧ Below w.heap.size w w'))
    (HV : Hid (∀ w, Calls Ybad.prog 6 #[.agg A] w fun e w' => e = .returned (.bool true) ∧ w' = w.alloc (.cells A 23)))
    (hE : ∀ w, (binOp .eql 23 (.agg A) (.agg A)).run Ybad.prog w = .ok (.bool true) w) (w : World) :
    Calls Ybad.prog 3 #[.agg A] w fun e w' => e = .returned (.bool true) ∧ Below w.heap.size w w' := by
  have I22 : Hid ((Ybad.prog.info? 22).map (·.size) = some A.size) := by rw [H16.out]; exact size22
  have I23 : Hid ((Ybad.prog.info? 23).map (·.size) = some A.size) := by rw [H16.out]; exact size23
  go_enter Ybad.func3, Ybad.ntmps3
  go_wp2_with (first
    | (refine wpList_load_whole rfl 22 _ rfl _ rfl _ A _ Ybad.underlying22 rfl I22.out (row_new (by simp)) ?_; dsimp only)
    | (refine wpList_store_new rfl 23 _ _ rfl _ _ _ A rfl rfl I23.out H1.out (by rw [H16.out]; rfl) (by simp) ?_; dsimp only)
    | (refine wpList_load_whole rfl 23 _ rfl _ rfl _ A _ Ybad.underlying23 rfl I23.out (row_new (by simp)) ?_; dsimp only))
  refine (HS.out _).mono ?_
  rintro e w1 ⟨rfl, hb1⟩
  have h1 : Below (w.heap.size + 1 + 1) ((w.alloc (.cells A 22)).alloc (.cells A 23)) w1 := hb1.mono (by simp)
  have B1 : Hid (Below (w.heap.size + 1 + 1) ((w.alloc (.cells A 22)).alloc (.cells A 23)) w1) := h1
  clear hb1 h1
  go_wp2_with fail
  refine (HP.out _).mono ?_
  rintro e w2 ⟨rfl, hb2⟩
  have h2 : Below (w.heap.size + 1 + 1) ((w.alloc (.cells A 22)).alloc (.cells A 23)) w2 := B1.out.trans (hb2.mono (by have := B1.out.size; simpa using this))
  have B2 : Hid (Below w.heap.size w w2) := (((Below.refl _ w).alloc (Nat.le_refl _) _).alloc (by simp) _).trans (h2.mono (by omega))
  have HT : Hid (w2.heap[w.heap.size + 1]? = some (.cells A 23 (0, 0))) := row_below h2 (by omega) (row_new (by simp))
  clear hb2 h2
  go_wp2_with (first
    | (refine wpList_store_new rfl 23 _ _ rfl _ _ _ A rfl rfl I23.out H1.out (by rw [H16.out]; rfl) (by simp) ?_; dsimp only)
    | (refine wpList_load_whole rfl 23 _ rfl _ rfl _ A _ Ybad.underlying23 rfl I23.out (row_old HT.out) ?_; dsimp only)
    | (refine wpList_load_whole rfl 23 _ rfl _ rfl _ A _ Ybad.underlying23 rfl I23.out (row_old (row_old HT.out)) ?_; dsimp only)
    | (refine wpList_load_whole rfl 23 _ rfl _ rfl _ A _ Ybad.underlying23 rfl I23.out (row_old (row_new (by simp))) ?_; dsimp only))
  refine (HV.out _).mono ?_
  rintro e w3 ⟨rfl, rfl⟩
  go_wp2_with (first
    | (refine wpList_store_new rfl 23 _ _ rfl _ _ _ A rfl rfl I23.out H1.out (by rw [H16.out]; rfl) (by simp) ?_; dsimp only)
    | (refine wpList_load_whole rfl 23 _ rfl _ rfl _ A _ Ybad.underlying23 rfl I23.out (row_old HT.out) ?_; dsimp only)
    | (refine wpList_load_whole rfl 23 _ rfl _ rfl _ A _ Ybad.underlying23 rfl I23.out (row_old (row_old HT.out)) ?_; dsimp only)
    | (refine wpList_load_whole rfl 23 _ rfl _ rfl _ A _ Ybad.underlying23 rfl I23.out (row_old (row_new (by simp))) ?_; dsimp only))
  go_ret
  exact ⟨rfl, (B2.out.alloc B2.out.size _).alloc (by have := B2.out.size; simp; omega) _⟩

set_option maxHeartbeats 1000000 in
set_option maxRecDepth 100000 in
theorem walk_zero (A : Array Value) (s : ByteArray) (T : TypeId) (a : Addr) (H16 : Hid (A.size = 16)) (H1 : Hid (A.all (·.oneCell') = true))
    (HS : Hid (∀ w, Calls Ybad.prog 5 #[.agg A] w fun e w' => e = .returned (.string s) ∧ Below w.heap.size w w'))
    (HP : Hid (∀ w : World, w.cell? ⟨1, 0, none⟩ = some (.iface T (.pointer (some a))) → 1 < w.heap.size → Calls Ybad.prog 4 #[.string s] w fun e w' => e = .returned (.tuple #[.agg A, .iface T (.pointer (some a))]) ∧ Below w.heap.size w w'))
    (HV : Hid (∀ w, Calls Ybad.prog 6 #[.agg A] w fun e w' => e = .returned (.bool false) ∧ w' = w.alloc (.cells A 23)))
    (hE : ∀ w, (binOp .eql 23 (.agg A) (.agg #[.int .u8 0, .int .u8 0, .int .u8 0, .int .u8 0, .int .u8 0, .int .u8 0, .int .u8 0, .int .u8 0, .int .u8 0, .int .u8 0, .int .u8 0, .int .u8 0, .int .u8 0, .int .u8 0, .int .u8 0, .int .u8 0])).run Ybad.prog w = .ok (.bool true) w) (w : World)
    (HC : Hid (w.cell? ⟨1, 0, none⟩ = some (.iface T (.pointer (some a))))) (HL : Hid (1 < w.heap.size)) :
    Calls Ybad.prog 3 #[.agg A] w fun e w' => e = .returned (.bool true) ∧ Below w.heap.size w w' := by
  have I22 : Hid ((Ybad.prog.info? 22).map (·.size) = some A.size) := by rw [H16.out]; exact size22
  have I23 : Hid ((Ybad.prog.info? 23).map (·.size) = some A.size) := by rw [H16.out]; exact size23
  go_enter Ybad.func3, Ybad.ntmps3
  go_wp2_with (first
    | (refine wpList_load_whole rfl 22 _ rfl _ rfl _ A _ Ybad.underlying22 rfl I22.out (row_new (by simp)) ?_; dsimp only)
    | (refine wpList_store_new rfl 23 _ _ rfl _ _ _ A rfl rfl I23.out H1.out (by rw [H16.out]; rfl) (by simp) ?_; dsimp only)
    | (refine wpList_load_whole rfl 23 _ rfl _ rfl _ A _ Ybad.underlying23 rfl I23.out (row_new (by simp)) ?_; dsimp only))
  refine (HS.out _).mono ?_
  rintro e w1 ⟨rfl, hb1⟩
  have h1 : Below (w.heap.size + 1 + 1) ((w.alloc (.cells A 22)).alloc (.cells A 23)) w1 := hb1.mono (by simp)
  have B1 : Hid (Below (w.heap.size + 1 + 1) ((w.alloc (.cells A 22)).alloc (.cells A 23)) w1) := h1
  clear hb1 h1
  go_wp2_with fail
  refine (HP.out _ (((B1.out.cell (by have := HL.out; show 1 < _; omega)).trans ((((Below.refl _ w).alloc (Nat.le_refl _) _).alloc (by simp) _).cell HL.out)).trans HC.out) (by have := B1.out.size; have := HL.out; simp at *; omega)).mono ?_
  rintro e w2 ⟨rfl, hb2⟩
  have h2 : Below (w.heap.size + 1 + 1) ((w.alloc (.cells A 22)).alloc (.cells A 23)) w2 := B1.out.trans (hb2.mono (by have := B1.out.size; simpa using this))
  have B2 : Hid (Below w.heap.size w w2) := (((Below.refl _ w).alloc (Nat.le_refl _) _).alloc (by simp) _).trans (h2.mono (by omega))
  have HT : Hid (w2.heap[w.heap.size + 1]? = some (.cells A 23 (0, 0))) := row_below h2 (by omega) (row_new (by simp))
  clear hb2 h2
  go_wp2_with (first
    | (refine wpList_store_new rfl 23 _ _ rfl _ _ _ A rfl rfl I23.out H1.out (by rw [H16.out]; rfl) (by simp) ?_; dsimp only)
    | (refine wpList_load_whole rfl 23 _ rfl _ rfl _ A _ Ybad.underlying23 rfl I23.out (row_old HT.out) ?_; dsimp only)
    | (refine wpList_load_whole rfl 23 _ rfl _ rfl _ A _ Ybad.underlying23 rfl I23.out (row_old (row_old HT.out)) ?_; dsimp only)
    | (refine wpList_load_whole rfl 23 _ rfl _ rfl _ A _ Ybad.underlying23 rfl I23.out (row_old (row_new (by simp))) ?_; dsimp only))
  refine (HV.out _).mono ?_
  rintro e w3 ⟨rfl, rfl⟩
  go_wp2_with (first
    | (refine wpList_store_new rfl 23 _ _ rfl _ _ _ A rfl rfl I23.out H1.out (by rw [H16.out]; rfl) (by simp) ?_; dsimp only)
    | (refine wpList_load_whole rfl 23 _ rfl _ rfl _ A _ Ybad.underlying23 rfl I23.out (row_old HT.out) ?_; dsimp only)
    | (refine wpList_load_whole rfl 23 _ rfl _ rfl _ A _ Ybad.underlying23 rfl I23.out (row_old (row_old HT.out)) ?_; dsimp only)
    | (refine wpList_load_whole rfl 23 _ rfl _ rfl _ A _ Ybad.underlying23 rfl I23.out (row_old (row_new (by simp))) ?_; dsimp only))
  go_ret
  exact ⟨rfl, (B2.out.alloc B2.out.size _).alloc (by have := B2.out.size; simp; omega) _⟩

end Go.Proofs.YbulkaxfiDoor
