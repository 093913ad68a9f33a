/-
  THE CALL OF tierBound AS THE LAW MAKES IT: over the world that the law has laid (three boxes, the map, the two counters), its five ways with one kind of end.
-/
import Derived.Test.YbulkaxccFmtTier
namespace Go.Proofs.YbulkaxccFmt
open Go.RowKit Go.Extern.Stop Go.Stop Go.Extern Go.Maps Go.WideMaps

/-- Behind the boxes and the map: what w1 holds of them. -/
def Laid (w w1 : World) (rv : Value) (fail : Bool) (val : Int) : Prop :=
  w1.cell? ⟨w.heap.size, 0, none⟩ = some rv ∧ w1.cell? ⟨w.heap.size + 1, 0, none⟩ = some (.bool fail) ∧ w1.cell? ⟨w.heap.size + 1 + 1, 0, none⟩ = some (.int .i64 val) ∧ w.heap.size + 1 + 1 + 1 < w1.heap.size ∧ Below w.heap.size w w1

theorem laid_start (w : World) (rv : Value) (fail : Bool) (val : Int) :
    Laid w ((((w.alloc (.cells #[rv] 22)).alloc (.cells #[.bool fail] 4)).alloc (.cells #[.int .i64 val] 3)).alloc (.map #[] 0)) rv fail val := by
  refine ⟨by simp [go_sem], by simp [go_sem], by simp [go_sem], by simp, ?_⟩
  exact ((((Below.refl _ _).alloc (Nat.le_refl _) _).alloc (by simp) _).alloc (by simp; omega) _).alloc (by simp; omega) _

theorem Laid.grown {w w1 w2 : World} {rv : Value} {fail : Bool} {val : Int} (h : Laid w w1 rv fail val) (hg : w1.grownBy w2 (some (w.heap.size + 1 + 1 + 1))) : Laid w w2 rv fail val := by
  obtain ⟨h0, h1, h2, h3, h4⟩ := h
  exact ⟨hg.cell h0 (by simp; omega), hg.cell h1 (by simp), hg.cell h2 (by simp), Nat.lt_of_lt_of_le h3 hg.size, h4.grown hg h4.size (fun k hk => by cases hk; omega)⟩

/-- What the law reads behind the call: how often parse was called, that it was handed the raw text, the two boxes. -/
def After (w : World) (m : Nat) (fail : Bool) (val : Int) (cnt : Int) (w' : World) : Prop :=
  w'.cell? ⟨m, 0, none⟩ = some (.int .i64 cnt) ∧ w'.cell? ⟨m + 1, 0, none⟩ = some (.bool true) ∧ w'.cell? ⟨w.heap.size + 1, 0, none⟩ = some (.bool fail) ∧ w'.cell? ⟨w.heap.size + 1 + 1, 0, none⟩ = some (.int .i64 val) ∧ Below w.heap.size w w'

theorem after_start {w w1 : World} {rv : Value} {fail : Bool} {val : Int} (h : Laid w w1 rv fail val) : After w w1.heap.size fail val 0 ((w1.alloc (.cells #[.int .i64 0] 3)).alloc (.cells #[.bool true] 4)) := by
  obtain ⟨h0, h1, h2, h3, h4⟩ := h
  have l1 : w.heap.size + 1 < w1.heap.size := by omega
  have l2 : w.heap.size + 1 + 1 < w1.heap.size := by omega
  have l1' : w.heap.size + 1 < w1.heap.size + 1 := by omega
  have l2' : w.heap.size + 1 + 1 < w1.heap.size + 1 := by omega
  refine ⟨by simp [go_sem], by simp [go_sem], ?_, ?_, (h4.alloc h4.size _).alloc (by have := h4.size; simp; omega) _⟩
  · exact (((Below.refl w1.heap.size w1).alloc (Nat.le_refl _) _).alloc (by simp) _).cell (p := ⟨w.heap.size + 1, 0, none⟩) l1 |>.trans h1
  · exact (((Below.refl w1.heap.size w1).alloc (Nat.le_refl _) _).alloc (by simp) _).cell (p := ⟨w.heap.size + 1 + 1, 0, none⟩) l2 |>.trans h2

theorem After.below {w w1 W w' : World} {fail : Bool} {val cnt : Int} (h : After w w1.heap.size fail val cnt W) (hs : W.heap.size = w1.heap.size + 1 + 1) (hl : w.heap.size + 1 + 1 + 1 < w1.heap.size) (hb : Below W.heap.size W w') : After w w1.heap.size fail val cnt w' := by
  obtain ⟨h0, h1, h2, h3, h4⟩ := h
  refine ⟨(hb.cell (by simp; omega)).trans h0, (hb.cell (by simp; omega)).trans h1, (hb.cell (by simp; omega)).trans h2, (hb.cell (by simp; omega)).trans h3, h4.trans (hb.mono h4.size)⟩

theorem far (w : World) (p a : Addr) (v : Value) (h : a.block ≠ p.block) : (w.setCell p v).cell? a = w.cell? a :=
  World.cell?_of_block (w := w) (Below.heap_setCell w p v a.block h)

theorem After.called {w w1 W : World} {fail : Bool} {val cnt : Int} (h : After w w1.heap.size fail val cnt W) (hl : w.heap.size + 1 + 1 + 1 < w1.heap.size) : After w w1.heap.size fail val 1 (W.setCell ⟨w1.heap.size, 0, none⟩ (.int .i64 1)) := by
  obtain ⟨h0, h1, h2, h3, h4⟩ := h
  refine ⟨World.cell?_setCell_same' W _ _ (by rw [h0]; rfl), ?_, ?_, ?_, h4.setCell (by simp; omega) _⟩
  · exact (far W _ _ _ (by simp)).trans h1
  · exact (far W _ _ _ (by simp; omega)).trans h2
  · exact (far W _ _ _ (by simp; omega)).trans h3

/-- The last tier, the key not there. -/
theorem st_last_none (key : ByteArray) (ra : Option Addr) (rn rc : Nat) (fail : Bool) (val : Int) (w w1 : World) (m : Nat) (hm : w1.heap.size = m) (hl : Laid w w1 (.slice ra rn rc) fail val) (n : Nat) (D : DataW Value)
    (hown : w1.ownsMap Ybaf.prog 9 heldElem (w.heap.size + 1 + 1 + 1) n D) (hk : key.size ≤ maxLen) (v : Value) (hv : D.atKey (.string key.data.toList) (.held (.slice none 0 0)) = .held v) (hc : Maps.has D (.string key.data.toList) = false) :
    Calls Ybaf.prog 7 #[.map (some (w.heap.size + 1 + 1 + 1)), .string key, .bool true, (.func (.func 4) #[] #[.pointer (some ⟨m, 0, none⟩), .pointer (some ⟨w.heap.size, 0, none⟩), .pointer (some ⟨m + 1, 0, none⟩), .pointer (some ⟨w.heap.size + 1, 0, none⟩), .pointer (some ⟨w.heap.size + 1 + 1, 0, none⟩)])] ((w1.alloc (.cells #[.int .i64 0] 3)).alloc (.cells #[.bool true] 4)) fun e w' =>
      e = .returned (.tuple #[.int .i64 0, .nilIface]) ∧ After w m fail val 0 w' := by
  subst hm
  refine (tier_last_none key _ _ n D _ ((hown.alloc _).alloc _) hk v hv hc).mono fun e w' ⟨he, hw⟩ => ?_
  subst hw
  exact ⟨he, after_start hl⟩

/-- The last tier, the key there. -/
theorem st_last_some (F : Interp) (key : ByteArray) (ra : Option Addr) (rn rc : Nat) (fail : Bool) (val : Int) (w w1 : World) (hF : F.answers w.tape) (m : Nat) (hm : w1.heap.size = m) (hl : Laid w w1 (.slice ra rn rc) fail val) (n : Nat) (D : DataW Value)
    (hown : w1.ownsMap Ybaf.prog 9 heldElem (w.heap.size + 1 + 1 + 1) n D) (hk : key.size ≤ maxLen) (v : Value) (hv : D.atKey (.string key.data.toList) (.held (.slice none 0 0)) = .held v) (hc : Maps.has D (.string key.data.toList) = true) :
    Calls Ybaf.prog 7 #[.map (some (w.heap.size + 1 + 1 + 1)), .string key, .bool true, (.func (.func 4) #[] #[.pointer (some ⟨m, 0, none⟩), .pointer (some ⟨w.heap.size, 0, none⟩), .pointer (some ⟨m + 1, 0, none⟩), .pointer (some ⟨w.heap.size + 1, 0, none⟩), .pointer (some ⟨w.heap.size + 1 + 1, 0, none⟩)])] ((w1.alloc (.cells #[.int .i64 0] 3)).alloc (.cells #[.bool true] 4)) fun e w' =>
      (∃ u, e = .returned (.tuple #[.int .i64 0, .iface 33 (.pointer (some u))])) ∧ After w m fail val 0 w' := by
  subst hm
  refine (tier_last_some F key _ _ n D _ (by show F.answers w1.tape; rw [hl.2.2.2.2.tape]; exact hF) ((hown.alloc _).alloc _) hk v hv hc).mono fun e w' ⟨u, he, hb⟩ => ?_
  exact ⟨⟨u, he⟩, (after_start hl).below (by simp) hl.2.2.2.1 hb⟩

/-- Not the last tier, the key not there. -/
theorem st_none (F : Interp) (key : ByteArray) (ra : Option Addr) (rn rc : Nat) (fail : Bool) (val : Int) (w w1 : World) (hF : F.answers w.tape) (m : Nat) (hm : w1.heap.size = m) (hl : Laid w w1 (.slice ra rn rc) fail val) (n : Nat) (D : DataW Value)
    (hown : w1.ownsMap Ybaf.prog 9 heldElem (w.heap.size + 1 + 1 + 1) n D) (hk : key.size ≤ maxLen) (v : Value) (hv : D.atKey (.string key.data.toList) (.held (.slice none 0 0)) = .held v) (hc : Maps.has D (.string key.data.toList) = false) :
    Calls Ybaf.prog 7 #[.map (some (w.heap.size + 1 + 1 + 1)), .string key, .bool false, (.func (.func 4) #[] #[.pointer (some ⟨m, 0, none⟩), .pointer (some ⟨w.heap.size, 0, none⟩), .pointer (some ⟨m + 1, 0, none⟩), .pointer (some ⟨w.heap.size + 1, 0, none⟩), .pointer (some ⟨w.heap.size + 1 + 1, 0, none⟩)])] ((w1.alloc (.cells #[.int .i64 0] 3)).alloc (.cells #[.bool true] 4)) fun e w' =>
      (∃ u, e = .returned (.tuple #[.int .i64 0, .iface 33 (.pointer (some u))])) ∧ After w m fail val 0 w' := by
  subst hm
  refine (tier_none F key _ _ n D _ (by show F.answers w1.tape; rw [hl.2.2.2.2.tape]; exact hF) ((hown.alloc _).alloc _) hk v hv hc).mono fun e w' ⟨u, he, hb⟩ => ?_
  exact ⟨⟨u, he⟩, (after_start hl).below (by simp) hl.2.2.2.1 hb⟩

/-- Not the last tier, the key there, parse reads it. -/
theorem st_ok (key : ByteArray) (ra : Option Addr) (rn rc : Nat) (val : Int) (w w1 : World) (m : Nat) (hm : w1.heap.size = m) (hl : Laid w w1 (.slice ra rn rc) false val) (n : Nat) (D : DataW Value)
    (hown : w1.ownsMap Ybaf.prog 9 heldElem (w.heap.size + 1 + 1 + 1) n D) (hk : key.size ≤ maxLen) (hv : D.atKey (.string key.data.toList) (.held (.slice none 0 0)) = .held (.slice ra rn rc)) (hc : Maps.has D (.string key.data.toList) = true) (s : ByteArray) (hcv : ∀ W, Below w.heap.size w W → (convert 22 9 (.slice ra rn rc)).run Ybaf.prog W = .ok (.string s) W) :
    Calls Ybaf.prog 7 #[.map (some (w.heap.size + 1 + 1 + 1)), .string key, .bool false, (.func (.func 4) #[] #[.pointer (some ⟨m, 0, none⟩), .pointer (some ⟨w.heap.size, 0, none⟩), .pointer (some ⟨m + 1, 0, none⟩), .pointer (some ⟨w.heap.size + 1, 0, none⟩), .pointer (some ⟨w.heap.size + 1 + 1, 0, none⟩)])] ((w1.alloc (.cells #[.int .i64 0] 3)).alloc (.cells #[.bool true] 4)) fun e w' =>
      e = .returned (.tuple #[.int .i64 val, .nilIface]) ∧ After w m false val 1 w' := by
  subst hm
  have ha := after_start hl
  have h3 := hl.2.2.2.1
  have hraw : ((w1.alloc (.cells #[.int .i64 0] 3)).alloc (.cells #[.bool true] 4)).cell? ⟨w.heap.size, 0, none⟩ = some (.slice ra rn rc) :=
    (((Below.refl w1.heap.size w1).alloc (Nat.le_refl _) _).alloc (by simp) _).cell (p := ⟨w.heap.size, 0, none⟩) (by simp; omega) |>.trans hl.1
  have hcv' : ∀ u, (convert 22 9 (.slice ra rn rc)).run Ybaf.prog (((w1.alloc (.cells #[.int .i64 0] 3)).alloc (.cells #[.bool true] 4)).setCell ⟨w1.heap.size, 0, none⟩ u) = .ok (.string s) (((w1.alloc (.cells #[.int .i64 0] 3)).alloc (.cells #[.bool true] 4)).setCell ⟨w1.heap.size, 0, none⟩ u) := fun u =>
    hcv _ (ha.2.2.2.2.setCell (by simp; omega) u)
  refine (tier_ok key ra rn rc s w1.heap.size w.heap.size (w1.heap.size + 1) (w.heap.size + 1) (w.heap.size + 1 + 1) val _ n D _ ((hown.alloc _).alloc _) hk hv hc hcv' ha.1 (by simp [go_sem]) hraw ha.2.2.1 ha.2.2.2.1 (by omega) (by omega) (by omega)).mono fun e w' ⟨he, hw⟩ => ?_
  subst hw
  exact ⟨he, ha.called h3⟩

/-- Not the last tier, the key there, parse fails. -/
theorem st_bad (F : Interp) (key : ByteArray) (ra : Option Addr) (rn rc : Nat) (val : Int) (w w1 : World) (hF : F.answers w.tape) (m : Nat) (hm : w1.heap.size = m) (hl : Laid w w1 (.slice ra rn rc) true val) (n : Nat) (D : DataW Value)
    (hown : w1.ownsMap Ybaf.prog 9 heldElem (w.heap.size + 1 + 1 + 1) n D) (hk : key.size ≤ maxLen) (hv : D.atKey (.string key.data.toList) (.held (.slice none 0 0)) = .held (.slice ra rn rc)) (hc : Maps.has D (.string key.data.toList) = true) (s : ByteArray) (hcv : ∀ W, Below w.heap.size w W → (convert 22 9 (.slice ra rn rc)).run Ybaf.prog W = .ok (.string s) W) :
    Calls Ybaf.prog 7 #[.map (some (w.heap.size + 1 + 1 + 1)), .string key, .bool false, (.func (.func 4) #[] #[.pointer (some ⟨m, 0, none⟩), .pointer (some ⟨w.heap.size, 0, none⟩), .pointer (some ⟨m + 1, 0, none⟩), .pointer (some ⟨w.heap.size + 1, 0, none⟩), .pointer (some ⟨w.heap.size + 1 + 1, 0, none⟩)])] ((w1.alloc (.cells #[.int .i64 0] 3)).alloc (.cells #[.bool true] 4)) fun e w' =>
      (∃ u, e = .returned (.tuple #[.int .i64 0, .iface 33 (.pointer (some u))])) ∧ After w m true val 1 w' := by
  subst hm
  have ha := after_start hl
  have h3 := hl.2.2.2.1
  have hraw : ((w1.alloc (.cells #[.int .i64 0] 3)).alloc (.cells #[.bool true] 4)).cell? ⟨w.heap.size, 0, none⟩ = some (.slice ra rn rc) :=
    (((Below.refl w1.heap.size w1).alloc (Nat.le_refl _) _).alloc (by simp) _).cell (p := ⟨w.heap.size, 0, none⟩) (by simp; omega) |>.trans hl.1
  have hcv' : ∀ u, (convert 22 9 (.slice ra rn rc)).run Ybaf.prog (((w1.alloc (.cells #[.int .i64 0] 3)).alloc (.cells #[.bool true] 4)).setCell ⟨w1.heap.size, 0, none⟩ u) = .ok (.string s) (((w1.alloc (.cells #[.int .i64 0] 3)).alloc (.cells #[.bool true] 4)).setCell ⟨w1.heap.size, 0, none⟩ u) := fun u =>
    hcv _ (ha.2.2.2.2.setCell (by simp; omega) u)
  refine (tier_bad F key ra rn rc s w1.heap.size w.heap.size (w1.heap.size + 1) (w.heap.size + 1) (w.heap.size + 1 + 1) val _ n D _ ((hown.alloc _).alloc _) hk hv hc hcv' ha.1 (by simp [go_sem]) hraw ha.2.2.1 ha.2.2.2.1 (by omega) (by omega) (by omega) (by simp; omega) (by show F.answers w1.tape; rw [hl.2.2.2.2.tape]; exact hF)).mono fun e w' ⟨u, he, hb⟩ => ?_
  have hz : (((w1.alloc (.cells #[.int .i64 0] 3)).alloc (.cells #[.bool true] 4)).setCell ⟨w1.heap.size, 0, none⟩ (.int .i64 1)).heap.size = w1.heap.size + 1 + 1 := by simp [World.setCell]
  exact ⟨⟨u, he⟩, (ha.called h3).below hz h3 (hb.mono (by rw [hz]; simp))⟩

end Go.Proofs.YbulkaxccFmt
