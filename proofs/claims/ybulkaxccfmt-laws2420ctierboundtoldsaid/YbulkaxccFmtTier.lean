/-
  tierBound[int] WALKED, at its five ways. The map that the law has made is told by 'ownsMap' over the elements THEMSELVES ('held'): the datum's tokens are values.
-/
import Derived.Test.YbulkaxccFmtParse
import Derived.Maps.OwnSet
import Derived.StringKeys
import Derived.WalkSmall
namespace Go.Proofs.YbulkaxccFmt
open Go.RowKit Go.Extern.Stop Go.Stop Go.Extern Go.Maps Go.WideMaps
attribute [local go_sem] fcall9 fguard fmtA fmtAr fmtB fmtBr fmtC fmtCr op9_115w ptr33 elem33 isError33

/-- An element read as itself. -/
def heldElem (v : Value) : Option (DataW Value × List MemPlace) := some (.held v, [])

theorem law9 : Keyed Ybaf.prog 9 := string_keyed Ybaf.underlying9
theorem zero24 (w : World) : (zeroValue 24).run Ybaf.prog w = .ok (.slice none 0 0) w := by kernel_rfl

/-- 'v, ok := m[k]' on the law's map, the answer known. -/
theorem wpList_lookup_held {P : Program} (w : World) {ops : Array Oper} {rest : List Oper} {o : Oper} {a : Act} {Q : Exit → Act → World → Prop}
    (hg : o.guard = none) (m x : Operand) (t : TypeId) (hop : o.op = Op.lookup t m x true)
    (k e : TypeId) (K : Keyed P k) (ht : P.underlying t = some (.map k e)) {z : Value} (hz : (zeroValue e).run P w = .ok z w) (b n : Nat) (D : DataW Value)
    (hm : a.eval m = .map (some b)) (hown : w.ownsMap P k heldElem b n D) (key : Value) (kl : Lit) (hx : a.eval x = key) (hkey : keyOf P k key = some kl)
    (v : Value) (c : Bool) (hv : D.atKey kl (.held z) = .held v) (hc : Maps.has D kl = c)
    (hK : wpList P ops Q rest (a.put o.dst (.tuple #[v, .bool c])) w) :
    wpList P ops Q (o :: rest) a w :=
  wpList_lookup_own_ok w hg m x t hop k e K ht heldElem hz (.held z) [] rfl b n D hm hown key kl hx hkey (fun v' ps hv' => by
    rw [hv] at hv'
    simp only [heldElem, Option.some.injEq, Prod.mk.injEq, DataW.held.injEq] at hv'
    rw [hc, hv'.1]
    exact hK)

set_option maxHeartbeats 400000 in
/-- The last tier, the key not there. -/
theorem tier_last_none (key : ByteArray) (fv : Value) (B n : Nat) (D : DataW Value) (w : World) (hown : w.ownsMap Ybaf.prog 9 heldElem B n D) (hk : key.size ≤ maxLen) (v : Value)
    (hv : D.atKey (.string key.data.toList) (.held (.slice none 0 0)) = .held v) (hc : Maps.has D (.string key.data.toList) = false) :
    Calls Ybaf.prog 7 #[.map (some B), .string key, .bool true, fv] w fun e w' => e = .returned (.tuple #[.int .i64 0, .nilIface]) ∧ w' = w := by
  have HK : Hid (keyOf Ybaf.prog 9 (.string key) = some (.string key.data.toList)) := keyOf_string_mk Ybaf.underlying9 hk
  have HV : Hid _ := hv
  have HC : Hid _ := hc
  clear hv hc
  go_enter Ybaf.func7, Ybaf.ntmps7
  go_wp2_with (first
    | (at_lookup; refine wpList_lookup_held _ rfl _ _ 23 rfl 9 24 law9 Ybaf.underlying23 (zero24 _) B n D rfl hown _ _ rfl HK.out v false HV.out HC.out ?_))
  go_ret2
  exact ⟨rfl, rfl⟩

set_option maxRecDepth 100000 in
set_option maxHeartbeats 800000 in
/-- The last tier, the key there: refused. -/
theorem tier_last_some (F : Interp) (key : ByteArray) (fv : Value) (B n : Nat) (D : DataW Value) (w : World) (hF : F.answers w.tape) (hown : w.ownsMap Ybaf.prog 9 heldElem B n D) (hk : key.size ≤ maxLen) (v : Value)
    (hv : D.atKey (.string key.data.toList) (.held (.slice none 0 0)) = .held v) (hc : Maps.has D (.string key.data.toList) = true) :
    Calls Ybaf.prog 7 #[.map (some B), .string key, .bool true, fv] w fun e w' => ∃ u, e = .returned (.tuple #[.int .i64 0, .iface 33 (.pointer (some u))]) ∧ Below w.heap.size w w' := by
  have HK : Hid (keyOf Ybaf.prog 9 (.string key) = some (.string key.data.toList)) := keyOf_string_mk Ybaf.underlying9 hk
  have HV : Hid _ := hv
  have HC : Hid _ := hc
  clear hv hc
  have hF' := answers_open hF
  go_enter Ybaf.func7, Ybaf.ntmps7
  go_wp2_with (first
    | (at_lookup; refine wpList_lookup_held _ rfl _ _ 23 rfl 9 24 law9 Ybaf.underlying23 (zero24 _) B n D rfl hown _ _ rfl HK.out v true HV.out HC.out ?_)
    | go_in)
  go_ret2
  exact ⟨_, rfl, (((Below.refl _ _).alloc (Nat.le_refl _) _).alloc (by simp) _).drew⟩

set_option maxRecDepth 100000 in
set_option maxHeartbeats 800000 in
/-- Not the last tier, the key not there: refused. -/
theorem tier_none (F : Interp) (key : ByteArray) (fv : Value) (B n : Nat) (D : DataW Value) (w : World) (hF : F.answers w.tape) (hown : w.ownsMap Ybaf.prog 9 heldElem B n D) (hk : key.size ≤ maxLen) (v : Value)
    (hv : D.atKey (.string key.data.toList) (.held (.slice none 0 0)) = .held v) (hc : Maps.has D (.string key.data.toList) = false) :
    Calls Ybaf.prog 7 #[.map (some B), .string key, .bool false, fv] w fun e w' => ∃ u, e = .returned (.tuple #[.int .i64 0, .iface 33 (.pointer (some u))]) ∧ Below w.heap.size w w' := by
  have HK : Hid (keyOf Ybaf.prog 9 (.string key) = some (.string key.data.toList)) := keyOf_string_mk Ybaf.underlying9 hk
  have HV : Hid _ := hv
  have HC : Hid _ := hc
  clear hv hc
  have hF' := answers_open hF
  go_enter Ybaf.func7, Ybaf.ntmps7
  go_wp2_with (first
    | (at_lookup; refine wpList_lookup_held _ rfl _ _ 23 rfl 9 24 law9 Ybaf.underlying23 (zero24 _) B n D rfl hown _ _ rfl HK.out v false HV.out HC.out ?_)
    | go_in)
  go_ret2
  exact ⟨_, rfl, (((Below.refl _ _).alloc (Nat.le_refl _) _).alloc (by simp) _).drew⟩

set_option maxRecDepth 100000 in
set_option maxHeartbeats 800000 in
/-- Not the last tier, the key there, parse reads it. -/
theorem tier_ok (key : ByteArray) (a : Option Addr) (len cap : Nat) (s : ByteArray) (b1 b2 b3 b4 b5 : Nat) (val : Int) (B n : Nat) (D : DataW Value) (w : World) (hown : w.ownsMap Ybaf.prog 9 heldElem B n D) (hk : key.size ≤ maxLen)
    (hv : D.atKey (.string key.data.toList) (.held (.slice none 0 0)) = .held (.slice a len cap)) (hc : Maps.has D (.string key.data.toList) = true)
    (hcv : ∀ u, (convert 22 9 (.slice a len cap)).run Ybaf.prog (w.setCell ⟨b1, 0, none⟩ u) = .ok (.string s) (w.setCell ⟨b1, 0, none⟩ u))
    (c1 : w.cell? ⟨b1, 0, none⟩ = some (.int .i64 0)) (f1 : w.frozen? ⟨b1, 0, none⟩ = false) (c2 : w.cell? ⟨b2, 0, none⟩ = some (.slice a len cap)) (c4 : w.cell? ⟨b4, 0, none⟩ = some (.bool false)) (c5 : w.cell? ⟨b5, 0, none⟩ = some (.int .i64 val))
    (n2 : b2 ≠ b1) (n4 : b4 ≠ b1) (n5 : b5 ≠ b1) :
    Calls Ybaf.prog 7 #[.map (some B), .string key, .bool false, .func (.func 4) #[] #[.pointer (some ⟨b1, 0, none⟩), .pointer (some ⟨b2, 0, none⟩), .pointer (some ⟨b3, 0, none⟩), .pointer (some ⟨b4, 0, none⟩), .pointer (some ⟨b5, 0, none⟩)]] w fun e w' => e = .returned (.tuple #[.int .i64 val, .nilIface]) ∧ w' = w.setCell ⟨b1, 0, none⟩ (.int .i64 1) := by
  have HK : Hid (keyOf Ybaf.prog 9 (.string key) = some (.string key.data.toList)) := keyOf_string_mk Ybaf.underlying9 hk
  have HV : Hid _ := hv
  have HC : Hid _ := hc
  clear hv hc
  go_enter Ybaf.func7, Ybaf.ntmps7
  go_wp2_with (first
    | (at_lookup; refine wpList_lookup_held _ rfl _ _ 23 rfl 9 24 law9 Ybaf.underlying23 (zero24 _) B n D rfl hown _ _ rfl HK.out (.slice a len cap) true HV.out HC.out ?_)
    | (go_at_call 4; refine (parse_ok a len cap s b1 b2 b3 b4 b5 val _ hcv c1 f1 c2 c4 c5 n2 n4 n5).mono ?_; rintro e w' ⟨rfl, rfl⟩))
  go_ret2
  exact ⟨rfl, rfl⟩

set_option maxRecDepth 100000 in
set_option maxHeartbeats 800000 in
/-- Not the last tier, the key there, parse fails: its error is told. -/
theorem tier_bad (F : Interp) (key : ByteArray) (a : Option Addr) (len cap : Nat) (s : ByteArray) (b1 b2 b3 b4 b5 : Nat) (val : Int) (B n : Nat) (D : DataW Value) (w : World) (hown : w.ownsMap Ybaf.prog 9 heldElem B n D) (hk : key.size ≤ maxLen)
    (hv : D.atKey (.string key.data.toList) (.held (.slice none 0 0)) = .held (.slice a len cap)) (hc : Maps.has D (.string key.data.toList) = true)
    (hcv : ∀ u, (convert 22 9 (.slice a len cap)).run Ybaf.prog (w.setCell ⟨b1, 0, none⟩ u) = .ok (.string s) (w.setCell ⟨b1, 0, none⟩ u))
    (c1 : w.cell? ⟨b1, 0, none⟩ = some (.int .i64 0)) (f1 : w.frozen? ⟨b1, 0, none⟩ = false) (c2 : w.cell? ⟨b2, 0, none⟩ = some (.slice a len cap)) (c4 : w.cell? ⟨b4, 0, none⟩ = some (.bool true)) (c5 : w.cell? ⟨b5, 0, none⟩ = some (.int .i64 val))
    (n2 : b2 ≠ b1) (n4 : b4 ≠ b1) (n5 : b5 ≠ b1) (l5 : b5 < w.heap.size) (hF : F.answers w.tape) :
    Calls Ybaf.prog 7 #[.map (some B), .string key, .bool false, .func (.func 4) #[] #[.pointer (some ⟨b1, 0, none⟩), .pointer (some ⟨b2, 0, none⟩), .pointer (some ⟨b3, 0, none⟩), .pointer (some ⟨b4, 0, none⟩), .pointer (some ⟨b5, 0, none⟩)]] w fun e w' => ∃ u, e = .returned (.tuple #[.int .i64 0, .iface 33 (.pointer (some u))]) ∧ Below w.heap.size (w.setCell ⟨b1, 0, none⟩ (.int .i64 1)) w' := by
  have HK : Hid (keyOf Ybaf.prog 9 (.string key) = some (.string key.data.toList)) := keyOf_string_mk Ybaf.underlying9 hk
  have HV : Hid _ := hv
  have HC : Hid _ := hc
  clear hv hc
  have hF' := answers_open hF
  obtain ⟨sh, hop⟩ := opPlain33
  go_enter Ybaf.func7, Ybaf.ntmps7
  go_wp2_with (first
    | (at_lookup; refine wpList_lookup_held _ rfl _ _ 23 rfl 9 24 law9 Ybaf.underlying23 (zero24 _) B n D rfl hown _ _ rfl HK.out (.slice a len cap) true HV.out HC.out ?_)
    | (go_at_call 4; refine (parse_bad a len cap s b1 b2 b3 b4 b5 val _ hcv c1 f1 c2 c4 c5 n2 n4 n5 l5).mono ?_; rintro e w' ⟨q, rfl, rfl⟩)
    | go_in)
  go_ret2
  refine ⟨_, rfl, Below.drew ?_⟩
  have hz : (w.setCell ⟨b1, 0, none⟩ (.int .i64 1)).heap.size = w.heap.size := by simp [World.setCell]
  refine Below.alloc ?_ (by simp; omega) _
  refine Below.alloc ?_ (by simp) _
  exact below_drewN ((Below.refl _ _).alloc (by omega) _) q

end Go.Proofs.YbulkaxccFmt
