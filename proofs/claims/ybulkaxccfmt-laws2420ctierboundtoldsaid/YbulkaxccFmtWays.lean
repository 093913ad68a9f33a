/-
  THE LAW's WALKS, a way each: is the other key another one, is the key present, the last tier, does parse fail.
-/
import Derived.Test.YbulkaxccFmtStage
import Derived.Lib.SlicesS
namespace Go.Proofs.YbulkaxccFmt
open Go.RowKit Go.Extern.Stop Go.Stop Go.Extern Go.Maps Go.WideMaps

theorem key_ne {a b : ByteArray} (h : ¬ a = b) : (Lit.string a.data.toList) ≠ (Lit.string b.data.toList) := fun e => h (by
  simp only [Lit.string.injEq] at e
  cases a; cases b
  simp only at e
  congr 1
  exact Array.toList_inj.1 e)
theorem key_lit (l : List UInt8) : WideAt.IsKeyLit (.string l) := trivial

set_option maxRecDepth 100000 in
set_option maxHeartbeats 1600000 in
theorem law_d0 (F : Interp) (key ok : ByteArray) (ra oa : Option Addr) (rn rc on oc : Nat) (fail : Bool) (val : Int) (w : World) (hF : F.answers w.tape) (hr : ¬ 1024 < (rn : Int)) (ho : ¬ 1024 < (on : Int)) (hk : key.size ≤ maxLen) (hok : ok.size ≤ maxLen) (hne : ¬ ok = key) :
    Calls Ybaf.prog 3 #[.string key, .bool true, .slice ra rn rc, .string ok, .slice oa on oc, .bool true, .bool fail, .int .i64 val] w fun e w' => e = .returned (.bool true) ∧ Below w.heap.size w w' := by
  have hmm := @run_makeMap Ybaf.prog
  have hbq : (ok.toList == key.toList) = false := (Lib.bytes_beq_false_iff _ _).2 hne
  have HO : Hid (keyOf Ybaf.prog 9 (.string ok) = some (.string ok.data.toList)) := keyOf_string_mk Ybaf.underlying9 hok
  have HK : Hid (keyOf Ybaf.prog 9 (.string key) = some (.string key.data.toList)) := keyOf_string_mk Ybaf.underlying9 hk
  have HL0 : Hid (Laid w ((((w.alloc (.cells #[.slice ra rn rc] 22)).alloc (.cells #[.bool fail] 4)).alloc (.cells #[.int .i64 val] 3)).alloc (.map #[] 0)) (.slice ra rn rc) fail val) := laid_start w (.slice ra rn rc) fail val
  have HW0 : Hid (((((w.alloc (.cells #[.slice ra rn rc] 22)).alloc (.cells #[.bool fail] 4)).alloc (.cells #[.int .i64 val] 3)).alloc (.map #[] 0)).ownsMap Ybaf.prog 9 heldElem (w.heap.size + 1 + 1 + 1) 0 (.map [] : DataW Value)) := by
    have := World.ownsMap_made (((w.alloc (.cells #[.slice ra rn rc] 22)).alloc (.cells #[.bool fail] 4)).alloc (.cells #[.int .i64 val] 3)) Ybaf.prog 9 heldElem
    simpa [Hid] using this
  have HV : Hid ((((.map [] : DataW Value).put (.string ok.data.toList) (.held (.slice oa on oc))).put (.string key.data.toList) (.held (.slice ra rn rc))).atKey (.string key.data.toList) (.held (.slice none 0 0)) = .held (.slice ra rn rc)) := atKey_put_same (isMap_empty.put _ _) (key_lit _) _ _
  have HC : Hid (Maps.has (((.map [] : DataW Value).put (.string ok.data.toList) (.held (.slice oa on oc))).put (.string key.data.toList) (.held (.slice ra rn rc))) (.string key.data.toList) = true) := has_put_same (isMap_empty.put _ _) (key_lit _) _
  clear hne
  go_enter Ybaf.func3, Ybaf.ntmps3
  go_wp2_with (first
    | (at_mapUpdate; have _t := HW0; refine wpList_mapUpdate_own _ rfl _ _ _ 23 rfl 9 24 law9 Ybaf.underlying23 heldElem (w.heap.size + 1 + 1 + 1) 0 _ rfl HW0.out (by unfold maxLen; omega) _ _ _ rfl rfl HO.out _ [] rfl ?_; intro w1 hown hg; have HL1 : Hid (Laid w w1 (.slice ra rn rc) fail val) := HL0.out.grown hg; have HW1 : Hid (w1.ownsMap Ybaf.prog 9 heldElem (w.heap.size + 1 + 1 + 1) 1 ((.map [] : DataW Value).put (.string ok.data.toList) (.held (.slice oa on oc)))) := hown; have q1 := HL1.out.1; clear _t HW0 hown hg)
    | (at_mapUpdate; have _t := HW1; refine wpList_mapUpdate_own _ rfl _ _ _ 23 rfl 9 24 law9 Ybaf.underlying23 heldElem (w.heap.size + 1 + 1 + 1) 1 _ rfl HW1.out (by unfold maxLen; omega) _ _ _ rfl rfl HK.out _ [] rfl ?_; intro w2 hown hg; have HL2 : Hid (Laid w w2 (.slice ra rn rc) fail val) := HL1.out.grown hg; have HW2 : Hid (w2.ownsMap Ybaf.prog 9 heldElem (w.heap.size + 1 + 1 + 1) 2 (((.map [] : DataW Value).put (.string ok.data.toList) (.held (.slice oa on oc))).put (.string key.data.toList) (.held (.slice ra rn rc)))) := hown; have q2 := HL2.out.1; clear _t HW1 hown hg)
    | (go_at_call 7; refine (st_last_some F key ra rn rc fail val w w2 hF _ rfl HL2.out _ _ HW2.out hk (.slice ra rn rc) HV.out HC.out).mono ?_; rintro e w9 ⟨⟨u, rfl⟩, hA⟩; obtain ⟨k1, k2, k3, k4, hb⟩ := hA))
  go_ret
  exact ⟨rfl, hb⟩

set_option maxRecDepth 100000 in
set_option maxHeartbeats 1600000 in
theorem law_d1 (key ok : ByteArray) (ra oa : Option Addr) (rn rc on oc : Nat) (s : ByteArray) (val : Int) (w : World) (hr : ¬ 1024 < (rn : Int)) (ho : ¬ 1024 < (on : Int)) (hk : key.size ≤ maxLen) (hok : ok.size ≤ maxLen) (hne : ¬ ok = key)
    (hcv : ∀ W, Below w.heap.size w W → (convert 22 9 (.slice ra rn rc)).run Ybaf.prog W = .ok (.string s) W) :
    Calls Ybaf.prog 3 #[.string key, .bool true, .slice ra rn rc, .string ok, .slice oa on oc, .bool false, .bool false, .int .i64 val] w fun e w' => e = .returned (.bool true) ∧ Below w.heap.size w w' := by
  have hmm := @run_makeMap Ybaf.prog
  have hbq : (ok.toList == key.toList) = false := (Lib.bytes_beq_false_iff _ _).2 hne
  have HO : Hid (keyOf Ybaf.prog 9 (.string ok) = some (.string ok.data.toList)) := keyOf_string_mk Ybaf.underlying9 hok
  have HCV : Hid (∀ W, Below w.heap.size w W → (convert 22 9 (.slice ra rn rc)).run Ybaf.prog W = .ok (.string s) W) := hcv
  have HK : Hid (keyOf Ybaf.prog 9 (.string key) = some (.string key.data.toList)) := keyOf_string_mk Ybaf.underlying9 hk
  have HL0 : Hid (Laid w ((((w.alloc (.cells #[.slice ra rn rc] 22)).alloc (.cells #[.bool false] 4)).alloc (.cells #[.int .i64 val] 3)).alloc (.map #[] 0)) (.slice ra rn rc) false val) := laid_start w (.slice ra rn rc) false val
  have HW0 : Hid (((((w.alloc (.cells #[.slice ra rn rc] 22)).alloc (.cells #[.bool false] 4)).alloc (.cells #[.int .i64 val] 3)).alloc (.map #[] 0)).ownsMap Ybaf.prog 9 heldElem (w.heap.size + 1 + 1 + 1) 0 (.map [] : DataW Value)) := by
    have := World.ownsMap_made (((w.alloc (.cells #[.slice ra rn rc] 22)).alloc (.cells #[.bool false] 4)).alloc (.cells #[.int .i64 val] 3)) Ybaf.prog 9 heldElem
    simpa [Hid] using this
  have HV : Hid ((((.map [] : DataW Value).put (.string ok.data.toList) (.held (.slice oa on oc))).put (.string key.data.toList) (.held (.slice ra rn rc))).atKey (.string key.data.toList) (.held (.slice none 0 0)) = .held (.slice ra rn rc)) := atKey_put_same (isMap_empty.put _ _) (key_lit _) _ _
  have HC : Hid (Maps.has (((.map [] : DataW Value).put (.string ok.data.toList) (.held (.slice oa on oc))).put (.string key.data.toList) (.held (.slice ra rn rc))) (.string key.data.toList) = true) := has_put_same (isMap_empty.put _ _) (key_lit _) _
  clear hne hcv
  go_enter Ybaf.func3, Ybaf.ntmps3
  go_wp2_with (first
    | (at_mapUpdate; have _t := HW0; refine wpList_mapUpdate_own _ rfl _ _ _ 23 rfl 9 24 law9 Ybaf.underlying23 heldElem (w.heap.size + 1 + 1 + 1) 0 _ rfl HW0.out (by unfold maxLen; omega) _ _ _ rfl rfl HO.out _ [] rfl ?_; intro w1 hown hg; have HL1 : Hid (Laid w w1 (.slice ra rn rc) false val) := HL0.out.grown hg; have HW1 : Hid (w1.ownsMap Ybaf.prog 9 heldElem (w.heap.size + 1 + 1 + 1) 1 ((.map [] : DataW Value).put (.string ok.data.toList) (.held (.slice oa on oc)))) := hown; have q1 := HL1.out.1; clear _t HW0 hown hg)
    | (at_mapUpdate; have _t := HW1; refine wpList_mapUpdate_own _ rfl _ _ _ 23 rfl 9 24 law9 Ybaf.underlying23 heldElem (w.heap.size + 1 + 1 + 1) 1 _ rfl HW1.out (by unfold maxLen; omega) _ _ _ rfl rfl HK.out _ [] rfl ?_; intro w2 hown hg; have HL2 : Hid (Laid w w2 (.slice ra rn rc) false val) := HL1.out.grown hg; have HW2 : Hid (w2.ownsMap Ybaf.prog 9 heldElem (w.heap.size + 1 + 1 + 1) 2 (((.map [] : DataW Value).put (.string ok.data.toList) (.held (.slice oa on oc))).put (.string key.data.toList) (.held (.slice ra rn rc)))) := hown; have q2 := HL2.out.1; clear _t HW1 hown hg)
    | (go_at_call 7; refine (st_ok key ra rn rc val w w2 _ rfl HL2.out _ _ HW2.out hk HV.out HC.out s HCV.out).mono ?_; rintro e w9 ⟨rfl, hA⟩; obtain ⟨k1, k2, k3, k4, hb⟩ := hA))
  go_ret
  exact ⟨rfl, hb⟩

set_option maxRecDepth 100000 in
set_option maxHeartbeats 1600000 in
theorem law_d2 (F : Interp) (key ok : ByteArray) (ra oa : Option Addr) (rn rc on oc : Nat) (s : ByteArray) (val : Int) (w : World) (hF : F.answers w.tape) (hr : ¬ 1024 < (rn : Int)) (ho : ¬ 1024 < (on : Int)) (hk : key.size ≤ maxLen) (hok : ok.size ≤ maxLen) (hne : ¬ ok = key)
    (hcv : ∀ W, Below w.heap.size w W → (convert 22 9 (.slice ra rn rc)).run Ybaf.prog W = .ok (.string s) W) :
    Calls Ybaf.prog 3 #[.string key, .bool true, .slice ra rn rc, .string ok, .slice oa on oc, .bool false, .bool true, .int .i64 val] w fun e w' => e = .returned (.bool true) ∧ Below w.heap.size w w' := by
  have hmm := @run_makeMap Ybaf.prog
  have hbq : (ok.toList == key.toList) = false := (Lib.bytes_beq_false_iff _ _).2 hne
  have HO : Hid (keyOf Ybaf.prog 9 (.string ok) = some (.string ok.data.toList)) := keyOf_string_mk Ybaf.underlying9 hok
  have HCV : Hid (∀ W, Below w.heap.size w W → (convert 22 9 (.slice ra rn rc)).run Ybaf.prog W = .ok (.string s) W) := hcv
  have HK : Hid (keyOf Ybaf.prog 9 (.string key) = some (.string key.data.toList)) := keyOf_string_mk Ybaf.underlying9 hk
  have HL0 : Hid (Laid w ((((w.alloc (.cells #[.slice ra rn rc] 22)).alloc (.cells #[.bool true] 4)).alloc (.cells #[.int .i64 val] 3)).alloc (.map #[] 0)) (.slice ra rn rc) true val) := laid_start w (.slice ra rn rc) true val
  have HW0 : Hid (((((w.alloc (.cells #[.slice ra rn rc] 22)).alloc (.cells #[.bool true] 4)).alloc (.cells #[.int .i64 val] 3)).alloc (.map #[] 0)).ownsMap Ybaf.prog 9 heldElem (w.heap.size + 1 + 1 + 1) 0 (.map [] : DataW Value)) := by
    have := World.ownsMap_made (((w.alloc (.cells #[.slice ra rn rc] 22)).alloc (.cells #[.bool true] 4)).alloc (.cells #[.int .i64 val] 3)) Ybaf.prog 9 heldElem
    simpa [Hid] using this
  have HV : Hid ((((.map [] : DataW Value).put (.string ok.data.toList) (.held (.slice oa on oc))).put (.string key.data.toList) (.held (.slice ra rn rc))).atKey (.string key.data.toList) (.held (.slice none 0 0)) = .held (.slice ra rn rc)) := atKey_put_same (isMap_empty.put _ _) (key_lit _) _ _
  have HC : Hid (Maps.has (((.map [] : DataW Value).put (.string ok.data.toList) (.held (.slice oa on oc))).put (.string key.data.toList) (.held (.slice ra rn rc))) (.string key.data.toList) = true) := has_put_same (isMap_empty.put _ _) (key_lit _) _
  clear hne hcv
  go_enter Ybaf.func3, Ybaf.ntmps3
  go_wp2_with (first
    | (at_mapUpdate; have _t := HW0; refine wpList_mapUpdate_own _ rfl _ _ _ 23 rfl 9 24 law9 Ybaf.underlying23 heldElem (w.heap.size + 1 + 1 + 1) 0 _ rfl HW0.out (by unfold maxLen; omega) _ _ _ rfl rfl HO.out _ [] rfl ?_; intro w1 hown hg; have HL1 : Hid (Laid w w1 (.slice ra rn rc) true val) := HL0.out.grown hg; have HW1 : Hid (w1.ownsMap Ybaf.prog 9 heldElem (w.heap.size + 1 + 1 + 1) 1 ((.map [] : DataW Value).put (.string ok.data.toList) (.held (.slice oa on oc)))) := hown; have q1 := HL1.out.1; clear _t HW0 hown hg)
    | (at_mapUpdate; have _t := HW1; refine wpList_mapUpdate_own _ rfl _ _ _ 23 rfl 9 24 law9 Ybaf.underlying23 heldElem (w.heap.size + 1 + 1 + 1) 1 _ rfl HW1.out (by unfold maxLen; omega) _ _ _ rfl rfl HK.out _ [] rfl ?_; intro w2 hown hg; have HL2 : Hid (Laid w w2 (.slice ra rn rc) true val) := HL1.out.grown hg; have HW2 : Hid (w2.ownsMap Ybaf.prog 9 heldElem (w.heap.size + 1 + 1 + 1) 2 (((.map [] : DataW Value).put (.string ok.data.toList) (.held (.slice oa on oc))).put (.string key.data.toList) (.held (.slice ra rn rc)))) := hown; have q2 := HL2.out.1; clear _t HW1 hown hg)
    | (go_at_call 7; refine (st_bad F key ra rn rc val w w2 hF _ rfl HL2.out _ _ HW2.out hk HV.out HC.out s HCV.out).mono ?_; rintro e w9 ⟨⟨u, rfl⟩, hA⟩; obtain ⟨k1, k2, k3, k4, hb⟩ := hA))
  go_ret
  exact ⟨rfl, hb⟩

set_option maxRecDepth 100000 in
set_option maxHeartbeats 1600000 in
theorem law_d3 (key ok : ByteArray) (ra oa : Option Addr) (rn rc on oc : Nat) (fail : Bool) (val : Int) (w : World) (hr : ¬ 1024 < (rn : Int)) (ho : ¬ 1024 < (on : Int)) (hk : key.size ≤ maxLen) (hok : ok.size ≤ maxLen) (hne : ¬ ok = key) :
    Calls Ybaf.prog 3 #[.string key, .bool false, .slice ra rn rc, .string ok, .slice oa on oc, .bool true, .bool fail, .int .i64 val] w fun e w' => e = .returned (.bool true) ∧ Below w.heap.size w w' := by
  have hmm := @run_makeMap Ybaf.prog
  have hbq : (ok.toList == key.toList) = false := (Lib.bytes_beq_false_iff _ _).2 hne
  have HO : Hid (keyOf Ybaf.prog 9 (.string ok) = some (.string ok.data.toList)) := keyOf_string_mk Ybaf.underlying9 hok
  have HK : Hid (keyOf Ybaf.prog 9 (.string key) = some (.string key.data.toList)) := keyOf_string_mk Ybaf.underlying9 hk
  have HL0 : Hid (Laid w ((((w.alloc (.cells #[.slice ra rn rc] 22)).alloc (.cells #[.bool fail] 4)).alloc (.cells #[.int .i64 val] 3)).alloc (.map #[] 0)) (.slice ra rn rc) fail val) := laid_start w (.slice ra rn rc) fail val
  have HW0 : Hid (((((w.alloc (.cells #[.slice ra rn rc] 22)).alloc (.cells #[.bool fail] 4)).alloc (.cells #[.int .i64 val] 3)).alloc (.map #[] 0)).ownsMap Ybaf.prog 9 heldElem (w.heap.size + 1 + 1 + 1) 0 (.map [] : DataW Value)) := by
    have := World.ownsMap_made (((w.alloc (.cells #[.slice ra rn rc] 22)).alloc (.cells #[.bool fail] 4)).alloc (.cells #[.int .i64 val] 3)) Ybaf.prog 9 heldElem
    simpa [Hid] using this
  have HV : Hid (((.map [] : DataW Value).put (.string ok.data.toList) (.held (.slice oa on oc))).atKey (.string key.data.toList) (.held (.slice none 0 0)) = .held (.slice none 0 0)) := (atKey_put_other (key_ne fun e => hne e.symm) _ _).trans rfl
  have HC : Hid (Maps.has ((.map [] : DataW Value).put (.string ok.data.toList) (.held (.slice oa on oc))) (.string key.data.toList) = false) := (has_put_other (key_ne fun e => hne e.symm) _).trans rfl
  clear hne
  go_enter Ybaf.func3, Ybaf.ntmps3
  go_wp2_with (first
    | (at_mapUpdate; have _t := HW0; refine wpList_mapUpdate_own _ rfl _ _ _ 23 rfl 9 24 law9 Ybaf.underlying23 heldElem (w.heap.size + 1 + 1 + 1) 0 _ rfl HW0.out (by unfold maxLen; omega) _ _ _ rfl rfl HO.out _ [] rfl ?_; intro w1 hown hg; have HL1 : Hid (Laid w w1 (.slice ra rn rc) fail val) := HL0.out.grown hg; have HW1 : Hid (w1.ownsMap Ybaf.prog 9 heldElem (w.heap.size + 1 + 1 + 1) 1 ((.map [] : DataW Value).put (.string ok.data.toList) (.held (.slice oa on oc)))) := hown; have q1 := HL1.out.1; clear _t HW0 hown hg)
    | (go_at_call 7; refine (st_last_none key ra rn rc fail val w w1 _ rfl HL1.out _ _ HW1.out hk (.slice none 0 0) HV.out HC.out).mono ?_; rintro e w9 ⟨rfl, hA⟩; obtain ⟨k1, k2, k3, k4, hb⟩ := hA))
  go_ret
  exact ⟨rfl, hb⟩

set_option maxRecDepth 100000 in
set_option maxHeartbeats 1600000 in
theorem law_d4 (F : Interp) (key ok : ByteArray) (ra oa : Option Addr) (rn rc on oc : Nat) (fail : Bool) (val : Int) (w : World) (hF : F.answers w.tape) (hr : ¬ 1024 < (rn : Int)) (ho : ¬ 1024 < (on : Int)) (hk : key.size ≤ maxLen) (hok : ok.size ≤ maxLen) (hne : ¬ ok = key) :
    Calls Ybaf.prog 3 #[.string key, .bool false, .slice ra rn rc, .string ok, .slice oa on oc, .bool false, .bool fail, .int .i64 val] w fun e w' => e = .returned (.bool true) ∧ Below w.heap.size w w' := by
  have hmm := @run_makeMap Ybaf.prog
  have hbq : (ok.toList == key.toList) = false := (Lib.bytes_beq_false_iff _ _).2 hne
  have HO : Hid (keyOf Ybaf.prog 9 (.string ok) = some (.string ok.data.toList)) := keyOf_string_mk Ybaf.underlying9 hok
  have HK : Hid (keyOf Ybaf.prog 9 (.string key) = some (.string key.data.toList)) := keyOf_string_mk Ybaf.underlying9 hk
  have HL0 : Hid (Laid w ((((w.alloc (.cells #[.slice ra rn rc] 22)).alloc (.cells #[.bool fail] 4)).alloc (.cells #[.int .i64 val] 3)).alloc (.map #[] 0)) (.slice ra rn rc) fail val) := laid_start w (.slice ra rn rc) fail val
  have HW0 : Hid (((((w.alloc (.cells #[.slice ra rn rc] 22)).alloc (.cells #[.bool fail] 4)).alloc (.cells #[.int .i64 val] 3)).alloc (.map #[] 0)).ownsMap Ybaf.prog 9 heldElem (w.heap.size + 1 + 1 + 1) 0 (.map [] : DataW Value)) := by
    have := World.ownsMap_made (((w.alloc (.cells #[.slice ra rn rc] 22)).alloc (.cells #[.bool fail] 4)).alloc (.cells #[.int .i64 val] 3)) Ybaf.prog 9 heldElem
    simpa [Hid] using this
  have HV : Hid (((.map [] : DataW Value).put (.string ok.data.toList) (.held (.slice oa on oc))).atKey (.string key.data.toList) (.held (.slice none 0 0)) = .held (.slice none 0 0)) := (atKey_put_other (key_ne fun e => hne e.symm) _ _).trans rfl
  have HC : Hid (Maps.has ((.map [] : DataW Value).put (.string ok.data.toList) (.held (.slice oa on oc))) (.string key.data.toList) = false) := (has_put_other (key_ne fun e => hne e.symm) _).trans rfl
  clear hne
  go_enter Ybaf.func3, Ybaf.ntmps3
  go_wp2_with (first
    | (at_mapUpdate; have _t := HW0; refine wpList_mapUpdate_own _ rfl _ _ _ 23 rfl 9 24 law9 Ybaf.underlying23 heldElem (w.heap.size + 1 + 1 + 1) 0 _ rfl HW0.out (by unfold maxLen; omega) _ _ _ rfl rfl HO.out _ [] rfl ?_; intro w1 hown hg; have HL1 : Hid (Laid w w1 (.slice ra rn rc) fail val) := HL0.out.grown hg; have HW1 : Hid (w1.ownsMap Ybaf.prog 9 heldElem (w.heap.size + 1 + 1 + 1) 1 ((.map [] : DataW Value).put (.string ok.data.toList) (.held (.slice oa on oc)))) := hown; have q1 := HL1.out.1; clear _t HW0 hown hg)
    | (go_at_call 7; refine (st_none F key ra rn rc fail val w w1 hF _ rfl HL1.out _ _ HW1.out hk (.slice none 0 0) HV.out HC.out).mono ?_; rintro e w9 ⟨⟨u, rfl⟩, hA⟩; obtain ⟨k1, k2, k3, k4, hb⟩ := hA))
  go_ret
  exact ⟨rfl, hb⟩

set_option maxRecDepth 100000 in
set_option maxHeartbeats 1600000 in
theorem law_s0 (F : Interp) (key : ByteArray) (ra oa : Option Addr) (rn rc on oc : Nat) (fail : Bool) (val : Int) (w : World) (hF : F.answers w.tape) (hr : ¬ 1024 < (rn : Int)) (ho : ¬ 1024 < (on : Int)) (hk : key.size ≤ maxLen) :
    Calls Ybaf.prog 3 #[.string key, .bool true, .slice ra rn rc, .string key, .slice oa on oc, .bool true, .bool fail, .int .i64 val] w fun e w' => e = .returned (.bool true) ∧ Below w.heap.size w w' := by
  have hmm := @run_makeMap Ybaf.prog
  have HK : Hid (keyOf Ybaf.prog 9 (.string key) = some (.string key.data.toList)) := keyOf_string_mk Ybaf.underlying9 hk
  have HL0 : Hid (Laid w ((((w.alloc (.cells #[.slice ra rn rc] 22)).alloc (.cells #[.bool fail] 4)).alloc (.cells #[.int .i64 val] 3)).alloc (.map #[] 0)) (.slice ra rn rc) fail val) := laid_start w (.slice ra rn rc) fail val
  have HW0 : Hid (((((w.alloc (.cells #[.slice ra rn rc] 22)).alloc (.cells #[.bool fail] 4)).alloc (.cells #[.int .i64 val] 3)).alloc (.map #[] 0)).ownsMap Ybaf.prog 9 heldElem (w.heap.size + 1 + 1 + 1) 0 (.map [] : DataW Value)) := by
    have := World.ownsMap_made (((w.alloc (.cells #[.slice ra rn rc] 22)).alloc (.cells #[.bool fail] 4)).alloc (.cells #[.int .i64 val] 3)) Ybaf.prog 9 heldElem
    simpa [Hid] using this
  have HV : Hid (((.map [] : DataW Value).put (.string key.data.toList) (.held (.slice ra rn rc))).atKey (.string key.data.toList) (.held (.slice none 0 0)) = .held (.slice ra rn rc)) := atKey_put_same isMap_empty (key_lit _) _ _
  have HC : Hid (Maps.has ((.map [] : DataW Value).put (.string key.data.toList) (.held (.slice ra rn rc))) (.string key.data.toList) = true) := has_put_same isMap_empty (key_lit _) _
  go_enter Ybaf.func3, Ybaf.ntmps3
  go_wp2_with (first
    | (at_mapUpdate; have _t := HW0; refine wpList_mapUpdate_own _ rfl _ _ _ 23 rfl 9 24 law9 Ybaf.underlying23 heldElem (w.heap.size + 1 + 1 + 1) 0 _ rfl HW0.out (by unfold maxLen; omega) _ _ _ rfl rfl HK.out _ [] rfl ?_; intro w1 hown hg; have HL1 : Hid (Laid w w1 (.slice ra rn rc) fail val) := HL0.out.grown hg; have HW1 : Hid (w1.ownsMap Ybaf.prog 9 heldElem (w.heap.size + 1 + 1 + 1) 1 ((.map [] : DataW Value).put (.string key.data.toList) (.held (.slice ra rn rc)))) := hown; have q1 := HL1.out.1; clear _t HW0 hown hg)
    | (go_at_call 7; refine (st_last_some F key ra rn rc fail val w w1 hF _ rfl HL1.out _ _ HW1.out hk (.slice ra rn rc) HV.out HC.out).mono ?_; rintro e w9 ⟨⟨u, rfl⟩, hA⟩; obtain ⟨k1, k2, k3, k4, hb⟩ := hA))
  go_ret
  exact ⟨rfl, hb⟩

set_option maxRecDepth 100000 in
set_option maxHeartbeats 1600000 in
theorem law_s1 (key : ByteArray) (ra oa : Option Addr) (rn rc on oc : Nat) (s : ByteArray) (val : Int) (w : World) (hr : ¬ 1024 < (rn : Int)) (ho : ¬ 1024 < (on : Int)) (hk : key.size ≤ maxLen)
    (hcv : ∀ W, Below w.heap.size w W → (convert 22 9 (.slice ra rn rc)).run Ybaf.prog W = .ok (.string s) W) :
    Calls Ybaf.prog 3 #[.string key, .bool true, .slice ra rn rc, .string key, .slice oa on oc, .bool false, .bool false, .int .i64 val] w fun e w' => e = .returned (.bool true) ∧ Below w.heap.size w w' := by
  have hmm := @run_makeMap Ybaf.prog
  have HCV : Hid (∀ W, Below w.heap.size w W → (convert 22 9 (.slice ra rn rc)).run Ybaf.prog W = .ok (.string s) W) := hcv
  have HK : Hid (keyOf Ybaf.prog 9 (.string key) = some (.string key.data.toList)) := keyOf_string_mk Ybaf.underlying9 hk
  have HL0 : Hid (Laid w ((((w.alloc (.cells #[.slice ra rn rc] 22)).alloc (.cells #[.bool false] 4)).alloc (.cells #[.int .i64 val] 3)).alloc (.map #[] 0)) (.slice ra rn rc) false val) := laid_start w (.slice ra rn rc) false val
  have HW0 : Hid (((((w.alloc (.cells #[.slice ra rn rc] 22)).alloc (.cells #[.bool false] 4)).alloc (.cells #[.int .i64 val] 3)).alloc (.map #[] 0)).ownsMap Ybaf.prog 9 heldElem (w.heap.size + 1 + 1 + 1) 0 (.map [] : DataW Value)) := by
    have := World.ownsMap_made (((w.alloc (.cells #[.slice ra rn rc] 22)).alloc (.cells #[.bool false] 4)).alloc (.cells #[.int .i64 val] 3)) Ybaf.prog 9 heldElem
    simpa [Hid] using this
  have HV : Hid (((.map [] : DataW Value).put (.string key.data.toList) (.held (.slice ra rn rc))).atKey (.string key.data.toList) (.held (.slice none 0 0)) = .held (.slice ra rn rc)) := atKey_put_same isMap_empty (key_lit _) _ _
  have HC : Hid (Maps.has ((.map [] : DataW Value).put (.string key.data.toList) (.held (.slice ra rn rc))) (.string key.data.toList) = true) := has_put_same isMap_empty (key_lit _) _
  clear hcv
  go_enter Ybaf.func3, Ybaf.ntmps3
  go_wp2_with (first
    | (at_mapUpdate; have _t := HW0; refine wpList_mapUpdate_own _ rfl _ _ _ 23 rfl 9 24 law9 Ybaf.underlying23 heldElem (w.heap.size + 1 + 1 + 1) 0 _ rfl HW0.out (by unfold maxLen; omega) _ _ _ rfl rfl HK.out _ [] rfl ?_; intro w1 hown hg; have HL1 : Hid (Laid w w1 (.slice ra rn rc) false val) := HL0.out.grown hg; have HW1 : Hid (w1.ownsMap Ybaf.prog 9 heldElem (w.heap.size + 1 + 1 + 1) 1 ((.map [] : DataW Value).put (.string key.data.toList) (.held (.slice ra rn rc)))) := hown; have q1 := HL1.out.1; clear _t HW0 hown hg)
    | (go_at_call 7; refine (st_ok key ra rn rc val w w1 _ rfl HL1.out _ _ HW1.out hk HV.out HC.out s HCV.out).mono ?_; rintro e w9 ⟨rfl, hA⟩; obtain ⟨k1, k2, k3, k4, hb⟩ := hA))
  go_ret
  exact ⟨rfl, hb⟩

set_option maxRecDepth 100000 in
set_option maxHeartbeats 1600000 in
theorem law_s2 (F : Interp) (key : ByteArray) (ra oa : Option Addr) (rn rc on oc : Nat) (s : ByteArray) (val : Int) (w : World) (hF : F.answers w.tape) (hr : ¬ 1024 < (rn : Int)) (ho : ¬ 1024 < (on : Int)) (hk : key.size ≤ maxLen)
    (hcv : ∀ W, Below w.heap.size w W → (convert 22 9 (.slice ra rn rc)).run Ybaf.prog W = .ok (.string s) W) :
    Calls Ybaf.prog 3 #[.string key, .bool true, .slice ra rn rc, .string key, .slice oa on oc, .bool false, .bool true, .int .i64 val] w fun e w' => e = .returned (.bool true) ∧ Below w.heap.size w w' := by
  have hmm := @run_makeMap Ybaf.prog
  have HCV : Hid (∀ W, Below w.heap.size w W → (convert 22 9 (.slice ra rn rc)).run Ybaf.prog W = .ok (.string s) W) := hcv
  have HK : Hid (keyOf Ybaf.prog 9 (.string key) = some (.string key.data.toList)) := keyOf_string_mk Ybaf.underlying9 hk
  have HL0 : Hid (Laid w ((((w.alloc (.cells #[.slice ra rn rc] 22)).alloc (.cells #[.bool true] 4)).alloc (.cells #[.int .i64 val] 3)).alloc (.map #[] 0)) (.slice ra rn rc) true val) := laid_start w (.slice ra rn rc) true val
  have HW0 : Hid (((((w.alloc (.cells #[.slice ra rn rc] 22)).alloc (.cells #[.bool true] 4)).alloc (.cells #[.int .i64 val] 3)).alloc (.map #[] 0)).ownsMap Ybaf.prog 9 heldElem (w.heap.size + 1 + 1 + 1) 0 (.map [] : DataW Value)) := by
    have := World.ownsMap_made (((w.alloc (.cells #[.slice ra rn rc] 22)).alloc (.cells #[.bool true] 4)).alloc (.cells #[.int .i64 val] 3)) Ybaf.prog 9 heldElem
    simpa [Hid] using this
  have HV : Hid (((.map [] : DataW Value).put (.string key.data.toList) (.held (.slice ra rn rc))).atKey (.string key.data.toList) (.held (.slice none 0 0)) = .held (.slice ra rn rc)) := atKey_put_same isMap_empty (key_lit _) _ _
  have HC : Hid (Maps.has ((.map [] : DataW Value).put (.string key.data.toList) (.held (.slice ra rn rc))) (.string key.data.toList) = true) := has_put_same isMap_empty (key_lit _) _
  clear hcv
  go_enter Ybaf.func3, Ybaf.ntmps3
  go_wp2_with (first
    | (at_mapUpdate; have _t := HW0; refine wpList_mapUpdate_own _ rfl _ _ _ 23 rfl 9 24 law9 Ybaf.underlying23 heldElem (w.heap.size + 1 + 1 + 1) 0 _ rfl HW0.out (by unfold maxLen; omega) _ _ _ rfl rfl HK.out _ [] rfl ?_; intro w1 hown hg; have HL1 : Hid (Laid w w1 (.slice ra rn rc) true val) := HL0.out.grown hg; have HW1 : Hid (w1.ownsMap Ybaf.prog 9 heldElem (w.heap.size + 1 + 1 + 1) 1 ((.map [] : DataW Value).put (.string key.data.toList) (.held (.slice ra rn rc)))) := hown; have q1 := HL1.out.1; clear _t HW0 hown hg)
    | (go_at_call 7; refine (st_bad F key ra rn rc val w w1 hF _ rfl HL1.out _ _ HW1.out hk HV.out HC.out s HCV.out).mono ?_; rintro e w9 ⟨⟨u, rfl⟩, hA⟩; obtain ⟨k1, k2, k3, k4, hb⟩ := hA))
  go_ret
  exact ⟨rfl, hb⟩

set_option maxRecDepth 100000 in
set_option maxHeartbeats 1600000 in
theorem law_s3 (key : ByteArray) (ra oa : Option Addr) (rn rc on oc : Nat) (fail : Bool) (val : Int) (w : World) (hr : ¬ 1024 < (rn : Int)) (ho : ¬ 1024 < (on : Int)) (hk : key.size ≤ maxLen) :
    Calls Ybaf.prog 3 #[.string key, .bool false, .slice ra rn rc, .string key, .slice oa on oc, .bool true, .bool fail, .int .i64 val] w fun e w' => e = .returned (.bool true) ∧ Below w.heap.size w w' := by
  have hmm := @run_makeMap Ybaf.prog
  have HK : Hid (keyOf Ybaf.prog 9 (.string key) = some (.string key.data.toList)) := keyOf_string_mk Ybaf.underlying9 hk
  have HL0 : Hid (Laid w ((((w.alloc (.cells #[.slice ra rn rc] 22)).alloc (.cells #[.bool fail] 4)).alloc (.cells #[.int .i64 val] 3)).alloc (.map #[] 0)) (.slice ra rn rc) fail val) := laid_start w (.slice ra rn rc) fail val
  have HW0 : Hid (((((w.alloc (.cells #[.slice ra rn rc] 22)).alloc (.cells #[.bool fail] 4)).alloc (.cells #[.int .i64 val] 3)).alloc (.map #[] 0)).ownsMap Ybaf.prog 9 heldElem (w.heap.size + 1 + 1 + 1) 0 (.map [] : DataW Value)) := by
    have := World.ownsMap_made (((w.alloc (.cells #[.slice ra rn rc] 22)).alloc (.cells #[.bool fail] 4)).alloc (.cells #[.int .i64 val] 3)) Ybaf.prog 9 heldElem
    simpa [Hid] using this
  have HV : Hid ((.map [] : DataW Value).atKey (.string key.data.toList) (.held (.slice none 0 0)) = .held (.slice none 0 0)) := rfl
  have HC : Hid (Maps.has (.map [] : DataW Value) (.string key.data.toList) = false) := rfl
  go_enter Ybaf.func3, Ybaf.ntmps3
  go_wp2_with (first
    | (go_at_call 7; refine (st_last_none key ra rn rc fail val w _ _ (by simp) HL0.out _ _ HW0.out hk (.slice none 0 0) HV.out HC.out).mono ?_; rintro e w9 ⟨rfl, hA⟩; obtain ⟨k1, k2, k3, k4, hb⟩ := hA))
  go_ret
  exact ⟨rfl, hb⟩

set_option maxRecDepth 100000 in
set_option maxHeartbeats 1600000 in
theorem law_s4 (F : Interp) (key : ByteArray) (ra oa : Option Addr) (rn rc on oc : Nat) (fail : Bool) (val : Int) (w : World) (hF : F.answers w.tape) (hr : ¬ 1024 < (rn : Int)) (ho : ¬ 1024 < (on : Int)) (hk : key.size ≤ maxLen) :
    Calls Ybaf.prog 3 #[.string key, .bool false, .slice ra rn rc, .string key, .slice oa on oc, .bool false, .bool fail, .int .i64 val] w fun e w' => e = .returned (.bool true) ∧ Below w.heap.size w w' := by
  have hmm := @run_makeMap Ybaf.prog
  have HK : Hid (keyOf Ybaf.prog 9 (.string key) = some (.string key.data.toList)) := keyOf_string_mk Ybaf.underlying9 hk
  have HL0 : Hid (Laid w ((((w.alloc (.cells #[.slice ra rn rc] 22)).alloc (.cells #[.bool fail] 4)).alloc (.cells #[.int .i64 val] 3)).alloc (.map #[] 0)) (.slice ra rn rc) fail val) := laid_start w (.slice ra rn rc) fail val
  have HW0 : Hid (((((w.alloc (.cells #[.slice ra rn rc] 22)).alloc (.cells #[.bool fail] 4)).alloc (.cells #[.int .i64 val] 3)).alloc (.map #[] 0)).ownsMap Ybaf.prog 9 heldElem (w.heap.size + 1 + 1 + 1) 0 (.map [] : DataW Value)) := by
    have := World.ownsMap_made (((w.alloc (.cells #[.slice ra rn rc] 22)).alloc (.cells #[.bool fail] 4)).alloc (.cells #[.int .i64 val] 3)) Ybaf.prog 9 heldElem
    simpa [Hid] using this
  have HV : Hid ((.map [] : DataW Value).atKey (.string key.data.toList) (.held (.slice none 0 0)) = .held (.slice none 0 0)) := rfl
  have HC : Hid (Maps.has (.map [] : DataW Value) (.string key.data.toList) = false) := rfl
  go_enter Ybaf.func3, Ybaf.ntmps3
  go_wp2_with (first
    | (go_at_call 7; refine (st_none F key ra rn rc fail val w _ hF _ (by simp) HL0.out _ _ HW0.out hk (.slice none 0 0) HV.out HC.out).mono ?_; rintro e w9 ⟨⟨u, rfl⟩, hA⟩; obtain ⟨k1, k2, k3, k4, hb⟩ := hA))
  go_ret
  exact ⟨rfl, hb⟩

end Go.Proofs.YbulkaxccFmt
