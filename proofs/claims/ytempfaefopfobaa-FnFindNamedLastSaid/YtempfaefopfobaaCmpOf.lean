/- CmpOf: value.Compare, Equals, Less and impl's CompareValues, EqualValues, LessValues, of what CompareUsing and EqualsUsing say; two strings. -/
import Derived.Test.YtempfaefopfobaaIs
import Derived.Test.YtempfaefopfobaaStrCmp
import Derived.Defers
import Derived.Deep.RegionHeld3

namespace Go.Proofs.Ytempfaefopfobaa
open Go.ChangeShapes Go.WideShapes Go.ChangeAt Go.RowKit
set_option linter.unusedVariables false
set_option linter.unusedSimpArgs false

/-- what CompareUsing says of two trees -/
def CmpU (t1 t2 : Tree) (z : Int) : Prop := ∀ (W : World) (al : Addr) (x1 x2 : Value), RepVal Any W t1 x1 → RepVal Any W t2 x2 → Calls Try.prog 130 #[.iface 172 (.pointer (some al)), x1, x2] W fun e W' => e = .returned (.int .i64 z) ∧ Ext W W'
def EquU (t1 t2 : Tree) (b : Bool) : Prop := ∀ (W : World) (al : Addr) (x1 x2 : Value), RepVal Any W t1 x1 → RepVal Any W t2 x2 → Calls Try.prog 119 #[.iface 172 (.pointer (some al)), x1, x2] W fun e W' => e = .returned (.bool b) ∧ Ext W W'
set_option maxRecDepth 100000 in
theorem Compare_of (t1 t2 : Tree) (z : Int) (hC : CmpU t1 t2 z) (x1 x2 : Value) (w : World) (h1 : RepVal Any w t1 x1) (h2 : RepVal Any w t2 x2) :
    Calls Try.prog 116 #[x1, x2] w fun e w' => e = .returned (.int .i64 z) ∧ Ext w w' := by
  have HC := hid (fun (W : World) (al : Addr) (E : Ext w W) => hC W al x1 x2 (h1.ext E) (h2.ext E))
  obtain ⟨b1, v1, rfl, -⟩ := h1
  obtain ⟨b2, v2, rfl, -⟩ := h2
  clear hC
  go_enter Try.func116, Try.ntmps116
  go_wp2_with (go_at_call 130; refine (HC.out _ _ ((Ext.refl w).alloc _)).mono ?_; rintro e w2 ⟨rfl, hE⟩)
  go_ret
  exact ⟨rfl, ((Ext.refl w).alloc _).trans hE⟩
set_option maxRecDepth 100000 in
theorem Equals_of (t1 t2 : Tree) (z : Bool) (hC : EquU t1 t2 z) (x1 x2 : Value) (w : World) (h1 : RepVal Any w t1 x1) (h2 : RepVal Any w t2 x2) :
    Calls Try.prog 97 #[x1, x2] w fun e w' => e = .returned (.bool z) ∧ Ext w w' := by
  have HC := hid (fun (W : World) (al : Addr) (E : Ext w W) => hC W al x1 x2 (h1.ext E) (h2.ext E))
  obtain ⟨b1, v1, rfl, -⟩ := h1
  obtain ⟨b2, v2, rfl, -⟩ := h2
  clear hC
  go_enter Try.func97, Try.ntmps97
  go_wp2_with (go_at_call 119; refine (HC.out _ _ ((Ext.refl w).alloc _)).mono ?_; rintro e w2 ⟨rfl, hE⟩)
  go_ret
  exact ⟨rfl, ((Ext.refl w).alloc _).trans hE⟩
set_option maxRecDepth 100000 in
set_option maxHeartbeats 2000000 in
theorem cmpu_str (a b : ByteArray) : CmpU (.str a) (.str b) (scmp a b) := by
  intro w al x1 x2 h1 h2
  obtain ⟨b1, v1, rfl, -, hb1, hT1⟩ := h1
  obtain ⟨b2, v2, rfl, -, hb2, hT2⟩ := h2
  cases hT1
  cases hT2
  have HC1 := hid (show w.cell? ⟨b1, 0, none⟩ = some (.iface 9 (.string a)) from (cell_of_heap hb1 0).trans rfl)
  have HC2 := hid (show w.cell? ⟨b2, 0, none⟩ = some (.iface 9 (.string b)) from (cell_of_heap hb2 0).trans rfl)
  have q1 := HC1.out
  have q2 := HC2.out
  have HE := hid (Ext.refl w)
  have FS := hid (fun (W : World) (s : ByteArray) (h : s.size ≤ 140737488351232) => RepT.str (S := Any) (w := W) s h)
  have hsa : a.size ≤ 140737488351232 := by assumption
  have hsb : b.size ≤ 140737488351232 := by assumption
  clear hb1 hb2
  go_enter_defers Try.func130, Try.ntmps130
  go_wp2_with (first
    | (go_at_call_of 185 a; refine (show Calls Try.prog 185 #[.agg #[.iface 9 (.string a)]] _ fun e w' => e = .returned (.bool false) ∧ Ext _ w' from is_IsInt Any (.str a) _ _ (FS.out _ a hsa)).mono ?_; rintro e wn ⟨rfl, hE⟩; replace HE := hid (HE.out.trans hE); replace q1 := HE.out.cellS HC1.out; replace q2 := HE.out.cellS HC2.out; clear hE)
    | (go_at_call_of 185 b; refine (show Calls Try.prog 185 #[.agg #[.iface 9 (.string b)]] _ fun e w' => e = .returned (.bool false) ∧ Ext _ w' from is_IsInt Any (.str b) _ _ (FS.out _ b hsb)).mono ?_; rintro e wn ⟨rfl, hE⟩; replace HE := hid (HE.out.trans hE); replace q1 := HE.out.cellS HC1.out; replace q2 := HE.out.cellS HC2.out; clear hE)
    | (go_at_call_of 184 a; refine (show Calls Try.prog 184 #[.agg #[.iface 9 (.string a)]] _ fun e w' => e = .returned (.bool false) ∧ Ext _ w' from is_IsFloat Any (.str a) _ _ (FS.out _ a hsa)).mono ?_; rintro e wn ⟨rfl, hE⟩; replace HE := hid (HE.out.trans hE); replace q1 := HE.out.cellS HC1.out; replace q2 := HE.out.cellS HC2.out; clear hE)
    | (go_at_call_of 184 b; refine (show Calls Try.prog 184 #[.agg #[.iface 9 (.string b)]] _ fun e w' => e = .returned (.bool false) ∧ Ext _ w' from is_IsFloat Any (.str b) _ _ (FS.out _ b hsb)).mono ?_; rintro e wn ⟨rfl, hE⟩; replace HE := hid (HE.out.trans hE); replace q1 := HE.out.cellS HC1.out; replace q2 := HE.out.cellS HC2.out; clear hE)
    | (go_at_call_of 189 a; refine (show Calls Try.prog 189 #[.agg #[.iface 9 (.string a)]] _ fun e w' => e = .returned (.bool true) ∧ Ext _ w' from is_IsString Any (.str a) _ _ (FS.out _ a hsa)).mono ?_; rintro e wn ⟨rfl, hE⟩; replace HE := hid (HE.out.trans hE); replace q1 := HE.out.cellS HC1.out; replace q2 := HE.out.cellS HC2.out; clear hE)
    | (go_at_call_of 189 b; refine (show Calls Try.prog 189 #[.agg #[.iface 9 (.string b)]] _ fun e w' => e = .returned (.bool true) ∧ Ext _ w' from is_IsString Any (.str b) _ _ (FS.out _ b hsb)).mono ?_; rintro e wn ⟨rfl, hE⟩; replace HE := hid (HE.out.trans hE); replace q1 := HE.out.cellS HC1.out; replace q2 := HE.out.cellS HC2.out; clear hE)
    | (go_at_call_of 182 a; refine (as_AsString a _).mono ?_; rintro e wn ⟨rfl, hE⟩; replace HE := hid (HE.out.trans hE); replace q1 := HE.out.cellS HC1.out; replace q2 := HE.out.cellS HC2.out; clear hE)
    | (go_at_call_of 182 b; refine (as_AsString b _).mono ?_; rintro e wn ⟨rfl, hE⟩; replace HE := hid (HE.out.trans hE); replace q1 := HE.out.cellS HC1.out; replace q2 := HE.out.cellS HC2.out; clear hE)
    | (go_at_call 114; refine (strcmp_any _ _ _).mono ?_; rintro e wn ⟨rfl, rfl⟩))
  all_goals exact ⟨_, results_tmp rfl _ _ _, rfl, HE.out⟩
set_option maxRecDepth 100000 in
set_option maxHeartbeats 2000000 in
theorem equ_str (a b : ByteArray) : EquU (.str a) (.str b) (a.toList == b.toList) := by
  intro w al x1 x2 h1 h2
  obtain ⟨b1, v1, rfl, -, hb1, hT1⟩ := h1
  obtain ⟨b2, v2, rfl, -, hb2, hT2⟩ := h2
  cases hT1
  cases hT2
  have HC1 := hid (show w.cell? ⟨b1, 0, none⟩ = some (.iface 9 (.string a)) from (cell_of_heap hb1 0).trans rfl)
  have HC2 := hid (show w.cell? ⟨b2, 0, none⟩ = some (.iface 9 (.string b)) from (cell_of_heap hb2 0).trans rfl)
  have q1 := HC1.out
  have q2 := HC2.out
  have HE := hid (Ext.refl w)
  have FS := hid (fun (W : World) (s : ByteArray) (h : s.size ≤ 140737488351232) => RepT.str (S := Any) (w := W) s h)
  have hsa : a.size ≤ 140737488351232 := by assumption
  have hsb : b.size ≤ 140737488351232 := by assumption
  clear hb1 hb2
  go_enter_defers Try.func119, Try.ntmps119
  go_wp2_with (first
    | (go_at_call_of 185 a; refine (show Calls Try.prog 185 #[.agg #[.iface 9 (.string a)]] _ fun e w' => e = .returned (.bool false) ∧ Ext _ w' from is_IsInt Any (.str a) _ _ (FS.out _ a hsa)).mono ?_; rintro e wn ⟨rfl, hE⟩; replace HE := hid (HE.out.trans hE); replace q1 := HE.out.cellS HC1.out; replace q2 := HE.out.cellS HC2.out; clear hE)
    | (go_at_call_of 185 b; refine (show Calls Try.prog 185 #[.agg #[.iface 9 (.string b)]] _ fun e w' => e = .returned (.bool false) ∧ Ext _ w' from is_IsInt Any (.str b) _ _ (FS.out _ b hsb)).mono ?_; rintro e wn ⟨rfl, hE⟩; replace HE := hid (HE.out.trans hE); replace q1 := HE.out.cellS HC1.out; replace q2 := HE.out.cellS HC2.out; clear hE)
    | (go_at_call_of 184 a; refine (show Calls Try.prog 184 #[.agg #[.iface 9 (.string a)]] _ fun e w' => e = .returned (.bool false) ∧ Ext _ w' from is_IsFloat Any (.str a) _ _ (FS.out _ a hsa)).mono ?_; rintro e wn ⟨rfl, hE⟩; replace HE := hid (HE.out.trans hE); replace q1 := HE.out.cellS HC1.out; replace q2 := HE.out.cellS HC2.out; clear hE)
    | (go_at_call_of 184 b; refine (show Calls Try.prog 184 #[.agg #[.iface 9 (.string b)]] _ fun e w' => e = .returned (.bool false) ∧ Ext _ w' from is_IsFloat Any (.str b) _ _ (FS.out _ b hsb)).mono ?_; rintro e wn ⟨rfl, hE⟩; replace HE := hid (HE.out.trans hE); replace q1 := HE.out.cellS HC1.out; replace q2 := HE.out.cellS HC2.out; clear hE)
    | (go_at_call_of 189 a; refine (show Calls Try.prog 189 #[.agg #[.iface 9 (.string a)]] _ fun e w' => e = .returned (.bool true) ∧ Ext _ w' from is_IsString Any (.str a) _ _ (FS.out _ a hsa)).mono ?_; rintro e wn ⟨rfl, hE⟩; replace HE := hid (HE.out.trans hE); replace q1 := HE.out.cellS HC1.out; replace q2 := HE.out.cellS HC2.out; clear hE)
    | (go_at_call_of 189 b; refine (show Calls Try.prog 189 #[.agg #[.iface 9 (.string b)]] _ fun e w' => e = .returned (.bool true) ∧ Ext _ w' from is_IsString Any (.str b) _ _ (FS.out _ b hsb)).mono ?_; rintro e wn ⟨rfl, hE⟩; replace HE := hid (HE.out.trans hE); replace q1 := HE.out.cellS HC1.out; replace q2 := HE.out.cellS HC2.out; clear hE)
    | (go_at_call_of 182 a; refine (as_AsString a _).mono ?_; rintro e wn ⟨rfl, hE⟩; replace HE := hid (HE.out.trans hE); replace q1 := HE.out.cellS HC1.out; replace q2 := HE.out.cellS HC2.out; clear hE)
    | (go_at_call_of 182 b; refine (as_AsString b _).mono ?_; rintro e wn ⟨rfl, hE⟩; replace HE := hid (HE.out.trans hE); replace q1 := HE.out.cellS HC1.out; replace q2 := HE.out.cellS HC2.out; clear hE))
  all_goals exact ⟨_, results_tmp rfl _ _ _, rfl, HE.out⟩
end Go.Proofs.Ytempfaefopfobaa
