/- EquScal: value.EqualsUsing of scalars; in plain Lean: when two trees are equal. -/
import Derived.Test.YtempfaefopfobaaCmpAll
import Derived.Test.YtempfaefopfobaaOrd

set_option maxRecDepth 100000
namespace Go.Proofs.Ytempfaefopfobaa
open Go.ChangeShapes Go.WideShapes Go.ChangeAt Go.RowKit
set_option linter.unusedVariables false
set_option linter.unusedSimpArgs false
set_option maxRecDepth 100000 in
set_option maxHeartbeats 2000000 in
theorem equ_int (m n : Int) : EquU (.int m) (.int n) (m == n) := by
  intro w al y1 y2 h1 h2
  obtain ⟨b1, v1, rfl, -, hb1, hT1⟩ := h1
  obtain ⟨b2, v2, rfl, -, hb2, hT2⟩ := h2
  have e1 : v1 = .iface 2 (.int .i64 m) := by cases hT1; rfl
  have e2 : v2 = .iface 2 (.int .i64 n) := by cases hT2; rfl
  subst e1 e2
  have HT1 := hid hT1
  have HT2 := hid hT2
  have HC1 := hid (show w.cell? ⟨b1, 0, none⟩ = some (.iface 2 (.int .i64 m)) from (cell_of_heap hb1 0).trans rfl)
  have HC2 := hid (show w.cell? ⟨b2, 0, none⟩ = some (.iface 2 (.int .i64 n)) from (cell_of_heap hb2 0).trans rfl)
  have q1 := HC1.out
  have q2 := HC2.out
  have HE := hid (Ext.refl w)
  clear hb1 hb2 hT1 hT2
  go_enter_defers Try.func119, Try.ntmps119
  go_wp2_with (first
    | (go_at_call_of 188 m; refine (show Calls Try.prog 188 #[.agg #[.iface 2 (.int .i64 m)]] _ fun e w' => e = .returned (.bool false) ∧ Ext _ w' from is_IsNull Any (.int m) _ _ (HT1.out.ext HE.out)).mono ?_; rintro e wn ⟨rfl, hE⟩; replace HE := hid (HE.out.trans hE); replace q1 := HE.out.cellS HC1.out; replace q2 := HE.out.cellS HC2.out; clear hE)
    | (go_at_call_of 188 n; refine (show Calls Try.prog 188 #[.agg #[.iface 2 (.int .i64 n)]] _ fun e w' => e = .returned (.bool false) ∧ Ext _ w' from is_IsNull Any (.int n) _ _ (HT2.out.ext HE.out)).mono ?_; rintro e wn ⟨rfl, hE⟩; replace HE := hid (HE.out.trans hE); replace q1 := HE.out.cellS HC1.out; replace q2 := HE.out.cellS HC2.out; clear hE)
    | (go_at_call_of 183 m; refine (show Calls Try.prog 183 #[.agg #[.iface 2 (.int .i64 m)]] _ fun e w' => e = .returned (.bool false) ∧ Ext _ w' from is_IsBool Any (.int m) _ _ (HT1.out.ext HE.out)).mono ?_; rintro e wn ⟨rfl, hE⟩; replace HE := hid (HE.out.trans hE); replace q1 := HE.out.cellS HC1.out; replace q2 := HE.out.cellS HC2.out; clear hE)
    | (go_at_call_of 183 n; refine (show Calls Try.prog 183 #[.agg #[.iface 2 (.int .i64 n)]] _ fun e w' => e = .returned (.bool false) ∧ Ext _ w' from is_IsBool Any (.int n) _ _ (HT2.out.ext HE.out)).mono ?_; rintro e wn ⟨rfl, hE⟩; replace HE := hid (HE.out.trans hE); replace q1 := HE.out.cellS HC1.out; replace q2 := HE.out.cellS HC2.out; clear hE)
    | (go_at_call_of 185 m; refine (show Calls Try.prog 185 #[.agg #[.iface 2 (.int .i64 m)]] _ fun e w' => e = .returned (.bool true) ∧ Ext _ w' from is_IsInt Any (.int m) _ _ (HT1.out.ext HE.out)).mono ?_; rintro e wn ⟨rfl, hE⟩; replace HE := hid (HE.out.trans hE); replace q1 := HE.out.cellS HC1.out; replace q2 := HE.out.cellS HC2.out; clear hE)
    | (go_at_call_of 185 n; refine (show Calls Try.prog 185 #[.agg #[.iface 2 (.int .i64 n)]] _ fun e w' => e = .returned (.bool true) ∧ Ext _ w' from is_IsInt Any (.int n) _ _ (HT2.out.ext HE.out)).mono ?_; rintro e wn ⟨rfl, hE⟩; replace HE := hid (HE.out.trans hE); replace q1 := HE.out.cellS HC1.out; replace q2 := HE.out.cellS HC2.out; clear hE)
    | (go_at_call_of 184 m; refine (show Calls Try.prog 184 #[.agg #[.iface 2 (.int .i64 m)]] _ fun e w' => e = .returned (.bool false) ∧ Ext _ w' from is_IsFloat Any (.int m) _ _ (HT1.out.ext HE.out)).mono ?_; rintro e wn ⟨rfl, hE⟩; replace HE := hid (HE.out.trans hE); replace q1 := HE.out.cellS HC1.out; replace q2 := HE.out.cellS HC2.out; clear hE)
    | (go_at_call_of 184 n; refine (show Calls Try.prog 184 #[.agg #[.iface 2 (.int .i64 n)]] _ fun e w' => e = .returned (.bool false) ∧ Ext _ w' from is_IsFloat Any (.int n) _ _ (HT2.out.ext HE.out)).mono ?_; rintro e wn ⟨rfl, hE⟩; replace HE := hid (HE.out.trans hE); replace q1 := HE.out.cellS HC1.out; replace q2 := HE.out.cellS HC2.out; clear hE)
    | (go_at_call_of 189 m; refine (show Calls Try.prog 189 #[.agg #[.iface 2 (.int .i64 m)]] _ fun e w' => e = .returned (.bool false) ∧ Ext _ w' from is_IsString Any (.int m) _ _ (HT1.out.ext HE.out)).mono ?_; rintro e wn ⟨rfl, hE⟩; replace HE := hid (HE.out.trans hE); replace q1 := HE.out.cellS HC1.out; replace q2 := HE.out.cellS HC2.out; clear hE)
    | (go_at_call_of 189 n; refine (show Calls Try.prog 189 #[.agg #[.iface 2 (.int .i64 n)]] _ fun e w' => e = .returned (.bool false) ∧ Ext _ w' from is_IsString Any (.int n) _ _ (HT2.out.ext HE.out)).mono ?_; rintro e wn ⟨rfl, hE⟩; replace HE := hid (HE.out.trans hE); replace q1 := HE.out.cellS HC1.out; replace q2 := HE.out.cellS HC2.out; clear hE)
    | (go_at_call_of 186 m; refine (show Calls Try.prog 186 #[.agg #[.iface 2 (.int .i64 m)]] _ fun e w' => e = .returned (.bool false) ∧ Ext _ w' from is_IsList Any (.int m) _ _ (HT1.out.ext HE.out)).mono ?_; rintro e wn ⟨rfl, hE⟩; replace HE := hid (HE.out.trans hE); replace q1 := HE.out.cellS HC1.out; replace q2 := HE.out.cellS HC2.out; clear hE)
    | (go_at_call_of 186 n; refine (show Calls Try.prog 186 #[.agg #[.iface 2 (.int .i64 n)]] _ fun e w' => e = .returned (.bool false) ∧ Ext _ w' from is_IsList Any (.int n) _ _ (HT2.out.ext HE.out)).mono ?_; rintro e wn ⟨rfl, hE⟩; replace HE := hid (HE.out.trans hE); replace q1 := HE.out.cellS HC1.out; replace q2 := HE.out.cellS HC2.out; clear hE)
    | (go_at_call_of 187 m; refine (show Calls Try.prog 187 #[.agg #[.iface 2 (.int .i64 m)]] _ fun e w' => e = .returned (.bool false) ∧ Ext _ w' from is_IsMap Any (.int m) _ _ (HT1.out.ext HE.out)).mono ?_; rintro e wn ⟨rfl, hE⟩; replace HE := hid (HE.out.trans hE); replace q1 := HE.out.cellS HC1.out; replace q2 := HE.out.cellS HC2.out; clear hE)
    | (go_at_call_of 187 n; refine (show Calls Try.prog 187 #[.agg #[.iface 2 (.int .i64 n)]] _ fun e w' => e = .returned (.bool false) ∧ Ext _ w' from is_IsMap Any (.int n) _ _ (HT2.out.ext HE.out)).mono ?_; rintro e wn ⟨rfl, hE⟩; replace HE := hid (HE.out.trans hE); replace q1 := HE.out.cellS HC1.out; replace q2 := HE.out.cellS HC2.out; clear hE)
    | (go_at_call_of 177 m; refine (as_AsInt m _).mono ?_; rintro e wn ⟨rfl, hE⟩; replace HE := hid (HE.out.trans hE); replace q1 := HE.out.cellS HC1.out; replace q2 := HE.out.cellS HC2.out; clear hE)
    | (go_at_call_of 177 n; refine (as_AsInt n _).mono ?_; rintro e wn ⟨rfl, hE⟩; replace HE := hid (HE.out.trans hE); replace q1 := HE.out.cellS HC1.out; replace q2 := HE.out.cellS HC2.out; clear hE))
  all_goals exact ⟨_, results_tmp rfl _ _ _, rfl, HE.out⟩
set_option maxRecDepth 100000 in
set_option maxHeartbeats 2000000 in
theorem equ_bool (m n : Bool) : EquU (.bool m) (.bool n) (m == n) := by
  intro w al y1 y2 h1 h2
  obtain ⟨b1, v1, rfl, -, hb1, hT1⟩ := h1
  obtain ⟨b2, v2, rfl, -, hb2, hT2⟩ := h2
  have e1 : v1 = .iface 4 (.bool m) := by cases hT1; rfl
  have e2 : v2 = .iface 4 (.bool n) := by cases hT2; rfl
  subst e1 e2
  have HT1 := hid hT1
  have HT2 := hid hT2
  have HC1 := hid (show w.cell? ⟨b1, 0, none⟩ = some (.iface 4 (.bool m)) from (cell_of_heap hb1 0).trans rfl)
  have HC2 := hid (show w.cell? ⟨b2, 0, none⟩ = some (.iface 4 (.bool n)) from (cell_of_heap hb2 0).trans rfl)
  have q1 := HC1.out
  have q2 := HC2.out
  have HE := hid (Ext.refl w)
  clear hb1 hb2 hT1 hT2
  go_enter_defers Try.func119, Try.ntmps119
  go_wp2_with (first
    | (go_at_call_of 188 m; refine (show Calls Try.prog 188 #[.agg #[.iface 4 (.bool m)]] _ fun e w' => e = .returned (.bool false) ∧ Ext _ w' from is_IsNull Any (.bool m) _ _ (HT1.out.ext HE.out)).mono ?_; rintro e wn ⟨rfl, hE⟩; replace HE := hid (HE.out.trans hE); replace q1 := HE.out.cellS HC1.out; replace q2 := HE.out.cellS HC2.out; clear hE)
    | (go_at_call_of 188 n; refine (show Calls Try.prog 188 #[.agg #[.iface 4 (.bool n)]] _ fun e w' => e = .returned (.bool false) ∧ Ext _ w' from is_IsNull Any (.bool n) _ _ (HT2.out.ext HE.out)).mono ?_; rintro e wn ⟨rfl, hE⟩; replace HE := hid (HE.out.trans hE); replace q1 := HE.out.cellS HC1.out; replace q2 := HE.out.cellS HC2.out; clear hE)
    | (go_at_call_of 183 m; refine (show Calls Try.prog 183 #[.agg #[.iface 4 (.bool m)]] _ fun e w' => e = .returned (.bool true) ∧ Ext _ w' from is_IsBool Any (.bool m) _ _ (HT1.out.ext HE.out)).mono ?_; rintro e wn ⟨rfl, hE⟩; replace HE := hid (HE.out.trans hE); replace q1 := HE.out.cellS HC1.out; replace q2 := HE.out.cellS HC2.out; clear hE)
    | (go_at_call_of 183 n; refine (show Calls Try.prog 183 #[.agg #[.iface 4 (.bool n)]] _ fun e w' => e = .returned (.bool true) ∧ Ext _ w' from is_IsBool Any (.bool n) _ _ (HT2.out.ext HE.out)).mono ?_; rintro e wn ⟨rfl, hE⟩; replace HE := hid (HE.out.trans hE); replace q1 := HE.out.cellS HC1.out; replace q2 := HE.out.cellS HC2.out; clear hE)
    | (go_at_call_of 185 m; refine (show Calls Try.prog 185 #[.agg #[.iface 4 (.bool m)]] _ fun e w' => e = .returned (.bool false) ∧ Ext _ w' from is_IsInt Any (.bool m) _ _ (HT1.out.ext HE.out)).mono ?_; rintro e wn ⟨rfl, hE⟩; replace HE := hid (HE.out.trans hE); replace q1 := HE.out.cellS HC1.out; replace q2 := HE.out.cellS HC2.out; clear hE)
    | (go_at_call_of 185 n; refine (show Calls Try.prog 185 #[.agg #[.iface 4 (.bool n)]] _ fun e w' => e = .returned (.bool false) ∧ Ext _ w' from is_IsInt Any (.bool n) _ _ (HT2.out.ext HE.out)).mono ?_; rintro e wn ⟨rfl, hE⟩; replace HE := hid (HE.out.trans hE); replace q1 := HE.out.cellS HC1.out; replace q2 := HE.out.cellS HC2.out; clear hE)
    | (go_at_call_of 184 m; refine (show Calls Try.prog 184 #[.agg #[.iface 4 (.bool m)]] _ fun e w' => e = .returned (.bool false) ∧ Ext _ w' from is_IsFloat Any (.bool m) _ _ (HT1.out.ext HE.out)).mono ?_; rintro e wn ⟨rfl, hE⟩; replace HE := hid (HE.out.trans hE); replace q1 := HE.out.cellS HC1.out; replace q2 := HE.out.cellS HC2.out; clear hE)
    | (go_at_call_of 184 n; refine (show Calls Try.prog 184 #[.agg #[.iface 4 (.bool n)]] _ fun e w' => e = .returned (.bool false) ∧ Ext _ w' from is_IsFloat Any (.bool n) _ _ (HT2.out.ext HE.out)).mono ?_; rintro e wn ⟨rfl, hE⟩; replace HE := hid (HE.out.trans hE); replace q1 := HE.out.cellS HC1.out; replace q2 := HE.out.cellS HC2.out; clear hE)
    | (go_at_call_of 189 m; refine (show Calls Try.prog 189 #[.agg #[.iface 4 (.bool m)]] _ fun e w' => e = .returned (.bool false) ∧ Ext _ w' from is_IsString Any (.bool m) _ _ (HT1.out.ext HE.out)).mono ?_; rintro e wn ⟨rfl, hE⟩; replace HE := hid (HE.out.trans hE); replace q1 := HE.out.cellS HC1.out; replace q2 := HE.out.cellS HC2.out; clear hE)
    | (go_at_call_of 189 n; refine (show Calls Try.prog 189 #[.agg #[.iface 4 (.bool n)]] _ fun e w' => e = .returned (.bool false) ∧ Ext _ w' from is_IsString Any (.bool n) _ _ (HT2.out.ext HE.out)).mono ?_; rintro e wn ⟨rfl, hE⟩; replace HE := hid (HE.out.trans hE); replace q1 := HE.out.cellS HC1.out; replace q2 := HE.out.cellS HC2.out; clear hE)
    | (go_at_call_of 186 m; refine (show Calls Try.prog 186 #[.agg #[.iface 4 (.bool m)]] _ fun e w' => e = .returned (.bool false) ∧ Ext _ w' from is_IsList Any (.bool m) _ _ (HT1.out.ext HE.out)).mono ?_; rintro e wn ⟨rfl, hE⟩; replace HE := hid (HE.out.trans hE); replace q1 := HE.out.cellS HC1.out; replace q2 := HE.out.cellS HC2.out; clear hE)
    | (go_at_call_of 186 n; refine (show Calls Try.prog 186 #[.agg #[.iface 4 (.bool n)]] _ fun e w' => e = .returned (.bool false) ∧ Ext _ w' from is_IsList Any (.bool n) _ _ (HT2.out.ext HE.out)).mono ?_; rintro e wn ⟨rfl, hE⟩; replace HE := hid (HE.out.trans hE); replace q1 := HE.out.cellS HC1.out; replace q2 := HE.out.cellS HC2.out; clear hE)
    | (go_at_call_of 187 m; refine (show Calls Try.prog 187 #[.agg #[.iface 4 (.bool m)]] _ fun e w' => e = .returned (.bool false) ∧ Ext _ w' from is_IsMap Any (.bool m) _ _ (HT1.out.ext HE.out)).mono ?_; rintro e wn ⟨rfl, hE⟩; replace HE := hid (HE.out.trans hE); replace q1 := HE.out.cellS HC1.out; replace q2 := HE.out.cellS HC2.out; clear hE)
    | (go_at_call_of 187 n; refine (show Calls Try.prog 187 #[.agg #[.iface 4 (.bool n)]] _ fun e w' => e = .returned (.bool false) ∧ Ext _ w' from is_IsMap Any (.bool n) _ _ (HT2.out.ext HE.out)).mono ?_; rintro e wn ⟨rfl, hE⟩; replace HE := hid (HE.out.trans hE); replace q1 := HE.out.cellS HC1.out; replace q2 := HE.out.cellS HC2.out; clear hE)
    | (go_at_call_of 175 m; refine (as_AsBool m _).mono ?_; rintro e wn ⟨rfl, hE⟩; replace HE := hid (HE.out.trans hE); replace q1 := HE.out.cellS HC1.out; replace q2 := HE.out.cellS HC2.out; clear hE)
    | (go_at_call_of 175 n; refine (as_AsBool n _).mono ?_; rintro e wn ⟨rfl, hE⟩; replace HE := hid (HE.out.trans hE); replace q1 := HE.out.cellS HC1.out; replace q2 := HE.out.cellS HC2.out; clear hE))
  all_goals exact ⟨_, results_tmp rfl _ _ _, rfl, HE.out⟩
set_option maxRecDepth 100000 in
set_option maxHeartbeats 2000000 in
theorem equ_null  : EquU (.null) (.null) (true) := by
  intro w al y1 y2 h1 h2
  obtain ⟨b1, v1, rfl, -, hb1, hT1⟩ := h1
  obtain ⟨b2, v2, rfl, -, hb2, hT2⟩ := h2
  have e1 : v1 = .nilIface := by cases hT1; rfl
  have e2 : v2 = .nilIface := by cases hT2; rfl
  subst e1 e2
  have HT1 := hid hT1
  have HT2 := hid hT2
  have HC1 := hid (show w.cell? ⟨b1, 0, none⟩ = some (.nilIface) from (cell_of_heap hb1 0).trans rfl)
  have HC2 := hid (show w.cell? ⟨b2, 0, none⟩ = some (.nilIface) from (cell_of_heap hb2 0).trans rfl)
  have q1 := HC1.out
  have q2 := HC2.out
  have HE := hid (Ext.refl w)
  clear hb1 hb2 hT1 hT2
  go_enter_defers Try.func119, Try.ntmps119
  go_wp2_with (first
    | (go_at_call 188; refine (show Calls Try.prog 188 #[.agg #[.nilIface]] _ fun e w' => e = .returned (.bool true) ∧ Ext _ w' from is_IsNull Any (.null) _ _ (HT1.out.ext HE.out)).mono ?_; rintro e wn ⟨rfl, hE⟩; replace HE := hid (HE.out.trans hE); replace q1 := HE.out.cellS HC1.out; replace q2 := HE.out.cellS HC2.out; clear hE)
    | (go_at_call 188; refine (show Calls Try.prog 188 #[.agg #[.nilIface]] _ fun e w' => e = .returned (.bool true) ∧ Ext _ w' from is_IsNull Any (.null) _ _ (HT2.out.ext HE.out)).mono ?_; rintro e wn ⟨rfl, hE⟩; replace HE := hid (HE.out.trans hE); replace q1 := HE.out.cellS HC1.out; replace q2 := HE.out.cellS HC2.out; clear hE)
    | (go_at_call 183; refine (show Calls Try.prog 183 #[.agg #[.nilIface]] _ fun e w' => e = .returned (.bool false) ∧ Ext _ w' from is_IsBool Any (.null) _ _ (HT1.out.ext HE.out)).mono ?_; rintro e wn ⟨rfl, hE⟩; replace HE := hid (HE.out.trans hE); replace q1 := HE.out.cellS HC1.out; replace q2 := HE.out.cellS HC2.out; clear hE)
    | (go_at_call 183; refine (show Calls Try.prog 183 #[.agg #[.nilIface]] _ fun e w' => e = .returned (.bool false) ∧ Ext _ w' from is_IsBool Any (.null) _ _ (HT2.out.ext HE.out)).mono ?_; rintro e wn ⟨rfl, hE⟩; replace HE := hid (HE.out.trans hE); replace q1 := HE.out.cellS HC1.out; replace q2 := HE.out.cellS HC2.out; clear hE)
    | (go_at_call 185; refine (show Calls Try.prog 185 #[.agg #[.nilIface]] _ fun e w' => e = .returned (.bool false) ∧ Ext _ w' from is_IsInt Any (.null) _ _ (HT1.out.ext HE.out)).mono ?_; rintro e wn ⟨rfl, hE⟩; replace HE := hid (HE.out.trans hE); replace q1 := HE.out.cellS HC1.out; replace q2 := HE.out.cellS HC2.out; clear hE)
    | (go_at_call 185; refine (show Calls Try.prog 185 #[.agg #[.nilIface]] _ fun e w' => e = .returned (.bool false) ∧ Ext _ w' from is_IsInt Any (.null) _ _ (HT2.out.ext HE.out)).mono ?_; rintro e wn ⟨rfl, hE⟩; replace HE := hid (HE.out.trans hE); replace q1 := HE.out.cellS HC1.out; replace q2 := HE.out.cellS HC2.out; clear hE)
    | (go_at_call 184; refine (show Calls Try.prog 184 #[.agg #[.nilIface]] _ fun e w' => e = .returned (.bool false) ∧ Ext _ w' from is_IsFloat Any (.null) _ _ (HT1.out.ext HE.out)).mono ?_; rintro e wn ⟨rfl, hE⟩; replace HE := hid (HE.out.trans hE); replace q1 := HE.out.cellS HC1.out; replace q2 := HE.out.cellS HC2.out; clear hE)
    | (go_at_call 184; refine (show Calls Try.prog 184 #[.agg #[.nilIface]] _ fun e w' => e = .returned (.bool false) ∧ Ext _ w' from is_IsFloat Any (.null) _ _ (HT2.out.ext HE.out)).mono ?_; rintro e wn ⟨rfl, hE⟩; replace HE := hid (HE.out.trans hE); replace q1 := HE.out.cellS HC1.out; replace q2 := HE.out.cellS HC2.out; clear hE)
    | (go_at_call 189; refine (show Calls Try.prog 189 #[.agg #[.nilIface]] _ fun e w' => e = .returned (.bool false) ∧ Ext _ w' from is_IsString Any (.null) _ _ (HT1.out.ext HE.out)).mono ?_; rintro e wn ⟨rfl, hE⟩; replace HE := hid (HE.out.trans hE); replace q1 := HE.out.cellS HC1.out; replace q2 := HE.out.cellS HC2.out; clear hE)
    | (go_at_call 189; refine (show Calls Try.prog 189 #[.agg #[.nilIface]] _ fun e w' => e = .returned (.bool false) ∧ Ext _ w' from is_IsString Any (.null) _ _ (HT2.out.ext HE.out)).mono ?_; rintro e wn ⟨rfl, hE⟩; replace HE := hid (HE.out.trans hE); replace q1 := HE.out.cellS HC1.out; replace q2 := HE.out.cellS HC2.out; clear hE)
    | (go_at_call 186; refine (show Calls Try.prog 186 #[.agg #[.nilIface]] _ fun e w' => e = .returned (.bool false) ∧ Ext _ w' from is_IsList Any (.null) _ _ (HT1.out.ext HE.out)).mono ?_; rintro e wn ⟨rfl, hE⟩; replace HE := hid (HE.out.trans hE); replace q1 := HE.out.cellS HC1.out; replace q2 := HE.out.cellS HC2.out; clear hE)
    | (go_at_call 186; refine (show Calls Try.prog 186 #[.agg #[.nilIface]] _ fun e w' => e = .returned (.bool false) ∧ Ext _ w' from is_IsList Any (.null) _ _ (HT2.out.ext HE.out)).mono ?_; rintro e wn ⟨rfl, hE⟩; replace HE := hid (HE.out.trans hE); replace q1 := HE.out.cellS HC1.out; replace q2 := HE.out.cellS HC2.out; clear hE)
    | (go_at_call 187; refine (show Calls Try.prog 187 #[.agg #[.nilIface]] _ fun e w' => e = .returned (.bool false) ∧ Ext _ w' from is_IsMap Any (.null) _ _ (HT1.out.ext HE.out)).mono ?_; rintro e wn ⟨rfl, hE⟩; replace HE := hid (HE.out.trans hE); replace q1 := HE.out.cellS HC1.out; replace q2 := HE.out.cellS HC2.out; clear hE)
    | (go_at_call 187; refine (show Calls Try.prog 187 #[.agg #[.nilIface]] _ fun e w' => e = .returned (.bool false) ∧ Ext _ w' from is_IsMap Any (.null) _ _ (HT2.out.ext HE.out)).mono ?_; rintro e wn ⟨rfl, hE⟩; replace HE := hid (HE.out.trans hE); replace q1 := HE.out.cellS HC1.out; replace q2 := HE.out.cellS HC2.out; clear hE))
  all_goals exact ⟨_, results_tmp rfl _ _ _, rfl, HE.out⟩
set_option maxRecDepth 100000 in
set_option maxHeartbeats 2000000 in
theorem equ_flt (m n : Nat) : EquU (.flt m) (.flt n) (feq m n) := by
  intro w al y1 y2 h1 h2
  obtain ⟨b1, v1, rfl, -, hb1, hT1⟩ := h1
  obtain ⟨b2, v2, rfl, -, hb2, hT2⟩ := h2
  have e1 : v1 = .iface 30 (.float .f64 m) := by cases hT1; rfl
  have e2 : v2 = .iface 30 (.float .f64 n) := by cases hT2; rfl
  subst e1 e2
  have HT1 := hid hT1
  have HT2 := hid hT2
  have HC1 := hid (show w.cell? ⟨b1, 0, none⟩ = some (.iface 30 (.float .f64 m)) from (cell_of_heap hb1 0).trans rfl)
  have HC2 := hid (show w.cell? ⟨b2, 0, none⟩ = some (.iface 30 (.float .f64 n)) from (cell_of_heap hb2 0).trans rfl)
  have q1 := HC1.out
  have q2 := HC2.out
  have HE := hid (Ext.refl w)
  clear hb1 hb2 hT1 hT2
  go_enter_defers Try.func119, Try.ntmps119
  go_wp2_with (first
    | (go_at_call_of 188 m; refine (show Calls Try.prog 188 #[.agg #[.iface 30 (.float .f64 m)]] _ fun e w' => e = .returned (.bool false) ∧ Ext _ w' from is_IsNull Any (.flt m) _ _ (HT1.out.ext HE.out)).mono ?_; rintro e wn ⟨rfl, hE⟩; replace HE := hid (HE.out.trans hE); replace q1 := HE.out.cellS HC1.out; replace q2 := HE.out.cellS HC2.out; clear hE)
    | (go_at_call_of 188 n; refine (show Calls Try.prog 188 #[.agg #[.iface 30 (.float .f64 n)]] _ fun e w' => e = .returned (.bool false) ∧ Ext _ w' from is_IsNull Any (.flt n) _ _ (HT2.out.ext HE.out)).mono ?_; rintro e wn ⟨rfl, hE⟩; replace HE := hid (HE.out.trans hE); replace q1 := HE.out.cellS HC1.out; replace q2 := HE.out.cellS HC2.out; clear hE)
    | (go_at_call_of 183 m; refine (show Calls Try.prog 183 #[.agg #[.iface 30 (.float .f64 m)]] _ fun e w' => e = .returned (.bool false) ∧ Ext _ w' from is_IsBool Any (.flt m) _ _ (HT1.out.ext HE.out)).mono ?_; rintro e wn ⟨rfl, hE⟩; replace HE := hid (HE.out.trans hE); replace q1 := HE.out.cellS HC1.out; replace q2 := HE.out.cellS HC2.out; clear hE)
    | (go_at_call_of 183 n; refine (show Calls Try.prog 183 #[.agg #[.iface 30 (.float .f64 n)]] _ fun e w' => e = .returned (.bool false) ∧ Ext _ w' from is_IsBool Any (.flt n) _ _ (HT2.out.ext HE.out)).mono ?_; rintro e wn ⟨rfl, hE⟩; replace HE := hid (HE.out.trans hE); replace q1 := HE.out.cellS HC1.out; replace q2 := HE.out.cellS HC2.out; clear hE)
    | (go_at_call_of 185 m; refine (show Calls Try.prog 185 #[.agg #[.iface 30 (.float .f64 m)]] _ fun e w' => e = .returned (.bool false) ∧ Ext _ w' from is_IsInt Any (.flt m) _ _ (HT1.out.ext HE.out)).mono ?_; rintro e wn ⟨rfl, hE⟩; replace HE := hid (HE.out.trans hE); replace q1 := HE.out.cellS HC1.out; replace q2 := HE.out.cellS HC2.out; clear hE)
    | (go_at_call_of 185 n; refine (show Calls Try.prog 185 #[.agg #[.iface 30 (.float .f64 n)]] _ fun e w' => e = .returned (.bool false) ∧ Ext _ w' from is_IsInt Any (.flt n) _ _ (HT2.out.ext HE.out)).mono ?_; rintro e wn ⟨rfl, hE⟩; replace HE := hid (HE.out.trans hE); replace q1 := HE.out.cellS HC1.out; replace q2 := HE.out.cellS HC2.out; clear hE)
    | (go_at_call_of 184 m; refine (show Calls Try.prog 184 #[.agg #[.iface 30 (.float .f64 m)]] _ fun e w' => e = .returned (.bool true) ∧ Ext _ w' from is_IsFloat Any (.flt m) _ _ (HT1.out.ext HE.out)).mono ?_; rintro e wn ⟨rfl, hE⟩; replace HE := hid (HE.out.trans hE); replace q1 := HE.out.cellS HC1.out; replace q2 := HE.out.cellS HC2.out; clear hE)
    | (go_at_call_of 184 n; refine (show Calls Try.prog 184 #[.agg #[.iface 30 (.float .f64 n)]] _ fun e w' => e = .returned (.bool true) ∧ Ext _ w' from is_IsFloat Any (.flt n) _ _ (HT2.out.ext HE.out)).mono ?_; rintro e wn ⟨rfl, hE⟩; replace HE := hid (HE.out.trans hE); replace q1 := HE.out.cellS HC1.out; replace q2 := HE.out.cellS HC2.out; clear hE)
    | (go_at_call_of 189 m; refine (show Calls Try.prog 189 #[.agg #[.iface 30 (.float .f64 m)]] _ fun e w' => e = .returned (.bool false) ∧ Ext _ w' from is_IsString Any (.flt m) _ _ (HT1.out.ext HE.out)).mono ?_; rintro e wn ⟨rfl, hE⟩; replace HE := hid (HE.out.trans hE); replace q1 := HE.out.cellS HC1.out; replace q2 := HE.out.cellS HC2.out; clear hE)
    | (go_at_call_of 189 n; refine (show Calls Try.prog 189 #[.agg #[.iface 30 (.float .f64 n)]] _ fun e w' => e = .returned (.bool false) ∧ Ext _ w' from is_IsString Any (.flt n) _ _ (HT2.out.ext HE.out)).mono ?_; rintro e wn ⟨rfl, hE⟩; replace HE := hid (HE.out.trans hE); replace q1 := HE.out.cellS HC1.out; replace q2 := HE.out.cellS HC2.out; clear hE)
    | (go_at_call_of 186 m; refine (show Calls Try.prog 186 #[.agg #[.iface 30 (.float .f64 m)]] _ fun e w' => e = .returned (.bool false) ∧ Ext _ w' from is_IsList Any (.flt m) _ _ (HT1.out.ext HE.out)).mono ?_; rintro e wn ⟨rfl, hE⟩; replace HE := hid (HE.out.trans hE); replace q1 := HE.out.cellS HC1.out; replace q2 := HE.out.cellS HC2.out; clear hE)
    | (go_at_call_of 186 n; refine (show Calls Try.prog 186 #[.agg #[.iface 30 (.float .f64 n)]] _ fun e w' => e = .returned (.bool false) ∧ Ext _ w' from is_IsList Any (.flt n) _ _ (HT2.out.ext HE.out)).mono ?_; rintro e wn ⟨rfl, hE⟩; replace HE := hid (HE.out.trans hE); replace q1 := HE.out.cellS HC1.out; replace q2 := HE.out.cellS HC2.out; clear hE)
    | (go_at_call_of 187 m; refine (show Calls Try.prog 187 #[.agg #[.iface 30 (.float .f64 m)]] _ fun e w' => e = .returned (.bool false) ∧ Ext _ w' from is_IsMap Any (.flt m) _ _ (HT1.out.ext HE.out)).mono ?_; rintro e wn ⟨rfl, hE⟩; replace HE := hid (HE.out.trans hE); replace q1 := HE.out.cellS HC1.out; replace q2 := HE.out.cellS HC2.out; clear hE)
    | (go_at_call_of 187 n; refine (show Calls Try.prog 187 #[.agg #[.iface 30 (.float .f64 n)]] _ fun e w' => e = .returned (.bool false) ∧ Ext _ w' from is_IsMap Any (.flt n) _ _ (HT2.out.ext HE.out)).mono ?_; rintro e wn ⟨rfl, hE⟩; replace HE := hid (HE.out.trans hE); replace q1 := HE.out.cellS HC1.out; replace q2 := HE.out.cellS HC2.out; clear hE)
    | (go_at_call_of 176 m; refine (as_AsFloat m _).mono ?_; rintro e wn ⟨rfl, hE⟩; replace HE := hid (HE.out.trans hE); replace q1 := HE.out.cellS HC1.out; replace q2 := HE.out.cellS HC2.out; clear hE)
    | (go_at_call_of 176 n; refine (as_AsFloat n _).mono ?_; rintro e wn ⟨rfl, hE⟩; replace HE := hid (HE.out.trans hE); replace q1 := HE.out.cellS HC1.out; replace q2 := HE.out.cellS HC2.out; clear hE))
  all_goals exact ⟨_, results_tmp rfl _ _ _, rfl, HE.out⟩
set_option maxRecDepth 100000 in
set_option maxHeartbeats 2000000 in
theorem equ_if (m : Int) (n : Nat) : EquU (.int m) (.flt n) (feq (floatOfInt .f64 m) n) := by
  intro w al y1 y2 h1 h2
  obtain ⟨b1, v1, rfl, -, hb1, hT1⟩ := h1
  obtain ⟨b2, v2, rfl, -, hb2, hT2⟩ := h2
  have e1 : v1 = .iface 2 (.int .i64 m) := by cases hT1; rfl
  have e2 : v2 = .iface 30 (.float .f64 n) := by cases hT2; rfl
  subst e1 e2
  have HT1 := hid hT1
  have HT2 := hid hT2
  have HC1 := hid (show w.cell? ⟨b1, 0, none⟩ = some (.iface 2 (.int .i64 m)) from (cell_of_heap hb1 0).trans rfl)
  have HC2 := hid (show w.cell? ⟨b2, 0, none⟩ = some (.iface 30 (.float .f64 n)) from (cell_of_heap hb2 0).trans rfl)
  have q1 := HC1.out
  have q2 := HC2.out
  have HE := hid (Ext.refl w)
  clear hb1 hb2 hT1 hT2
  go_enter_defers Try.func119, Try.ntmps119
  go_wp2_with (first
    | (go_at_call_of 188 m; refine (show Calls Try.prog 188 #[.agg #[.iface 2 (.int .i64 m)]] _ fun e w' => e = .returned (.bool false) ∧ Ext _ w' from is_IsNull Any (.int m) _ _ (HT1.out.ext HE.out)).mono ?_; rintro e wn ⟨rfl, hE⟩; replace HE := hid (HE.out.trans hE); replace q1 := HE.out.cellS HC1.out; replace q2 := HE.out.cellS HC2.out; clear hE)
    | (go_at_call_of 188 n; refine (show Calls Try.prog 188 #[.agg #[.iface 30 (.float .f64 n)]] _ fun e w' => e = .returned (.bool false) ∧ Ext _ w' from is_IsNull Any (.flt n) _ _ (HT2.out.ext HE.out)).mono ?_; rintro e wn ⟨rfl, hE⟩; replace HE := hid (HE.out.trans hE); replace q1 := HE.out.cellS HC1.out; replace q2 := HE.out.cellS HC2.out; clear hE)
    | (go_at_call_of 183 m; refine (show Calls Try.prog 183 #[.agg #[.iface 2 (.int .i64 m)]] _ fun e w' => e = .returned (.bool false) ∧ Ext _ w' from is_IsBool Any (.int m) _ _ (HT1.out.ext HE.out)).mono ?_; rintro e wn ⟨rfl, hE⟩; replace HE := hid (HE.out.trans hE); replace q1 := HE.out.cellS HC1.out; replace q2 := HE.out.cellS HC2.out; clear hE)
    | (go_at_call_of 183 n; refine (show Calls Try.prog 183 #[.agg #[.iface 30 (.float .f64 n)]] _ fun e w' => e = .returned (.bool false) ∧ Ext _ w' from is_IsBool Any (.flt n) _ _ (HT2.out.ext HE.out)).mono ?_; rintro e wn ⟨rfl, hE⟩; replace HE := hid (HE.out.trans hE); replace q1 := HE.out.cellS HC1.out; replace q2 := HE.out.cellS HC2.out; clear hE)
    | (go_at_call_of 185 m; refine (show Calls Try.prog 185 #[.agg #[.iface 2 (.int .i64 m)]] _ fun e w' => e = .returned (.bool true) ∧ Ext _ w' from is_IsInt Any (.int m) _ _ (HT1.out.ext HE.out)).mono ?_; rintro e wn ⟨rfl, hE⟩; replace HE := hid (HE.out.trans hE); replace q1 := HE.out.cellS HC1.out; replace q2 := HE.out.cellS HC2.out; clear hE)
    | (go_at_call_of 185 n; refine (show Calls Try.prog 185 #[.agg #[.iface 30 (.float .f64 n)]] _ fun e w' => e = .returned (.bool false) ∧ Ext _ w' from is_IsInt Any (.flt n) _ _ (HT2.out.ext HE.out)).mono ?_; rintro e wn ⟨rfl, hE⟩; replace HE := hid (HE.out.trans hE); replace q1 := HE.out.cellS HC1.out; replace q2 := HE.out.cellS HC2.out; clear hE)
    | (go_at_call_of 184 m; refine (show Calls Try.prog 184 #[.agg #[.iface 2 (.int .i64 m)]] _ fun e w' => e = .returned (.bool false) ∧ Ext _ w' from is_IsFloat Any (.int m) _ _ (HT1.out.ext HE.out)).mono ?_; rintro e wn ⟨rfl, hE⟩; replace HE := hid (HE.out.trans hE); replace q1 := HE.out.cellS HC1.out; replace q2 := HE.out.cellS HC2.out; clear hE)
    | (go_at_call_of 184 n; refine (show Calls Try.prog 184 #[.agg #[.iface 30 (.float .f64 n)]] _ fun e w' => e = .returned (.bool true) ∧ Ext _ w' from is_IsFloat Any (.flt n) _ _ (HT2.out.ext HE.out)).mono ?_; rintro e wn ⟨rfl, hE⟩; replace HE := hid (HE.out.trans hE); replace q1 := HE.out.cellS HC1.out; replace q2 := HE.out.cellS HC2.out; clear hE)
    | (go_at_call_of 189 m; refine (show Calls Try.prog 189 #[.agg #[.iface 2 (.int .i64 m)]] _ fun e w' => e = .returned (.bool false) ∧ Ext _ w' from is_IsString Any (.int m) _ _ (HT1.out.ext HE.out)).mono ?_; rintro e wn ⟨rfl, hE⟩; replace HE := hid (HE.out.trans hE); replace q1 := HE.out.cellS HC1.out; replace q2 := HE.out.cellS HC2.out; clear hE)
    | (go_at_call_of 189 n; refine (show Calls Try.prog 189 #[.agg #[.iface 30 (.float .f64 n)]] _ fun e w' => e = .returned (.bool false) ∧ Ext _ w' from is_IsString Any (.flt n) _ _ (HT2.out.ext HE.out)).mono ?_; rintro e wn ⟨rfl, hE⟩; replace HE := hid (HE.out.trans hE); replace q1 := HE.out.cellS HC1.out; replace q2 := HE.out.cellS HC2.out; clear hE)
    | (go_at_call_of 186 m; refine (show Calls Try.prog 186 #[.agg #[.iface 2 (.int .i64 m)]] _ fun e w' => e = .returned (.bool false) ∧ Ext _ w' from is_IsList Any (.int m) _ _ (HT1.out.ext HE.out)).mono ?_; rintro e wn ⟨rfl, hE⟩; replace HE := hid (HE.out.trans hE); replace q1 := HE.out.cellS HC1.out; replace q2 := HE.out.cellS HC2.out; clear hE)
    | (go_at_call_of 186 n; refine (show Calls Try.prog 186 #[.agg #[.iface 30 (.float .f64 n)]] _ fun e w' => e = .returned (.bool false) ∧ Ext _ w' from is_IsList Any (.flt n) _ _ (HT2.out.ext HE.out)).mono ?_; rintro e wn ⟨rfl, hE⟩; replace HE := hid (HE.out.trans hE); replace q1 := HE.out.cellS HC1.out; replace q2 := HE.out.cellS HC2.out; clear hE)
    | (go_at_call_of 187 m; refine (show Calls Try.prog 187 #[.agg #[.iface 2 (.int .i64 m)]] _ fun e w' => e = .returned (.bool false) ∧ Ext _ w' from is_IsMap Any (.int m) _ _ (HT1.out.ext HE.out)).mono ?_; rintro e wn ⟨rfl, hE⟩; replace HE := hid (HE.out.trans hE); replace q1 := HE.out.cellS HC1.out; replace q2 := HE.out.cellS HC2.out; clear hE)
    | (go_at_call_of 187 n; refine (show Calls Try.prog 187 #[.agg #[.iface 30 (.float .f64 n)]] _ fun e w' => e = .returned (.bool false) ∧ Ext _ w' from is_IsMap Any (.flt n) _ _ (HT2.out.ext HE.out)).mono ?_; rintro e wn ⟨rfl, hE⟩; replace HE := hid (HE.out.trans hE); replace q1 := HE.out.cellS HC1.out; replace q2 := HE.out.cellS HC2.out; clear hE)
    | (go_at_call_of 177 m; refine (as_AsInt m _).mono ?_; rintro e wn ⟨rfl, hE⟩; replace HE := hid (HE.out.trans hE); replace q1 := HE.out.cellS HC1.out; replace q2 := HE.out.cellS HC2.out; clear hE)
    | (go_at_call_of 176 n; refine (as_AsFloat n _).mono ?_; rintro e wn ⟨rfl, hE⟩; replace HE := hid (HE.out.trans hE); replace q1 := HE.out.cellS HC1.out; replace q2 := HE.out.cellS HC2.out; clear hE))
  all_goals exact ⟨_, results_tmp rfl _ _ _, rfl, HE.out⟩
set_option maxRecDepth 100000 in
set_option maxHeartbeats 2000000 in
theorem equ_fi (n : Nat) (m : Int) : EquU (.flt n) (.int m) (feq n (floatOfInt .f64 m)) := by
  intro w al y1 y2 h1 h2
  obtain ⟨b1, v1, rfl, -, hb1, hT1⟩ := h1
  obtain ⟨b2, v2, rfl, -, hb2, hT2⟩ := h2
  have e1 : v1 = .iface 30 (.float .f64 n) := by cases hT1; rfl
  have e2 : v2 = .iface 2 (.int .i64 m) := by cases hT2; rfl
  subst e1 e2
  have HT1 := hid hT1
  have HT2 := hid hT2
  have HC1 := hid (show w.cell? ⟨b1, 0, none⟩ = some (.iface 30 (.float .f64 n)) from (cell_of_heap hb1 0).trans rfl)
  have HC2 := hid (show w.cell? ⟨b2, 0, none⟩ = some (.iface 2 (.int .i64 m)) from (cell_of_heap hb2 0).trans rfl)
  have q1 := HC1.out
  have q2 := HC2.out
  have HE := hid (Ext.refl w)
  clear hb1 hb2 hT1 hT2
  go_enter_defers Try.func119, Try.ntmps119
  go_wp2_with (first
    | (go_at_call_of 188 n; refine (show Calls Try.prog 188 #[.agg #[.iface 30 (.float .f64 n)]] _ fun e w' => e = .returned (.bool false) ∧ Ext _ w' from is_IsNull Any (.flt n) _ _ (HT1.out.ext HE.out)).mono ?_; rintro e wn ⟨rfl, hE⟩; replace HE := hid (HE.out.trans hE); replace q1 := HE.out.cellS HC1.out; replace q2 := HE.out.cellS HC2.out; clear hE)
    | (go_at_call_of 188 m; refine (show Calls Try.prog 188 #[.agg #[.iface 2 (.int .i64 m)]] _ fun e w' => e = .returned (.bool false) ∧ Ext _ w' from is_IsNull Any (.int m) _ _ (HT2.out.ext HE.out)).mono ?_; rintro e wn ⟨rfl, hE⟩; replace HE := hid (HE.out.trans hE); replace q1 := HE.out.cellS HC1.out; replace q2 := HE.out.cellS HC2.out; clear hE)
    | (go_at_call_of 183 n; refine (show Calls Try.prog 183 #[.agg #[.iface 30 (.float .f64 n)]] _ fun e w' => e = .returned (.bool false) ∧ Ext _ w' from is_IsBool Any (.flt n) _ _ (HT1.out.ext HE.out)).mono ?_; rintro e wn ⟨rfl, hE⟩; replace HE := hid (HE.out.trans hE); replace q1 := HE.out.cellS HC1.out; replace q2 := HE.out.cellS HC2.out; clear hE)
    | (go_at_call_of 183 m; refine (show Calls Try.prog 183 #[.agg #[.iface 2 (.int .i64 m)]] _ fun e w' => e = .returned (.bool false) ∧ Ext _ w' from is_IsBool Any (.int m) _ _ (HT2.out.ext HE.out)).mono ?_; rintro e wn ⟨rfl, hE⟩; replace HE := hid (HE.out.trans hE); replace q1 := HE.out.cellS HC1.out; replace q2 := HE.out.cellS HC2.out; clear hE)
    | (go_at_call_of 185 n; refine (show Calls Try.prog 185 #[.agg #[.iface 30 (.float .f64 n)]] _ fun e w' => e = .returned (.bool false) ∧ Ext _ w' from is_IsInt Any (.flt n) _ _ (HT1.out.ext HE.out)).mono ?_; rintro e wn ⟨rfl, hE⟩; replace HE := hid (HE.out.trans hE); replace q1 := HE.out.cellS HC1.out; replace q2 := HE.out.cellS HC2.out; clear hE)
    | (go_at_call_of 185 m; refine (show Calls Try.prog 185 #[.agg #[.iface 2 (.int .i64 m)]] _ fun e w' => e = .returned (.bool true) ∧ Ext _ w' from is_IsInt Any (.int m) _ _ (HT2.out.ext HE.out)).mono ?_; rintro e wn ⟨rfl, hE⟩; replace HE := hid (HE.out.trans hE); replace q1 := HE.out.cellS HC1.out; replace q2 := HE.out.cellS HC2.out; clear hE)
    | (go_at_call_of 184 n; refine (show Calls Try.prog 184 #[.agg #[.iface 30 (.float .f64 n)]] _ fun e w' => e = .returned (.bool true) ∧ Ext _ w' from is_IsFloat Any (.flt n) _ _ (HT1.out.ext HE.out)).mono ?_; rintro e wn ⟨rfl, hE⟩; replace HE := hid (HE.out.trans hE); replace q1 := HE.out.cellS HC1.out; replace q2 := HE.out.cellS HC2.out; clear hE)
    | (go_at_call_of 184 m; refine (show Calls Try.prog 184 #[.agg #[.iface 2 (.int .i64 m)]] _ fun e w' => e = .returned (.bool false) ∧ Ext _ w' from is_IsFloat Any (.int m) _ _ (HT2.out.ext HE.out)).mono ?_; rintro e wn ⟨rfl, hE⟩; replace HE := hid (HE.out.trans hE); replace q1 := HE.out.cellS HC1.out; replace q2 := HE.out.cellS HC2.out; clear hE)
    | (go_at_call_of 189 n; refine (show Calls Try.prog 189 #[.agg #[.iface 30 (.float .f64 n)]] _ fun e w' => e = .returned (.bool false) ∧ Ext _ w' from is_IsString Any (.flt n) _ _ (HT1.out.ext HE.out)).mono ?_; rintro e wn ⟨rfl, hE⟩; replace HE := hid (HE.out.trans hE); replace q1 := HE.out.cellS HC1.out; replace q2 := HE.out.cellS HC2.out; clear hE)
    | (go_at_call_of 189 m; refine (show Calls Try.prog 189 #[.agg #[.iface 2 (.int .i64 m)]] _ fun e w' => e = .returned (.bool false) ∧ Ext _ w' from is_IsString Any (.int m) _ _ (HT2.out.ext HE.out)).mono ?_; rintro e wn ⟨rfl, hE⟩; replace HE := hid (HE.out.trans hE); replace q1 := HE.out.cellS HC1.out; replace q2 := HE.out.cellS HC2.out; clear hE)
    | (go_at_call_of 186 n; refine (show Calls Try.prog 186 #[.agg #[.iface 30 (.float .f64 n)]] _ fun e w' => e = .returned (.bool false) ∧ Ext _ w' from is_IsList Any (.flt n) _ _ (HT1.out.ext HE.out)).mono ?_; rintro e wn ⟨rfl, hE⟩; replace HE := hid (HE.out.trans hE); replace q1 := HE.out.cellS HC1.out; replace q2 := HE.out.cellS HC2.out; clear hE)
    | (go_at_call_of 186 m; refine (show Calls Try.prog 186 #[.agg #[.iface 2 (.int .i64 m)]] _ fun e w' => e = .returned (.bool false) ∧ Ext _ w' from is_IsList Any (.int m) _ _ (HT2.out.ext HE.out)).mono ?_; rintro e wn ⟨rfl, hE⟩; replace HE := hid (HE.out.trans hE); replace q1 := HE.out.cellS HC1.out; replace q2 := HE.out.cellS HC2.out; clear hE)
    | (go_at_call_of 187 n; refine (show Calls Try.prog 187 #[.agg #[.iface 30 (.float .f64 n)]] _ fun e w' => e = .returned (.bool false) ∧ Ext _ w' from is_IsMap Any (.flt n) _ _ (HT1.out.ext HE.out)).mono ?_; rintro e wn ⟨rfl, hE⟩; replace HE := hid (HE.out.trans hE); replace q1 := HE.out.cellS HC1.out; replace q2 := HE.out.cellS HC2.out; clear hE)
    | (go_at_call_of 187 m; refine (show Calls Try.prog 187 #[.agg #[.iface 2 (.int .i64 m)]] _ fun e w' => e = .returned (.bool false) ∧ Ext _ w' from is_IsMap Any (.int m) _ _ (HT2.out.ext HE.out)).mono ?_; rintro e wn ⟨rfl, hE⟩; replace HE := hid (HE.out.trans hE); replace q1 := HE.out.cellS HC1.out; replace q2 := HE.out.cellS HC2.out; clear hE)
    | (go_at_call_of 176 n; refine (as_AsFloat n _).mono ?_; rintro e wn ⟨rfl, hE⟩; replace HE := hid (HE.out.trans hE); replace q1 := HE.out.cellS HC1.out; replace q2 := HE.out.cellS HC2.out; clear hE)
    | (go_at_call_of 177 m; refine (as_AsInt m _).mono ?_; rintro e wn ⟨rfl, hE⟩; replace HE := hid (HE.out.trans hE); replace q1 := HE.out.cellS HC1.out; replace q2 := HE.out.cellS HC2.out; clear hE))
  all_goals exact ⟨_, results_tmp rfl _ _ _, rfl, HE.out⟩

def eqLs (z : Tree → Tree → Bool) : List Tree → List Tree → Bool
  | [], [] => true
  | a :: x, b :: y => z a b && eqLs z x y
  | _, _ => false
def eqOne (z : Tree → Tree → Bool) (m1 : List (ByteArray × Tree)) (q : ByteArray × Tree) : Bool := match lookKV m1 q.1 with | none => false | some a => z a q.2
def eqMs (z : Tree → Tree → Bool) (m1 m2 : List (ByteArray × Tree)) : Bool := decide (m1.length = m2.length) && m2.all (eqOne z m1)
theorem eqLs_congr {z z' : Tree → Tree → Bool} : ∀ {l1 l2 : List Tree}, (∀ a ∈ l1, ∀ b ∈ l2, z a b = z' a b) → eqLs z l1 l2 = eqLs z' l1 l2
  | [], [], _ => rfl
  | [], _ :: _, _ => rfl
  | _ :: _, [], _ => rfl
  | a :: x, b :: y, h => by
    simp only [eqLs]
    rw [h a (by simp) b (by simp), eqLs_congr (l1 := x) (l2 := y) fun a' ha b' hb => h a' (by simp [ha]) b' (by simp [hb])]
theorem eqMs_congr {z z' : Tree → Tree → Bool} {m1 m2 : List (ByteArray × Tree)} (h : ∀ p ∈ m1, ∀ q ∈ m2, z p.2 q.2 = z' p.2 q.2) : eqMs z m1 m2 = eqMs z' m1 m2 := by
  unfold eqMs
  congr 1
  rw [Bool.eq_iff_iff, List.all_eq_true, List.all_eq_true]
  have e : ∀ q ∈ m2, eqOne z m1 q = eqOne z' m1 q := by
    intro q hq
    unfold eqOne
    cases hl : lookKV m1 q.1 with
    | none => rfl
    | some a => exact h _ (lookKV_in hl) q hq
  exact ⟨fun hh q hq => by rw [← e q hq]; exact hh q hq, fun hh q hq => by rw [e q hq]; exact hh q hq⟩
/-- when the package takes two trees for equal -/
def eqF : Nat → Tree → Tree → Bool
  | 0, _, _ => false
  | n + 1, t1, t2 => match t1, t2 with
    | .list a, .list b => eqLs (eqF n) a b
    | .map a, .map b => eqMs (eqF n) a b
    | .null, .null => true
    | .bool a, .bool b => a == b
    | .int a, .int b => a == b
    | .flt a, .flt b => feq a b
    | .int a, .flt b => feq (floatOfInt .f64 a) b
    | .flt a, .int b => feq a (floatOfInt .f64 b)
    | .str a, .str b => a.toList == b.toList
    | _, _ => false
noncomputable def eqT (t1 t2 : Tree) : Bool := eqF (SizeOf.sizeOf t1) t1 t2
theorem eqF_eq : ∀ (n m : Nat) (t1 t2 : Tree), SizeOf.sizeOf t1 ≤ n → SizeOf.sizeOf t1 ≤ m → eqF n t1 t2 = eqF m t1 t2
  | 0, _, t1, _, h, _ => by have := t1.size_pos; omega
  | _ + 1, 0, t1, _, _, h => by have := t1.size_pos; omega
  | n + 1, m + 1, t1, t2, hn, hm => by
    cases t1 <;> cases t2 <;> try rfl
    · exact eqLs_congr fun x hx y _ => eqF_eq n m x y (by have := Tree.mem_list hx; omega) (by have := Tree.mem_list hx; omega)
    · refine eqMs_congr (fun p hp q _ => eqF_eq n m p.2 q.2 ?_ ?_)
      · have := Tree.size_map (k := p.1) (t := p.2) hp; omega
      · have := Tree.size_map (k := p.1) (t := p.2) hp; omega
theorem eqT_of {n : Nat} {t1 t2 : Tree} (h : SizeOf.sizeOf t1 ≤ n) : eqF n t1 t2 = eqT t1 t2 := eqF_eq _ _ _ _ h (Nat.le_refl _)
theorem eqT_succ (t1 t2 : Tree) : ∃ n, SizeOf.sizeOf t1 = n + 1 ∧ eqT t1 t2 = eqF (n + 1) t1 t2 := by
  have := t1.size_pos
  exact ⟨SizeOf.sizeOf t1 - 1, by omega, by rw [show SizeOf.sizeOf t1 - 1 + 1 = SizeOf.sizeOf t1 by omega]; rfl⟩
theorem eqT_list (a b : List Tree) : eqT (.list a) (.list b) = eqLs eqT a b := by
  obtain ⟨n, h1, h2⟩ := eqT_succ (.list a) (.list b)
  rw [h2]
  exact eqLs_congr fun x hx y _ => eqT_of (by have := Tree.mem_list hx; omega)
theorem eqT_map (a b : List (ByteArray × Tree)) : eqT (.map a) (.map b) = eqMs eqT a b := by
  obtain ⟨n, h1, h2⟩ := eqT_succ (.map a) (.map b)
  rw [h2]
  exact eqMs_congr (fun p hp q _ => eqT_of (by have := Tree.size_map (k := p.1) (t := p.2) hp; omega))
theorem eqT_null_null : eqT (.null) (.null) = true := by
  obtain ⟨n, h1, h2⟩ := eqT_succ (.null) (.null)
  rw [h2]; rfl
theorem eqT_bool_bool (a : Bool) (b : Bool) : eqT (.bool a) (.bool b) = (a == b) := by
  obtain ⟨n, h1, h2⟩ := eqT_succ (.bool a) (.bool b)
  rw [h2]; rfl
theorem eqT_int_int (a : Int) (b : Int) : eqT (.int a) (.int b) = (a == b) := by
  obtain ⟨n, h1, h2⟩ := eqT_succ (.int a) (.int b)
  rw [h2]; rfl
theorem eqT_flt_flt (a : Nat) (b : Nat) : eqT (.flt a) (.flt b) = feq a b := by
  obtain ⟨n, h1, h2⟩ := eqT_succ (.flt a) (.flt b)
  rw [h2]; rfl
theorem eqT_int_flt (a : Int) (b : Nat) : eqT (.int a) (.flt b) = feq (floatOfInt .f64 a) b := by
  obtain ⟨n, h1, h2⟩ := eqT_succ (.int a) (.flt b)
  rw [h2]; rfl
theorem eqT_flt_int (a : Nat) (b : Int) : eqT (.flt a) (.int b) = feq a (floatOfInt .f64 b) := by
  obtain ⟨n, h1, h2⟩ := eqT_succ (.flt a) (.int b)
  rw [h2]; rfl
theorem eqT_str_str (a : ByteArray) (b : ByteArray) : eqT (.str a) (.str b) = (a.toList == b.toList) := by
  obtain ⟨n, h1, h2⟩ := eqT_succ (.str a) (.str b)
  rw [h2]; rfl
theorem eqT_kinds {t1 t2 : Tree} (h : rankC (kcode t1) ≠ rankC (kcode t2)) : eqT t1 t2 = false := by
  obtain ⟨n, h1, h2⟩ := eqT_succ t1 t2
  rw [h2]
  cases t1 <;> cases t2 <;> first | rfl | exact absurd rfl h
end Go.Proofs.Ytempfaefopfobaa
