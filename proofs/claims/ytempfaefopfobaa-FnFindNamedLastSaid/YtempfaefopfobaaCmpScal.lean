/- CmpScal: FloatCompare, IntCompare, BoolCompare; the spec's CompareFloats. -/
import Derived.Test.YtempfaefopfobaaCmpOf

namespace Go.Proofs.Ytempfaefopfobaa
open Go.ChangeShapes Go.WideShapes Go.ChangeAt Go.RowKit
set_option linter.unusedVariables false
set_option linter.unusedSimpArgs false

set_option maxRecDepth 100000 in
theorem intcmp_any (a b : Int) (w : World) : Calls Try.prog 140 #[.int .i64 a, .int .i64 b] w fun e w' => e = .returned (.int .i64 (icmp a b)) ∧ w = w' := by
  by_cases h1 : a < b
  · rw [show icmp a b = -1 by unfold icmp; rw [if_pos h1]]
    have h3 : ¬ b < a := by omega
    go_enter Try.func140, Try.ntmps140
    go_wp2_with fail
    go_ret
    exact ⟨rfl, rfl⟩
  · by_cases h2 : b < a
    · rw [show icmp a b = 1 by unfold icmp; rw [if_neg h1, if_pos h2]]
      go_enter Try.func140, Try.ntmps140
      go_wp2_with fail
      go_ret
      exact ⟨rfl, rfl⟩
    · rw [show icmp a b = 0 by unfold icmp; rw [if_neg h1, if_neg h2]]
      go_enter Try.func140, Try.ntmps140
      go_wp2_with fail
      go_ret
      exact ⟨rfl, rfl⟩
def bcmp (a b : Bool) : Int := if a = b then 0 else if a = false then -1 else 1
set_option maxRecDepth 100000 in
theorem boolcmp_any (a b : Bool) (w : World) : Calls Try.prog 141 #[.bool a, .bool b] w fun e w' => e = .returned (.int .i64 (bcmp a b)) ∧ w = w' := by
  cases a <;> cases b
  all_goals
    go_enter Try.func141, Try.ntmps141
    go_wp2_with fail
    go_ret
    exact ⟨rfl, rfl⟩
def ordZ : Option Ordering → Int | some .lt => -1 | some .gt => 1 | _ => 0
/-- -1, 0 or 1, as floating-point numbers stand; 0 if one of them is no number -/
def fcmp (a b : Nat) : Int := ordZ (FloatKind.f64.format.order a b)
set_option maxRecDepth 100000 in
theorem fltcmp_any (a b : Nat) (w : World) : Calls Try.prog 139 #[.float .f64 a, .float .f64 b] w fun e w' => e = .returned (.int .i64 (fcmp a b)) ∧ w = w' := by
  have hf : fcmp a b = ordZ (FloatKind.f64.format.order a b) := rfl
  rcases ho : FloatKind.f64.format.order a b with _ | o
  · rw [ho] at hf
    rw [hf]
    clear hf
    go_enter Try.func139, Try.ntmps139
    go_wp2_with fail
    go_ret
    exact ⟨rfl, rfl⟩
  · cases o
    all_goals
      rw [ho] at hf
      rw [hf]
      clear hf
      go_enter Try.func139, Try.ntmps139
      go_wp2_with fail
      go_ret
      exact ⟨rfl, rfl⟩
set_option maxRecDepth 100000 in
set_option maxHeartbeats 2000000 in
theorem cmpu_int (m n : Int) : CmpU (.int m) (.int n) (icmp m n) := by
  intro w al y1 y2 h1 h2
  obtain ⟨b1, v1, rfl, -, hb1, hT1⟩ := h1
  obtain ⟨b2, v2, rfl, -, hb2, hT2⟩ := h2
  have e1 : v1 = .iface 2 (.int .i64 m) := by cases hT1; rfl
  have e2 : v2 = .iface 2 (.int .i64 n) := by cases hT2; rfl
  subst e1 e2
  have HT1 := hid hT1
  have HT2 := hid hT2
  have HC1 := hid (show w.cell? ⟨b1, 0, none⟩ = some (.iface 2 (.int .i64 m)) from (cell_of_heap hb1 0).trans rfl)
  have HC2 := hid (show w.cell? ⟨b2, 0, none⟩ = some (.iface 2 (.int .i64 n)) from (cell_of_heap hb2 0).trans rfl)
  have q1 := HC1.out
  have q2 := HC2.out
  have HE := hid (Ext.refl w)
  clear hb1 hb2 hT1 hT2
  go_enter_defers Try.func130, Try.ntmps130
  go_wp2_with (first
    | (go_at_call_of 188 m; refine (show Calls Try.prog 188 #[.agg #[.iface 2 (.int .i64 m)]] _ fun e w' => e = .returned (.bool false) ∧ Ext _ w' from is_IsNull Any (.int m) _ _ (HT1.out.ext HE.out)).mono ?_; rintro e wn ⟨rfl, hE⟩; replace HE := hid (HE.out.trans hE); replace q1 := HE.out.cellS HC1.out; replace q2 := HE.out.cellS HC2.out; clear hE)
    | (go_at_call_of 188 n; refine (show Calls Try.prog 188 #[.agg #[.iface 2 (.int .i64 n)]] _ fun e w' => e = .returned (.bool false) ∧ Ext _ w' from is_IsNull Any (.int n) _ _ (HT2.out.ext HE.out)).mono ?_; rintro e wn ⟨rfl, hE⟩; replace HE := hid (HE.out.trans hE); replace q1 := HE.out.cellS HC1.out; replace q2 := HE.out.cellS HC2.out; clear hE)
    | (go_at_call_of 183 m; refine (show Calls Try.prog 183 #[.agg #[.iface 2 (.int .i64 m)]] _ fun e w' => e = .returned (.bool false) ∧ Ext _ w' from is_IsBool Any (.int m) _ _ (HT1.out.ext HE.out)).mono ?_; rintro e wn ⟨rfl, hE⟩; replace HE := hid (HE.out.trans hE); replace q1 := HE.out.cellS HC1.out; replace q2 := HE.out.cellS HC2.out; clear hE)
    | (go_at_call_of 183 n; refine (show Calls Try.prog 183 #[.agg #[.iface 2 (.int .i64 n)]] _ fun e w' => e = .returned (.bool false) ∧ Ext _ w' from is_IsBool Any (.int n) _ _ (HT2.out.ext HE.out)).mono ?_; rintro e wn ⟨rfl, hE⟩; replace HE := hid (HE.out.trans hE); replace q1 := HE.out.cellS HC1.out; replace q2 := HE.out.cellS HC2.out; clear hE)
    | (go_at_call_of 185 m; refine (show Calls Try.prog 185 #[.agg #[.iface 2 (.int .i64 m)]] _ fun e w' => e = .returned (.bool true) ∧ Ext _ w' from is_IsInt Any (.int m) _ _ (HT1.out.ext HE.out)).mono ?_; rintro e wn ⟨rfl, hE⟩; replace HE := hid (HE.out.trans hE); replace q1 := HE.out.cellS HC1.out; replace q2 := HE.out.cellS HC2.out; clear hE)
    | (go_at_call_of 185 n; refine (show Calls Try.prog 185 #[.agg #[.iface 2 (.int .i64 n)]] _ fun e w' => e = .returned (.bool true) ∧ Ext _ w' from is_IsInt Any (.int n) _ _ (HT2.out.ext HE.out)).mono ?_; rintro e wn ⟨rfl, hE⟩; replace HE := hid (HE.out.trans hE); replace q1 := HE.out.cellS HC1.out; replace q2 := HE.out.cellS HC2.out; clear hE)
    | (go_at_call_of 184 m; refine (show Calls Try.prog 184 #[.agg #[.iface 2 (.int .i64 m)]] _ fun e w' => e = .returned (.bool false) ∧ Ext _ w' from is_IsFloat Any (.int m) _ _ (HT1.out.ext HE.out)).mono ?_; rintro e wn ⟨rfl, hE⟩; replace HE := hid (HE.out.trans hE); replace q1 := HE.out.cellS HC1.out; replace q2 := HE.out.cellS HC2.out; clear hE)
    | (go_at_call_of 184 n; refine (show Calls Try.prog 184 #[.agg #[.iface 2 (.int .i64 n)]] _ fun e w' => e = .returned (.bool false) ∧ Ext _ w' from is_IsFloat Any (.int n) _ _ (HT2.out.ext HE.out)).mono ?_; rintro e wn ⟨rfl, hE⟩; replace HE := hid (HE.out.trans hE); replace q1 := HE.out.cellS HC1.out; replace q2 := HE.out.cellS HC2.out; clear hE)
    | (go_at_call_of 189 m; refine (show Calls Try.prog 189 #[.agg #[.iface 2 (.int .i64 m)]] _ fun e w' => e = .returned (.bool false) ∧ Ext _ w' from is_IsString Any (.int m) _ _ (HT1.out.ext HE.out)).mono ?_; rintro e wn ⟨rfl, hE⟩; replace HE := hid (HE.out.trans hE); replace q1 := HE.out.cellS HC1.out; replace q2 := HE.out.cellS HC2.out; clear hE)
    | (go_at_call_of 189 n; refine (show Calls Try.prog 189 #[.agg #[.iface 2 (.int .i64 n)]] _ fun e w' => e = .returned (.bool false) ∧ Ext _ w' from is_IsString Any (.int n) _ _ (HT2.out.ext HE.out)).mono ?_; rintro e wn ⟨rfl, hE⟩; replace HE := hid (HE.out.trans hE); replace q1 := HE.out.cellS HC1.out; replace q2 := HE.out.cellS HC2.out; clear hE)
    | (go_at_call_of 186 m; refine (show Calls Try.prog 186 #[.agg #[.iface 2 (.int .i64 m)]] _ fun e w' => e = .returned (.bool false) ∧ Ext _ w' from is_IsList Any (.int m) _ _ (HT1.out.ext HE.out)).mono ?_; rintro e wn ⟨rfl, hE⟩; replace HE := hid (HE.out.trans hE); replace q1 := HE.out.cellS HC1.out; replace q2 := HE.out.cellS HC2.out; clear hE)
    | (go_at_call_of 186 n; refine (show Calls Try.prog 186 #[.agg #[.iface 2 (.int .i64 n)]] _ fun e w' => e = .returned (.bool false) ∧ Ext _ w' from is_IsList Any (.int n) _ _ (HT2.out.ext HE.out)).mono ?_; rintro e wn ⟨rfl, hE⟩; replace HE := hid (HE.out.trans hE); replace q1 := HE.out.cellS HC1.out; replace q2 := HE.out.cellS HC2.out; clear hE)
    | (go_at_call_of 187 m; refine (show Calls Try.prog 187 #[.agg #[.iface 2 (.int .i64 m)]] _ fun e w' => e = .returned (.bool false) ∧ Ext _ w' from is_IsMap Any (.int m) _ _ (HT1.out.ext HE.out)).mono ?_; rintro e wn ⟨rfl, hE⟩; replace HE := hid (HE.out.trans hE); replace q1 := HE.out.cellS HC1.out; replace q2 := HE.out.cellS HC2.out; clear hE)
    | (go_at_call_of 187 n; refine (show Calls Try.prog 187 #[.agg #[.iface 2 (.int .i64 n)]] _ fun e w' => e = .returned (.bool false) ∧ Ext _ w' from is_IsMap Any (.int n) _ _ (HT2.out.ext HE.out)).mono ?_; rintro e wn ⟨rfl, hE⟩; replace HE := hid (HE.out.trans hE); replace q1 := HE.out.cellS HC1.out; replace q2 := HE.out.cellS HC2.out; clear hE)
    | (go_at_call_of 177 m; refine (as_AsInt m _).mono ?_; rintro e wn ⟨rfl, hE⟩; replace HE := hid (HE.out.trans hE); replace q1 := HE.out.cellS HC1.out; replace q2 := HE.out.cellS HC2.out; clear hE)
    | (go_at_call_of 177 n; refine (as_AsInt n _).mono ?_; rintro e wn ⟨rfl, hE⟩; replace HE := hid (HE.out.trans hE); replace q1 := HE.out.cellS HC1.out; replace q2 := HE.out.cellS HC2.out; clear hE)
    | (go_at_call 140; refine (intcmp_any _ _ _).mono ?_; rintro e wn ⟨rfl, rfl⟩))
  all_goals exact ⟨_, results_tmp rfl _ _ _, rfl, HE.out⟩
set_option maxRecDepth 100000 in
set_option maxHeartbeats 2000000 in
theorem cmpu_flt (m n : Nat) : CmpU (.flt m) (.flt n) (fcmp m n) := by
  intro w al y1 y2 h1 h2
  obtain ⟨b1, v1, rfl, -, hb1, hT1⟩ := h1
  obtain ⟨b2, v2, rfl, -, hb2, hT2⟩ := h2
  have e1 : v1 = .iface 30 (.float .f64 m) := by cases hT1; rfl
  have e2 : v2 = .iface 30 (.float .f64 n) := by cases hT2; rfl
  subst e1 e2
  have HT1 := hid hT1
  have HT2 := hid hT2
  have HC1 := hid (show w.cell? ⟨b1, 0, none⟩ = some (.iface 30 (.float .f64 m)) from (cell_of_heap hb1 0).trans rfl)
  have HC2 := hid (show w.cell? ⟨b2, 0, none⟩ = some (.iface 30 (.float .f64 n)) from (cell_of_heap hb2 0).trans rfl)
  have q1 := HC1.out
  have q2 := HC2.out
  have HE := hid (Ext.refl w)
  clear hb1 hb2 hT1 hT2
  go_enter_defers Try.func130, Try.ntmps130
  go_wp2_with (first
    | (go_at_call_of 188 m; refine (show Calls Try.prog 188 #[.agg #[.iface 30 (.float .f64 m)]] _ fun e w' => e = .returned (.bool false) ∧ Ext _ w' from is_IsNull Any (.flt m) _ _ (HT1.out.ext HE.out)).mono ?_; rintro e wn ⟨rfl, hE⟩; replace HE := hid (HE.out.trans hE); replace q1 := HE.out.cellS HC1.out; replace q2 := HE.out.cellS HC2.out; clear hE)
    | (go_at_call_of 188 n; refine (show Calls Try.prog 188 #[.agg #[.iface 30 (.float .f64 n)]] _ fun e w' => e = .returned (.bool false) ∧ Ext _ w' from is_IsNull Any (.flt n) _ _ (HT2.out.ext HE.out)).mono ?_; rintro e wn ⟨rfl, hE⟩; replace HE := hid (HE.out.trans hE); replace q1 := HE.out.cellS HC1.out; replace q2 := HE.out.cellS HC2.out; clear hE)
    | (go_at_call_of 183 m; refine (show Calls Try.prog 183 #[.agg #[.iface 30 (.float .f64 m)]] _ fun e w' => e = .returned (.bool false) ∧ Ext _ w' from is_IsBool Any (.flt m) _ _ (HT1.out.ext HE.out)).mono ?_; rintro e wn ⟨rfl, hE⟩; replace HE := hid (HE.out.trans hE); replace q1 := HE.out.cellS HC1.out; replace q2 := HE.out.cellS HC2.out; clear hE)
    | (go_at_call_of 183 n; refine (show Calls Try.prog 183 #[.agg #[.iface 30 (.float .f64 n)]] _ fun e w' => e = .returned (.bool false) ∧ Ext _ w' from is_IsBool Any (.flt n) _ _ (HT2.out.ext HE.out)).mono ?_; rintro e wn ⟨rfl, hE⟩; replace HE := hid (HE.out.trans hE); replace q1 := HE.out.cellS HC1.out; replace q2 := HE.out.cellS HC2.out; clear hE)
    | (go_at_call_of 185 m; refine (show Calls Try.prog 185 #[.agg #[.iface 30 (.float .f64 m)]] _ fun e w' => e = .returned (.bool false) ∧ Ext _ w' from is_IsInt Any (.flt m) _ _ (HT1.out.ext HE.out)).mono ?_; rintro e wn ⟨rfl, hE⟩; replace HE := hid (HE.out.trans hE); replace q1 := HE.out.cellS HC1.out; replace q2 := HE.out.cellS HC2.out; clear hE)
    | (go_at_call_of 185 n; refine (show Calls Try.prog 185 #[.agg #[.iface 30 (.float .f64 n)]] _ fun e w' => e = .returned (.bool false) ∧ Ext _ w' from is_IsInt Any (.flt n) _ _ (HT2.out.ext HE.out)).mono ?_; rintro e wn ⟨rfl, hE⟩; replace HE := hid (HE.out.trans hE); replace q1 := HE.out.cellS HC1.out; replace q2 := HE.out.cellS HC2.out; clear hE)
    | (go_at_call_of 184 m; refine (show Calls Try.prog 184 #[.agg #[.iface 30 (.float .f64 m)]] _ fun e w' => e = .returned (.bool true) ∧ Ext _ w' from is_IsFloat Any (.flt m) _ _ (HT1.out.ext HE.out)).mono ?_; rintro e wn ⟨rfl, hE⟩; replace HE := hid (HE.out.trans hE); replace q1 := HE.out.cellS HC1.out; replace q2 := HE.out.cellS HC2.out; clear hE)
    | (go_at_call_of 184 n; refine (show Calls Try.prog 184 #[.agg #[.iface 30 (.float .f64 n)]] _ fun e w' => e = .returned (.bool true) ∧ Ext _ w' from is_IsFloat Any (.flt n) _ _ (HT2.out.ext HE.out)).mono ?_; rintro e wn ⟨rfl, hE⟩; replace HE := hid (HE.out.trans hE); replace q1 := HE.out.cellS HC1.out; replace q2 := HE.out.cellS HC2.out; clear hE)
    | (go_at_call_of 189 m; refine (show Calls Try.prog 189 #[.agg #[.iface 30 (.float .f64 m)]] _ fun e w' => e = .returned (.bool false) ∧ Ext _ w' from is_IsString Any (.flt m) _ _ (HT1.out.ext HE.out)).mono ?_; rintro e wn ⟨rfl, hE⟩; replace HE := hid (HE.out.trans hE); replace q1 := HE.out.cellS HC1.out; replace q2 := HE.out.cellS HC2.out; clear hE)
    | (go_at_call_of 189 n; refine (show Calls Try.prog 189 #[.agg #[.iface 30 (.float .f64 n)]] _ fun e w' => e = .returned (.bool false) ∧ Ext _ w' from is_IsString Any (.flt n) _ _ (HT2.out.ext HE.out)).mono ?_; rintro e wn ⟨rfl, hE⟩; replace HE := hid (HE.out.trans hE); replace q1 := HE.out.cellS HC1.out; replace q2 := HE.out.cellS HC2.out; clear hE)
    | (go_at_call_of 186 m; refine (show Calls Try.prog 186 #[.agg #[.iface 30 (.float .f64 m)]] _ fun e w' => e = .returned (.bool false) ∧ Ext _ w' from is_IsList Any (.flt m) _ _ (HT1.out.ext HE.out)).mono ?_; rintro e wn ⟨rfl, hE⟩; replace HE := hid (HE.out.trans hE); replace q1 := HE.out.cellS HC1.out; replace q2 := HE.out.cellS HC2.out; clear hE)
    | (go_at_call_of 186 n; refine (show Calls Try.prog 186 #[.agg #[.iface 30 (.float .f64 n)]] _ fun e w' => e = .returned (.bool false) ∧ Ext _ w' from is_IsList Any (.flt n) _ _ (HT2.out.ext HE.out)).mono ?_; rintro e wn ⟨rfl, hE⟩; replace HE := hid (HE.out.trans hE); replace q1 := HE.out.cellS HC1.out; replace q2 := HE.out.cellS HC2.out; clear hE)
    | (go_at_call_of 187 m; refine (show Calls Try.prog 187 #[.agg #[.iface 30 (.float .f64 m)]] _ fun e w' => e = .returned (.bool false) ∧ Ext _ w' from is_IsMap Any (.flt m) _ _ (HT1.out.ext HE.out)).mono ?_; rintro e wn ⟨rfl, hE⟩; replace HE := hid (HE.out.trans hE); replace q1 := HE.out.cellS HC1.out; replace q2 := HE.out.cellS HC2.out; clear hE)
    | (go_at_call_of 187 n; refine (show Calls Try.prog 187 #[.agg #[.iface 30 (.float .f64 n)]] _ fun e w' => e = .returned (.bool false) ∧ Ext _ w' from is_IsMap Any (.flt n) _ _ (HT2.out.ext HE.out)).mono ?_; rintro e wn ⟨rfl, hE⟩; replace HE := hid (HE.out.trans hE); replace q1 := HE.out.cellS HC1.out; replace q2 := HE.out.cellS HC2.out; clear hE)
    | (go_at_call_of 176 m; refine (as_AsFloat m _).mono ?_; rintro e wn ⟨rfl, hE⟩; replace HE := hid (HE.out.trans hE); replace q1 := HE.out.cellS HC1.out; replace q2 := HE.out.cellS HC2.out; clear hE)
    | (go_at_call_of 176 n; refine (as_AsFloat n _).mono ?_; rintro e wn ⟨rfl, hE⟩; replace HE := hid (HE.out.trans hE); replace q1 := HE.out.cellS HC1.out; replace q2 := HE.out.cellS HC2.out; clear hE)
    | (go_at_call 139; refine (fltcmp_any _ _ _).mono ?_; rintro e wn ⟨rfl, rfl⟩))
  all_goals exact ⟨_, results_tmp rfl _ _ _, rfl, HE.out⟩
set_option maxRecDepth 100000 in
set_option maxHeartbeats 2000000 in
theorem cmpu_bool (m n : Bool) : CmpU (.bool m) (.bool n) (bcmp m n) := by
  intro w al y1 y2 h1 h2
  obtain ⟨b1, v1, rfl, -, hb1, hT1⟩ := h1
  obtain ⟨b2, v2, rfl, -, hb2, hT2⟩ := h2
  have e1 : v1 = .iface 4 (.bool m) := by cases hT1; rfl
  have e2 : v2 = .iface 4 (.bool n) := by cases hT2; rfl
  subst e1 e2
  have HT1 := hid hT1
  have HT2 := hid hT2
  have HC1 := hid (show w.cell? ⟨b1, 0, none⟩ = some (.iface 4 (.bool m)) from (cell_of_heap hb1 0).trans rfl)
  have HC2 := hid (show w.cell? ⟨b2, 0, none⟩ = some (.iface 4 (.bool n)) from (cell_of_heap hb2 0).trans rfl)
  have q1 := HC1.out
  have q2 := HC2.out
  have HE := hid (Ext.refl w)
  clear hb1 hb2 hT1 hT2
  go_enter_defers Try.func130, Try.ntmps130
  go_wp2_with (first
    | (go_at_call_of 188 m; refine (show Calls Try.prog 188 #[.agg #[.iface 4 (.bool m)]] _ fun e w' => e = .returned (.bool false) ∧ Ext _ w' from is_IsNull Any (.bool m) _ _ (HT1.out.ext HE.out)).mono ?_; rintro e wn ⟨rfl, hE⟩; replace HE := hid (HE.out.trans hE); replace q1 := HE.out.cellS HC1.out; replace q2 := HE.out.cellS HC2.out; clear hE)
    | (go_at_call_of 188 n; refine (show Calls Try.prog 188 #[.agg #[.iface 4 (.bool n)]] _ fun e w' => e = .returned (.bool false) ∧ Ext _ w' from is_IsNull Any (.bool n) _ _ (HT2.out.ext HE.out)).mono ?_; rintro e wn ⟨rfl, hE⟩; replace HE := hid (HE.out.trans hE); replace q1 := HE.out.cellS HC1.out; replace q2 := HE.out.cellS HC2.out; clear hE)
    | (go_at_call_of 183 m; refine (show Calls Try.prog 183 #[.agg #[.iface 4 (.bool m)]] _ fun e w' => e = .returned (.bool true) ∧ Ext _ w' from is_IsBool Any (.bool m) _ _ (HT1.out.ext HE.out)).mono ?_; rintro e wn ⟨rfl, hE⟩; replace HE := hid (HE.out.trans hE); replace q1 := HE.out.cellS HC1.out; replace q2 := HE.out.cellS HC2.out; clear hE)
    | (go_at_call_of 183 n; refine (show Calls Try.prog 183 #[.agg #[.iface 4 (.bool n)]] _ fun e w' => e = .returned (.bool true) ∧ Ext _ w' from is_IsBool Any (.bool n) _ _ (HT2.out.ext HE.out)).mono ?_; rintro e wn ⟨rfl, hE⟩; replace HE := hid (HE.out.trans hE); replace q1 := HE.out.cellS HC1.out; replace q2 := HE.out.cellS HC2.out; clear hE)
    | (go_at_call_of 185 m; refine (show Calls Try.prog 185 #[.agg #[.iface 4 (.bool m)]] _ fun e w' => e = .returned (.bool false) ∧ Ext _ w' from is_IsInt Any (.bool m) _ _ (HT1.out.ext HE.out)).mono ?_; rintro e wn ⟨rfl, hE⟩; replace HE := hid (HE.out.trans hE); replace q1 := HE.out.cellS HC1.out; replace q2 := HE.out.cellS HC2.out; clear hE)
    | (go_at_call_of 185 n; refine (show Calls Try.prog 185 #[.agg #[.iface 4 (.bool n)]] _ fun e w' => e = .returned (.bool false) ∧ Ext _ w' from is_IsInt Any (.bool n) _ _ (HT2.out.ext HE.out)).mono ?_; rintro e wn ⟨rfl, hE⟩; replace HE := hid (HE.out.trans hE); replace q1 := HE.out.cellS HC1.out; replace q2 := HE.out.cellS HC2.out; clear hE)
    | (go_at_call_of 184 m; refine (show Calls Try.prog 184 #[.agg #[.iface 4 (.bool m)]] _ fun e w' => e = .returned (.bool false) ∧ Ext _ w' from is_IsFloat Any (.bool m) _ _ (HT1.out.ext HE.out)).mono ?_; rintro e wn ⟨rfl, hE⟩; replace HE := hid (HE.out.trans hE); replace q1 := HE.out.cellS HC1.out; replace q2 := HE.out.cellS HC2.out; clear hE)
    | (go_at_call_of 184 n; refine (show Calls Try.prog 184 #[.agg #[.iface 4 (.bool n)]] _ fun e w' => e = .returned (.bool false) ∧ Ext _ w' from is_IsFloat Any (.bool n) _ _ (HT2.out.ext HE.out)).mono ?_; rintro e wn ⟨rfl, hE⟩; replace HE := hid (HE.out.trans hE); replace q1 := HE.out.cellS HC1.out; replace q2 := HE.out.cellS HC2.out; clear hE)
    | (go_at_call_of 189 m; refine (show Calls Try.prog 189 #[.agg #[.iface 4 (.bool m)]] _ fun e w' => e = .returned (.bool false) ∧ Ext _ w' from is_IsString Any (.bool m) _ _ (HT1.out.ext HE.out)).mono ?_; rintro e wn ⟨rfl, hE⟩; replace HE := hid (HE.out.trans hE); replace q1 := HE.out.cellS HC1.out; replace q2 := HE.out.cellS HC2.out; clear hE)
    | (go_at_call_of 189 n; refine (show Calls Try.prog 189 #[.agg #[.iface 4 (.bool n)]] _ fun e w' => e = .returned (.bool false) ∧ Ext _ w' from is_IsString Any (.bool n) _ _ (HT2.out.ext HE.out)).mono ?_; rintro e wn ⟨rfl, hE⟩; replace HE := hid (HE.out.trans hE); replace q1 := HE.out.cellS HC1.out; replace q2 := HE.out.cellS HC2.out; clear hE)
    | (go_at_call_of 186 m; refine (show Calls Try.prog 186 #[.agg #[.iface 4 (.bool m)]] _ fun e w' => e = .returned (.bool false) ∧ Ext _ w' from is_IsList Any (.bool m) _ _ (HT1.out.ext HE.out)).mono ?_; rintro e wn ⟨rfl, hE⟩; replace HE := hid (HE.out.trans hE); replace q1 := HE.out.cellS HC1.out; replace q2 := HE.out.cellS HC2.out; clear hE)
    | (go_at_call_of 186 n; refine (show Calls Try.prog 186 #[.agg #[.iface 4 (.bool n)]] _ fun e w' => e = .returned (.bool false) ∧ Ext _ w' from is_IsList Any (.bool n) _ _ (HT2.out.ext HE.out)).mono ?_; rintro e wn ⟨rfl, hE⟩; replace HE := hid (HE.out.trans hE); replace q1 := HE.out.cellS HC1.out; replace q2 := HE.out.cellS HC2.out; clear hE)
    | (go_at_call_of 187 m; refine (show Calls Try.prog 187 #[.agg #[.iface 4 (.bool m)]] _ fun e w' => e = .returned (.bool false) ∧ Ext _ w' from is_IsMap Any (.bool m) _ _ (HT1.out.ext HE.out)).mono ?_; rintro e wn ⟨rfl, hE⟩; replace HE := hid (HE.out.trans hE); replace q1 := HE.out.cellS HC1.out; replace q2 := HE.out.cellS HC2.out; clear hE)
    | (go_at_call_of 187 n; refine (show Calls Try.prog 187 #[.agg #[.iface 4 (.bool n)]] _ fun e w' => e = .returned (.bool false) ∧ Ext _ w' from is_IsMap Any (.bool n) _ _ (HT2.out.ext HE.out)).mono ?_; rintro e wn ⟨rfl, hE⟩; replace HE := hid (HE.out.trans hE); replace q1 := HE.out.cellS HC1.out; replace q2 := HE.out.cellS HC2.out; clear hE)
    | (go_at_call_of 175 m; refine (as_AsBool m _).mono ?_; rintro e wn ⟨rfl, hE⟩; replace HE := hid (HE.out.trans hE); replace q1 := HE.out.cellS HC1.out; replace q2 := HE.out.cellS HC2.out; clear hE)
    | (go_at_call_of 175 n; refine (as_AsBool n _).mono ?_; rintro e wn ⟨rfl, hE⟩; replace HE := hid (HE.out.trans hE); replace q1 := HE.out.cellS HC1.out; replace q2 := HE.out.cellS HC2.out; clear hE)
    | (go_at_call 141; refine (boolcmp_any _ _ _).mono ?_; rintro e wn ⟨rfl, rfl⟩))
  all_goals exact ⟨_, results_tmp rfl _ _ _, rfl, HE.out⟩
set_option maxRecDepth 100000 in
set_option maxHeartbeats 2000000 in
theorem cmpu_null  : CmpU (.null) (.null) (0) := by
  intro w al y1 y2 h1 h2
  obtain ⟨b1, v1, rfl, -, hb1, hT1⟩ := h1
  obtain ⟨b2, v2, rfl, -, hb2, hT2⟩ := h2
  have e1 : v1 = .nilIface := by cases hT1; rfl
  have e2 : v2 = .nilIface := by cases hT2; rfl
  subst e1 e2
  have HT1 := hid hT1
  have HT2 := hid hT2
  have HC1 := hid (show w.cell? ⟨b1, 0, none⟩ = some (.nilIface) from (cell_of_heap hb1 0).trans rfl)
  have HC2 := hid (show w.cell? ⟨b2, 0, none⟩ = some (.nilIface) from (cell_of_heap hb2 0).trans rfl)
  have q1 := HC1.out
  have q2 := HC2.out
  have HE := hid (Ext.refl w)
  clear hb1 hb2 hT1 hT2
  go_enter_defers Try.func130, Try.ntmps130
  go_wp2_with (first
    | (go_at_call 188; refine (show Calls Try.prog 188 #[.agg #[.nilIface]] _ fun e w' => e = .returned (.bool true) ∧ Ext _ w' from is_IsNull Any (.null) _ _ (HT1.out.ext HE.out)).mono ?_; rintro e wn ⟨rfl, hE⟩; replace HE := hid (HE.out.trans hE); replace q1 := HE.out.cellS HC1.out; replace q2 := HE.out.cellS HC2.out; clear hE)
    | (go_at_call 188; refine (show Calls Try.prog 188 #[.agg #[.nilIface]] _ fun e w' => e = .returned (.bool true) ∧ Ext _ w' from is_IsNull Any (.null) _ _ (HT2.out.ext HE.out)).mono ?_; rintro e wn ⟨rfl, hE⟩; replace HE := hid (HE.out.trans hE); replace q1 := HE.out.cellS HC1.out; replace q2 := HE.out.cellS HC2.out; clear hE)
    | (go_at_call 183; refine (show Calls Try.prog 183 #[.agg #[.nilIface]] _ fun e w' => e = .returned (.bool false) ∧ Ext _ w' from is_IsBool Any (.null) _ _ (HT1.out.ext HE.out)).mono ?_; rintro e wn ⟨rfl, hE⟩; replace HE := hid (HE.out.trans hE); replace q1 := HE.out.cellS HC1.out; replace q2 := HE.out.cellS HC2.out; clear hE)
    | (go_at_call 183; refine (show Calls Try.prog 183 #[.agg #[.nilIface]] _ fun e w' => e = .returned (.bool false) ∧ Ext _ w' from is_IsBool Any (.null) _ _ (HT2.out.ext HE.out)).mono ?_; rintro e wn ⟨rfl, hE⟩; replace HE := hid (HE.out.trans hE); replace q1 := HE.out.cellS HC1.out; replace q2 := HE.out.cellS HC2.out; clear hE)
    | (go_at_call 185; refine (show Calls Try.prog 185 #[.agg #[.nilIface]] _ fun e w' => e = .returned (.bool false) ∧ Ext _ w' from is_IsInt Any (.null) _ _ (HT1.out.ext HE.out)).mono ?_; rintro e wn ⟨rfl, hE⟩; replace HE := hid (HE.out.trans hE); replace q1 := HE.out.cellS HC1.out; replace q2 := HE.out.cellS HC2.out; clear hE)
    | (go_at_call 185; refine (show Calls Try.prog 185 #[.agg #[.nilIface]] _ fun e w' => e = .returned (.bool false) ∧ Ext _ w' from is_IsInt Any (.null) _ _ (HT2.out.ext HE.out)).mono ?_; rintro e wn ⟨rfl, hE⟩; replace HE := hid (HE.out.trans hE); replace q1 := HE.out.cellS HC1.out; replace q2 := HE.out.cellS HC2.out; clear hE)
    | (go_at_call 184; refine (show Calls Try.prog 184 #[.agg #[.nilIface]] _ fun e w' => e = .returned (.bool false) ∧ Ext _ w' from is_IsFloat Any (.null) _ _ (HT1.out.ext HE.out)).mono ?_; rintro e wn ⟨rfl, hE⟩; replace HE := hid (HE.out.trans hE); replace q1 := HE.out.cellS HC1.out; replace q2 := HE.out.cellS HC2.out; clear hE)
    | (go_at_call 184; refine (show Calls Try.prog 184 #[.agg #[.nilIface]] _ fun e w' => e = .returned (.bool false) ∧ Ext _ w' from is_IsFloat Any (.null) _ _ (HT2.out.ext HE.out)).mono ?_; rintro e wn ⟨rfl, hE⟩; replace HE := hid (HE.out.trans hE); replace q1 := HE.out.cellS HC1.out; replace q2 := HE.out.cellS HC2.out; clear hE)
    | (go_at_call 189; refine (show Calls Try.prog 189 #[.agg #[.nilIface]] _ fun e w' => e = .returned (.bool false) ∧ Ext _ w' from is_IsString Any (.null) _ _ (HT1.out.ext HE.out)).mono ?_; rintro e wn ⟨rfl, hE⟩; replace HE := hid (HE.out.trans hE); replace q1 := HE.out.cellS HC1.out; replace q2 := HE.out.cellS HC2.out; clear hE)
    | (go_at_call 189; refine (show Calls Try.prog 189 #[.agg #[.nilIface]] _ fun e w' => e = .returned (.bool false) ∧ Ext _ w' from is_IsString Any (.null) _ _ (HT2.out.ext HE.out)).mono ?_; rintro e wn ⟨rfl, hE⟩; replace HE := hid (HE.out.trans hE); replace q1 := HE.out.cellS HC1.out; replace q2 := HE.out.cellS HC2.out; clear hE)
    | (go_at_call 186; refine (show Calls Try.prog 186 #[.agg #[.nilIface]] _ fun e w' => e = .returned (.bool false) ∧ Ext _ w' from is_IsList Any (.null) _ _ (HT1.out.ext HE.out)).mono ?_; rintro e wn ⟨rfl, hE⟩; replace HE := hid (HE.out.trans hE); replace q1 := HE.out.cellS HC1.out; replace q2 := HE.out.cellS HC2.out; clear hE)
    | (go_at_call 186; refine (show Calls Try.prog 186 #[.agg #[.nilIface]] _ fun e w' => e = .returned (.bool false) ∧ Ext _ w' from is_IsList Any (.null) _ _ (HT2.out.ext HE.out)).mono ?_; rintro e wn ⟨rfl, hE⟩; replace HE := hid (HE.out.trans hE); replace q1 := HE.out.cellS HC1.out; replace q2 := HE.out.cellS HC2.out; clear hE)
    | (go_at_call 187; refine (show Calls Try.prog 187 #[.agg #[.nilIface]] _ fun e w' => e = .returned (.bool false) ∧ Ext _ w' from is_IsMap Any (.null) _ _ (HT1.out.ext HE.out)).mono ?_; rintro e wn ⟨rfl, hE⟩; replace HE := hid (HE.out.trans hE); replace q1 := HE.out.cellS HC1.out; replace q2 := HE.out.cellS HC2.out; clear hE)
    | (go_at_call 187; refine (show Calls Try.prog 187 #[.agg #[.nilIface]] _ fun e w' => e = .returned (.bool false) ∧ Ext _ w' from is_IsMap Any (.null) _ _ (HT2.out.ext HE.out)).mono ?_; rintro e wn ⟨rfl, hE⟩; replace HE := hid (HE.out.trans hE); replace q1 := HE.out.cellS HC1.out; replace q2 := HE.out.cellS HC2.out; clear hE))
  all_goals exact ⟨_, results_tmp rfl _ _ _, rfl, HE.out⟩
set_option maxRecDepth 100000 in
set_option maxHeartbeats 2000000 in
theorem cmpu_if (m : Int) (n : Nat) : CmpU (.int m) (.flt n) (fcmp (floatOfInt .f64 m) n) := by
  intro w al y1 y2 h1 h2
  obtain ⟨b1, v1, rfl, -, hb1, hT1⟩ := h1
  obtain ⟨b2, v2, rfl, -, hb2, hT2⟩ := h2
  have e1 : v1 = .iface 2 (.int .i64 m) := by cases hT1; rfl
  have e2 : v2 = .iface 30 (.float .f64 n) := by cases hT2; rfl
  subst e1 e2
  have HT1 := hid hT1
  have HT2 := hid hT2
  have HC1 := hid (show w.cell? ⟨b1, 0, none⟩ = some (.iface 2 (.int .i64 m)) from (cell_of_heap hb1 0).trans rfl)
  have HC2 := hid (show w.cell? ⟨b2, 0, none⟩ = some (.iface 30 (.float .f64 n)) from (cell_of_heap hb2 0).trans rfl)
  have q1 := HC1.out
  have q2 := HC2.out
  have HE := hid (Ext.refl w)
  clear hb1 hb2 hT1 hT2
  go_enter_defers Try.func130, Try.ntmps130
  go_wp2_with (first
    | (go_at_call_of 188 m; refine (show Calls Try.prog 188 #[.agg #[.iface 2 (.int .i64 m)]] _ fun e w' => e = .returned (.bool false) ∧ Ext _ w' from is_IsNull Any (.int m) _ _ (HT1.out.ext HE.out)).mono ?_; rintro e wn ⟨rfl, hE⟩; replace HE := hid (HE.out.trans hE); replace q1 := HE.out.cellS HC1.out; replace q2 := HE.out.cellS HC2.out; clear hE)
    | (go_at_call_of 188 n; refine (show Calls Try.prog 188 #[.agg #[.iface 30 (.float .f64 n)]] _ fun e w' => e = .returned (.bool false) ∧ Ext _ w' from is_IsNull Any (.flt n) _ _ (HT2.out.ext HE.out)).mono ?_; rintro e wn ⟨rfl, hE⟩; replace HE := hid (HE.out.trans hE); replace q1 := HE.out.cellS HC1.out; replace q2 := HE.out.cellS HC2.out; clear hE)
    | (go_at_call_of 183 m; refine (show Calls Try.prog 183 #[.agg #[.iface 2 (.int .i64 m)]] _ fun e w' => e = .returned (.bool false) ∧ Ext _ w' from is_IsBool Any (.int m) _ _ (HT1.out.ext HE.out)).mono ?_; rintro e wn ⟨rfl, hE⟩; replace HE := hid (HE.out.trans hE); replace q1 := HE.out.cellS HC1.out; replace q2 := HE.out.cellS HC2.out; clear hE)
    | (go_at_call_of 183 n; refine (show Calls Try.prog 183 #[.agg #[.iface 30 (.float .f64 n)]] _ fun e w' => e = .returned (.bool false) ∧ Ext _ w' from is_IsBool Any (.flt n) _ _ (HT2.out.ext HE.out)).mono ?_; rintro e wn ⟨rfl, hE⟩; replace HE := hid (HE.out.trans hE); replace q1 := HE.out.cellS HC1.out; replace q2 := HE.out.cellS HC2.out; clear hE)
    | (go_at_call_of 185 m; refine (show Calls Try.prog 185 #[.agg #[.iface 2 (.int .i64 m)]] _ fun e w' => e = .returned (.bool true) ∧ Ext _ w' from is_IsInt Any (.int m) _ _ (HT1.out.ext HE.out)).mono ?_; rintro e wn ⟨rfl, hE⟩; replace HE := hid (HE.out.trans hE); replace q1 := HE.out.cellS HC1.out; replace q2 := HE.out.cellS HC2.out; clear hE)
    | (go_at_call_of 185 n; refine (show Calls Try.prog 185 #[.agg #[.iface 30 (.float .f64 n)]] _ fun e w' => e = .returned (.bool false) ∧ Ext _ w' from is_IsInt Any (.flt n) _ _ (HT2.out.ext HE.out)).mono ?_; rintro e wn ⟨rfl, hE⟩; replace HE := hid (HE.out.trans hE); replace q1 := HE.out.cellS HC1.out; replace q2 := HE.out.cellS HC2.out; clear hE)
    | (go_at_call_of 184 m; refine (show Calls Try.prog 184 #[.agg #[.iface 2 (.int .i64 m)]] _ fun e w' => e = .returned (.bool false) ∧ Ext _ w' from is_IsFloat Any (.int m) _ _ (HT1.out.ext HE.out)).mono ?_; rintro e wn ⟨rfl, hE⟩; replace HE := hid (HE.out.trans hE); replace q1 := HE.out.cellS HC1.out; replace q2 := HE.out.cellS HC2.out; clear hE)
    | (go_at_call_of 184 n; refine (show Calls Try.prog 184 #[.agg #[.iface 30 (.float .f64 n)]] _ fun e w' => e = .returned (.bool true) ∧ Ext _ w' from is_IsFloat Any (.flt n) _ _ (HT2.out.ext HE.out)).mono ?_; rintro e wn ⟨rfl, hE⟩; replace HE := hid (HE.out.trans hE); replace q1 := HE.out.cellS HC1.out; replace q2 := HE.out.cellS HC2.out; clear hE)
    | (go_at_call_of 189 m; refine (show Calls Try.prog 189 #[.agg #[.iface 2 (.int .i64 m)]] _ fun e w' => e = .returned (.bool false) ∧ Ext _ w' from is_IsString Any (.int m) _ _ (HT1.out.ext HE.out)).mono ?_; rintro e wn ⟨rfl, hE⟩; replace HE := hid (HE.out.trans hE); replace q1 := HE.out.cellS HC1.out; replace q2 := HE.out.cellS HC2.out; clear hE)
    | (go_at_call_of 189 n; refine (show Calls Try.prog 189 #[.agg #[.iface 30 (.float .f64 n)]] _ fun e w' => e = .returned (.bool false) ∧ Ext _ w' from is_IsString Any (.flt n) _ _ (HT2.out.ext HE.out)).mono ?_; rintro e wn ⟨rfl, hE⟩; replace HE := hid (HE.out.trans hE); replace q1 := HE.out.cellS HC1.out; replace q2 := HE.out.cellS HC2.out; clear hE)
    | (go_at_call_of 186 m; refine (show Calls Try.prog 186 #[.agg #[.iface 2 (.int .i64 m)]] _ fun e w' => e = .returned (.bool false) ∧ Ext _ w' from is_IsList Any (.int m) _ _ (HT1.out.ext HE.out)).mono ?_; rintro e wn ⟨rfl, hE⟩; replace HE := hid (HE.out.trans hE); replace q1 := HE.out.cellS HC1.out; replace q2 := HE.out.cellS HC2.out; clear hE)
    | (go_at_call_of 186 n; refine (show Calls Try.prog 186 #[.agg #[.iface 30 (.float .f64 n)]] _ fun e w' => e = .returned (.bool false) ∧ Ext _ w' from is_IsList Any (.flt n) _ _ (HT2.out.ext HE.out)).mono ?_; rintro e wn ⟨rfl, hE⟩; replace HE := hid (HE.out.trans hE); replace q1 := HE.out.cellS HC1.out; replace q2 := HE.out.cellS HC2.out; clear hE)
    | (go_at_call_of 187 m; refine (show Calls Try.prog 187 #[.agg #[.iface 2 (.int .i64 m)]] _ fun e w' => e = .returned (.bool false) ∧ Ext _ w' from is_IsMap Any (.int m) _ _ (HT1.out.ext HE.out)).mono ?_; rintro e wn ⟨rfl, hE⟩; replace HE := hid (HE.out.trans hE); replace q1 := HE.out.cellS HC1.out; replace q2 := HE.out.cellS HC2.out; clear hE)
    | (go_at_call_of 187 n; refine (show Calls Try.prog 187 #[.agg #[.iface 30 (.float .f64 n)]] _ fun e w' => e = .returned (.bool false) ∧ Ext _ w' from is_IsMap Any (.flt n) _ _ (HT2.out.ext HE.out)).mono ?_; rintro e wn ⟨rfl, hE⟩; replace HE := hid (HE.out.trans hE); replace q1 := HE.out.cellS HC1.out; replace q2 := HE.out.cellS HC2.out; clear hE)
    | (go_at_call_of 177 m; refine (as_AsInt m _).mono ?_; rintro e wn ⟨rfl, hE⟩; replace HE := hid (HE.out.trans hE); replace q1 := HE.out.cellS HC1.out; replace q2 := HE.out.cellS HC2.out; clear hE)
    | (go_at_call_of 176 n; refine (as_AsFloat n _).mono ?_; rintro e wn ⟨rfl, hE⟩; replace HE := hid (HE.out.trans hE); replace q1 := HE.out.cellS HC1.out; replace q2 := HE.out.cellS HC2.out; clear hE)
    | (go_at_call 139; refine (fltcmp_any _ _ _).mono ?_; rintro e wn ⟨rfl, rfl⟩))
  all_goals exact ⟨_, results_tmp rfl _ _ _, rfl, HE.out⟩
set_option maxRecDepth 100000 in
set_option maxHeartbeats 2000000 in
theorem cmpu_fi (n : Nat) (m : Int) : CmpU (.flt n) (.int m) (fcmp n (floatOfInt .f64 m)) := by
  intro w al y1 y2 h1 h2
  obtain ⟨b1, v1, rfl, -, hb1, hT1⟩ := h1
  obtain ⟨b2, v2, rfl, -, hb2, hT2⟩ := h2
  have e1 : v1 = .iface 30 (.float .f64 n) := by cases hT1; rfl
  have e2 : v2 = .iface 2 (.int .i64 m) := by cases hT2; rfl
  subst e1 e2
  have HT1 := hid hT1
  have HT2 := hid hT2
  have HC1 := hid (show w.cell? ⟨b1, 0, none⟩ = some (.iface 30 (.float .f64 n)) from (cell_of_heap hb1 0).trans rfl)
  have HC2 := hid (show w.cell? ⟨b2, 0, none⟩ = some (.iface 2 (.int .i64 m)) from (cell_of_heap hb2 0).trans rfl)
  have q1 := HC1.out
  have q2 := HC2.out
  have HE := hid (Ext.refl w)
  clear hb1 hb2 hT1 hT2
  go_enter_defers Try.func130, Try.ntmps130
  go_wp2_with (first
    | (go_at_call_of 188 n; refine (show Calls Try.prog 188 #[.agg #[.iface 30 (.float .f64 n)]] _ fun e w' => e = .returned (.bool false) ∧ Ext _ w' from is_IsNull Any (.flt n) _ _ (HT1.out.ext HE.out)).mono ?_; rintro e wn ⟨rfl, hE⟩; replace HE := hid (HE.out.trans hE); replace q1 := HE.out.cellS HC1.out; replace q2 := HE.out.cellS HC2.out; clear hE)
    | (go_at_call_of 188 m; refine (show Calls Try.prog 188 #[.agg #[.iface 2 (.int .i64 m)]] _ fun e w' => e = .returned (.bool false) ∧ Ext _ w' from is_IsNull Any (.int m) _ _ (HT2.out.ext HE.out)).mono ?_; rintro e wn ⟨rfl, hE⟩; replace HE := hid (HE.out.trans hE); replace q1 := HE.out.cellS HC1.out; replace q2 := HE.out.cellS HC2.out; clear hE)
    | (go_at_call_of 183 n; refine (show Calls Try.prog 183 #[.agg #[.iface 30 (.float .f64 n)]] _ fun e w' => e = .returned (.bool false) ∧ Ext _ w' from is_IsBool Any (.flt n) _ _ (HT1.out.ext HE.out)).mono ?_; rintro e wn ⟨rfl, hE⟩; replace HE := hid (HE.out.trans hE); replace q1 := HE.out.cellS HC1.out; replace q2 := HE.out.cellS HC2.out; clear hE)
    | (go_at_call_of 183 m; refine (show Calls Try.prog 183 #[.agg #[.iface 2 (.int .i64 m)]] _ fun e w' => e = .returned (.bool false) ∧ Ext _ w' from is_IsBool Any (.int m) _ _ (HT2.out.ext HE.out)).mono ?_; rintro e wn ⟨rfl, hE⟩; replace HE := hid (HE.out.trans hE); replace q1 := HE.out.cellS HC1.out; replace q2 := HE.out.cellS HC2.out; clear hE)
    | (go_at_call_of 185 n; refine (show Calls Try.prog 185 #[.agg #[.iface 30 (.float .f64 n)]] _ fun e w' => e = .returned (.bool false) ∧ Ext _ w' from is_IsInt Any (.flt n) _ _ (HT1.out.ext HE.out)).mono ?_; rintro e wn ⟨rfl, hE⟩; replace HE := hid (HE.out.trans hE); replace q1 := HE.out.cellS HC1.out; replace q2 := HE.out.cellS HC2.out; clear hE)
    | (go_at_call_of 185 m; refine (show Calls Try.prog 185 #[.agg #[.iface 2 (.int .i64 m)]] _ fun e w' => e = .returned (.bool true) ∧ Ext _ w' from is_IsInt Any (.int m) _ _ (HT2.out.ext HE.out)).mono ?_; rintro e wn ⟨rfl, hE⟩; replace HE := hid (HE.out.trans hE); replace q1 := HE.out.cellS HC1.out; replace q2 := HE.out.cellS HC2.out; clear hE)
    | (go_at_call_of 184 n; refine (show Calls Try.prog 184 #[.agg #[.iface 30 (.float .f64 n)]] _ fun e w' => e = .returned (.bool true) ∧ Ext _ w' from is_IsFloat Any (.flt n) _ _ (HT1.out.ext HE.out)).mono ?_; rintro e wn ⟨rfl, hE⟩; replace HE := hid (HE.out.trans hE); replace q1 := HE.out.cellS HC1.out; replace q2 := HE.out.cellS HC2.out; clear hE)
    | (go_at_call_of 184 m; refine (show Calls Try.prog 184 #[.agg #[.iface 2 (.int .i64 m)]] _ fun e w' => e = .returned (.bool false) ∧ Ext _ w' from is_IsFloat Any (.int m) _ _ (HT2.out.ext HE.out)).mono ?_; rintro e wn ⟨rfl, hE⟩; replace HE := hid (HE.out.trans hE); replace q1 := HE.out.cellS HC1.out; replace q2 := HE.out.cellS HC2.out; clear hE)
    | (go_at_call_of 189 n; refine (show Calls Try.prog 189 #[.agg #[.iface 30 (.float .f64 n)]] _ fun e w' => e = .returned (.bool false) ∧ Ext _ w' from is_IsString Any (.flt n) _ _ (HT1.out.ext HE.out)).mono ?_; rintro e wn ⟨rfl, hE⟩; replace HE := hid (HE.out.trans hE); replace q1 := HE.out.cellS HC1.out; replace q2 := HE.out.cellS HC2.out; clear hE)
    | (go_at_call_of 189 m; refine (show Calls Try.prog 189 #[.agg #[.iface 2 (.int .i64 m)]] _ fun e w' => e = .returned (.bool false) ∧ Ext _ w' from is_IsString Any (.int m) _ _ (HT2.out.ext HE.out)).mono ?_; rintro e wn ⟨rfl, hE⟩; replace HE := hid (HE.out.trans hE); replace q1 := HE.out.cellS HC1.out; replace q2 := HE.out.cellS HC2.out; clear hE)
    | (go_at_call_of 186 n; refine (show Calls Try.prog 186 #[.agg #[.iface 30 (.float .f64 n)]] _ fun e w' => e = .returned (.bool false) ∧ Ext _ w' from is_IsList Any (.flt n) _ _ (HT1.out.ext HE.out)).mono ?_; rintro e wn ⟨rfl, hE⟩; replace HE := hid (HE.out.trans hE); replace q1 := HE.out.cellS HC1.out; replace q2 := HE.out.cellS HC2.out; clear hE)
    | (go_at_call_of 186 m; refine (show Calls Try.prog 186 #[.agg #[.iface 2 (.int .i64 m)]] _ fun e w' => e = .returned (.bool false) ∧ Ext _ w' from is_IsList Any (.int m) _ _ (HT2.out.ext HE.out)).mono ?_; rintro e wn ⟨rfl, hE⟩; replace HE := hid (HE.out.trans hE); replace q1 := HE.out.cellS HC1.out; replace q2 := HE.out.cellS HC2.out; clear hE)
    | (go_at_call_of 187 n; refine (show Calls Try.prog 187 #[.agg #[.iface 30 (.float .f64 n)]] _ fun e w' => e = .returned (.bool false) ∧ Ext _ w' from is_IsMap Any (.flt n) _ _ (HT1.out.ext HE.out)).mono ?_; rintro e wn ⟨rfl, hE⟩; replace HE := hid (HE.out.trans hE); replace q1 := HE.out.cellS HC1.out; replace q2 := HE.out.cellS HC2.out; clear hE)
    | (go_at_call_of 187 m; refine (show Calls Try.prog 187 #[.agg #[.iface 2 (.int .i64 m)]] _ fun e w' => e = .returned (.bool false) ∧ Ext _ w' from is_IsMap Any (.int m) _ _ (HT2.out.ext HE.out)).mono ?_; rintro e wn ⟨rfl, hE⟩; replace HE := hid (HE.out.trans hE); replace q1 := HE.out.cellS HC1.out; replace q2 := HE.out.cellS HC2.out; clear hE)
    | (go_at_call_of 176 n; refine (as_AsFloat n _).mono ?_; rintro e wn ⟨rfl, hE⟩; replace HE := hid (HE.out.trans hE); replace q1 := HE.out.cellS HC1.out; replace q2 := HE.out.cellS HC2.out; clear hE)
    | (go_at_call_of 177 m; refine (as_AsInt m _).mono ?_; rintro e wn ⟨rfl, hE⟩; replace HE := hid (HE.out.trans hE); replace q1 := HE.out.cellS HC1.out; replace q2 := HE.out.cellS HC2.out; clear hE)
    | (go_at_call 139; refine (fltcmp_any _ _ _).mono ?_; rintro e wn ⟨rfl, rfl⟩))
  all_goals exact ⟨_, results_tmp rfl _ _ _, rfl, HE.out⟩
end Go.Proofs.Ytempfaefopfobaa
