/- CmpKinds: value.CompareUsing, EqualsUsing and what rests on them, of values of different kinds. -/
import Derived.Test.YtempfaefopfobaaIs
import Derived.Defers
import Derived.Deep.RegionHeld3

namespace Go.Proofs.Ytempfaefopfobaa
open Go.ChangeShapes Go.WideShapes Go.ChangeAt Go.RowKit
set_option linter.unusedVariables false
set_option linter.unusedSimpArgs false

/-- the kinds' order: numbers, strings, bools, lists, maps, null -/
def rankC (c : Nat) : Nat := if (c == 3) = true then 0 else if (c == 2) = true then 0 else if (c == 4) = true then 1 else if (c == 1) = true then 2 else if (c == 5) = true then 3 else if (c == 6) = true then 4 else 5
/-- how the package compares values of different kinds -/
def cmpC (c d : Nat) : Int :=
  if (c == 3) = true then -1 else if (d == 3) = true then 1 else if (c == 2) = true then -1 else if (d == 2) = true then 1 else if (c == 4) = true then -1 else if (d == 4) = true then 1 else if (c == 1) = true then -1 else if (d == 1) = true then 1
  else if (c == 5) = true then -1 else if (d == 5) = true then 1 else if (c == 6) = true then -1 else if (d == 6) = true then 1 else if (c == 0) = true then -1 else if (d == 0) = true then 1 else 0
theorem cmpC_rank {c d : Nat} (hc : c ≤ 6) (hd : d ≤ 6) (hne : rankC c ≠ rankC d) : cmpC c d = if rankC c < rankC d then -1 else 1 := by
  have h : ∀ c, c < 7 → ∀ d, d < 7 → rankC c ≠ rankC d → cmpC c d = if rankC c < rankC d then -1 else 1 := by decide
  exact h c (by omega) d (by omega) hne
theorem kcode_le (t : Tree) : kcode t ≤ 6 := by cases t <;> simp [kcode]
set_option maxRecDepth 100000 in
set_option maxHeartbeats 4000000 in
theorem cmpu_kinds (t1 t2 : Tree) (x1 x2 : Value) (al : Option Addr) (w : World) (h1 : RepVal Any w t1 x1) (h2 : RepVal Any w t2 x2) (hne : rankC (kcode t1) ≠ rankC (kcode t2)) :
    Calls Try.prog 130 #[.iface 172 (.pointer al), x1, x2] w fun e w' => e = .returned (.int .i64 (cmpC (kcode t1) (kcode t2))) ∧ Ext w w' := by
  obtain ⟨b1, v1, rfl, -, hb1, hT1⟩ := h1
  obtain ⟨b2, v2, rfl, -, hb2, hT2⟩ := h2
  have HC1 := hid (show w.cell? ⟨b1, 0, none⟩ = some v1 from (cell_of_heap hb1 0).trans rfl)
  have HC2 := hid (show w.cell? ⟨b2, 0, none⟩ = some v2 from (cell_of_heap hb2 0).trans rfl)
  have F01 := hid (fun (W : World) (E : Ext w W) => is_IsNull Any t1 v1 W (hT1.ext E))
  have F02 := hid (fun (W : World) (E : Ext w W) => is_IsNull Any t2 v2 W (hT2.ext E))
  have F11 := hid (fun (W : World) (E : Ext w W) => is_IsBool Any t1 v1 W (hT1.ext E))
  have F12 := hid (fun (W : World) (E : Ext w W) => is_IsBool Any t2 v2 W (hT2.ext E))
  have F21 := hid (fun (W : World) (E : Ext w W) => is_IsInt Any t1 v1 W (hT1.ext E))
  have F22 := hid (fun (W : World) (E : Ext w W) => is_IsInt Any t2 v2 W (hT2.ext E))
  have F31 := hid (fun (W : World) (E : Ext w W) => is_IsFloat Any t1 v1 W (hT1.ext E))
  have F32 := hid (fun (W : World) (E : Ext w W) => is_IsFloat Any t2 v2 W (hT2.ext E))
  have F41 := hid (fun (W : World) (E : Ext w W) => is_IsString Any t1 v1 W (hT1.ext E))
  have F42 := hid (fun (W : World) (E : Ext w W) => is_IsString Any t2 v2 W (hT2.ext E))
  have F51 := hid (fun (W : World) (E : Ext w W) => is_IsList Any t1 v1 W (hT1.ext E))
  have F52 := hid (fun (W : World) (E : Ext w W) => is_IsList Any t2 v2 W (hT2.ext E))
  have F61 := hid (fun (W : World) (E : Ext w W) => is_IsMap Any t1 v1 W (hT1.ext E))
  have F62 := hid (fun (W : World) (E : Ext w W) => is_IsMap Any t2 v2 W (hT2.ext E))
  have FA1 := hid (show kcode t1 = 3 → ∀ W : World, Calls Try.prog 176 #[.agg #[v1]] W fun e W' => ∃ g, e = .returned (.float .f64 g) ∧ Ext W W' from fun h W => by
    rcases hT1.kform with ⟨hk, rfl⟩ | ⟨hk, b, rfl⟩ | ⟨hk, n, rfl⟩ | ⟨hk, f, rfl⟩ | ⟨hk, s, rfl⟩ | ⟨hk, a, n, c, rfl⟩ | ⟨hk, r, rfl⟩
    all_goals first | (rw [h] at hk; exact absurd hk (by decide)) | exact (as_AsFloat f W).mono (fun e W' h => ⟨f, h⟩))
  have FA2 := hid (show kcode t2 = 3 → ∀ W : World, Calls Try.prog 176 #[.agg #[v2]] W fun e W' => ∃ g, e = .returned (.float .f64 g) ∧ Ext W W' from fun h W => by
    rcases hT2.kform with ⟨hk, rfl⟩ | ⟨hk, b, rfl⟩ | ⟨hk, n, rfl⟩ | ⟨hk, f, rfl⟩ | ⟨hk, s, rfl⟩ | ⟨hk, a, n, c, rfl⟩ | ⟨hk, r, rfl⟩
    all_goals first | (rw [h] at hk; exact absurd hk (by decide)) | exact (as_AsFloat f W).mono (fun e W' h => ⟨f, h⟩))
  generalize kcode t1 = c1 at *
  generalize kcode t2 = c2 at *
  have HNE := hid hne
  have q1 := HC1.out
  have q2 := HC2.out
  have HE := hid (Ext.refl w)
  clear hb1 hb2 hT1 hT2 hne
  go_enter_defers Try.func130, Try.ntmps130
  go_wp2_with (first
    | (go_at_call_of 188 v1; refine (F01.out _ HE.out).mono ?_; rintro e wn ⟨rfl, hE⟩; replace HE := hid (HE.out.trans hE); replace q1 := HE.out.cellS HC1.out; replace q2 := HE.out.cellS HC2.out; clear hE)
    | (go_at_call_of 188 v2; refine (F02.out _ HE.out).mono ?_; rintro e wn ⟨rfl, hE⟩; replace HE := hid (HE.out.trans hE); replace q1 := HE.out.cellS HC1.out; replace q2 := HE.out.cellS HC2.out; clear hE)
    | (go_at_call_of 183 v1; refine (F11.out _ HE.out).mono ?_; rintro e wn ⟨rfl, hE⟩; replace HE := hid (HE.out.trans hE); replace q1 := HE.out.cellS HC1.out; replace q2 := HE.out.cellS HC2.out; clear hE)
    | (go_at_call_of 183 v2; refine (F12.out _ HE.out).mono ?_; rintro e wn ⟨rfl, hE⟩; replace HE := hid (HE.out.trans hE); replace q1 := HE.out.cellS HC1.out; replace q2 := HE.out.cellS HC2.out; clear hE)
    | (go_at_call_of 185 v1; refine (F21.out _ HE.out).mono ?_; rintro e wn ⟨rfl, hE⟩; replace HE := hid (HE.out.trans hE); replace q1 := HE.out.cellS HC1.out; replace q2 := HE.out.cellS HC2.out; clear hE)
    | (go_at_call_of 185 v2; refine (F22.out _ HE.out).mono ?_; rintro e wn ⟨rfl, hE⟩; replace HE := hid (HE.out.trans hE); replace q1 := HE.out.cellS HC1.out; replace q2 := HE.out.cellS HC2.out; clear hE)
    | (go_at_call_of 184 v1; refine (F31.out _ HE.out).mono ?_; rintro e wn ⟨rfl, hE⟩; replace HE := hid (HE.out.trans hE); replace q1 := HE.out.cellS HC1.out; replace q2 := HE.out.cellS HC2.out; clear hE)
    | (go_at_call_of 184 v2; refine (F32.out _ HE.out).mono ?_; rintro e wn ⟨rfl, hE⟩; replace HE := hid (HE.out.trans hE); replace q1 := HE.out.cellS HC1.out; replace q2 := HE.out.cellS HC2.out; clear hE)
    | (go_at_call_of 189 v1; refine (F41.out _ HE.out).mono ?_; rintro e wn ⟨rfl, hE⟩; replace HE := hid (HE.out.trans hE); replace q1 := HE.out.cellS HC1.out; replace q2 := HE.out.cellS HC2.out; clear hE)
    | (go_at_call_of 189 v2; refine (F42.out _ HE.out).mono ?_; rintro e wn ⟨rfl, hE⟩; replace HE := hid (HE.out.trans hE); replace q1 := HE.out.cellS HC1.out; replace q2 := HE.out.cellS HC2.out; clear hE)
    | (go_at_call_of 186 v1; refine (F51.out _ HE.out).mono ?_; rintro e wn ⟨rfl, hE⟩; replace HE := hid (HE.out.trans hE); replace q1 := HE.out.cellS HC1.out; replace q2 := HE.out.cellS HC2.out; clear hE)
    | (go_at_call_of 186 v2; refine (F52.out _ HE.out).mono ?_; rintro e wn ⟨rfl, hE⟩; replace HE := hid (HE.out.trans hE); replace q1 := HE.out.cellS HC1.out; replace q2 := HE.out.cellS HC2.out; clear hE)
    | (go_at_call_of 187 v1; refine (F61.out _ HE.out).mono ?_; rintro e wn ⟨rfl, hE⟩; replace HE := hid (HE.out.trans hE); replace q1 := HE.out.cellS HC1.out; replace q2 := HE.out.cellS HC2.out; clear hE)
    | (go_at_call_of 187 v2; refine (F62.out _ HE.out).mono ?_; rintro e wn ⟨rfl, hE⟩; replace HE := hid (HE.out.trans hE); replace q1 := HE.out.cellS HC1.out; replace q2 := HE.out.cellS HC2.out; clear hE)
    | (go_at_call_of 176 v1; refine (FA1.out (by first | assumption | exact eq_of_beq (by assumption)) _).mono ?_; rintro e wn ⟨g, rfl, hE⟩; replace HE := hid (HE.out.trans hE); replace q1 := HE.out.cellS HC1.out; replace q2 := HE.out.cellS HC2.out; clear hE)
    | (go_at_call_of 176 v2; refine (FA2.out (by first | assumption | exact eq_of_beq (by assumption)) _).mono ?_; rintro e wn ⟨g, rfl, hE⟩; replace HE := hid (HE.out.trans hE); replace q1 := HE.out.cellS HC1.out; replace q2 := HE.out.cellS HC2.out; clear hE))
  all_goals try (rename (!_) = true => hn; rw [Bool.not_eq_true'] at hn)
  all_goals try (rename (!_) = false => hn; rw [Bool.not_eq_false'] at hn)
  all_goals first
    | (refine ⟨_, results_tmp rfl _ _ _, ?_, HE.out⟩; refine congrArg (fun z => Ending.returned (.int .i64 z)) (?_ : (_ : Int) = cmpC c1 c2); simp only [cmpC, *, if_true, if_false, Bool.false_eq_true]; done)
    | (refine absurd ?_ HNE.out; simp only [rankC, *, if_true, if_false, Bool.false_eq_true]; done)
set_option maxRecDepth 100000 in
set_option maxHeartbeats 4000000 in
theorem equ_kinds (t1 t2 : Tree) (x1 x2 : Value) (al : Option Addr) (w : World) (h1 : RepVal Any w t1 x1) (h2 : RepVal Any w t2 x2) (hne : rankC (kcode t1) ≠ rankC (kcode t2)) :
    Calls Try.prog 119 #[.iface 172 (.pointer al), x1, x2] w fun e w' => e = .returned (.bool false) ∧ Ext w w' := by
  obtain ⟨b1, v1, rfl, -, hb1, hT1⟩ := h1
  obtain ⟨b2, v2, rfl, -, hb2, hT2⟩ := h2
  have HC1 := hid (show w.cell? ⟨b1, 0, none⟩ = some v1 from (cell_of_heap hb1 0).trans rfl)
  have HC2 := hid (show w.cell? ⟨b2, 0, none⟩ = some v2 from (cell_of_heap hb2 0).trans rfl)
  have F01 := hid (fun (W : World) (E : Ext w W) => is_IsNull Any t1 v1 W (hT1.ext E))
  have F02 := hid (fun (W : World) (E : Ext w W) => is_IsNull Any t2 v2 W (hT2.ext E))
  have F11 := hid (fun (W : World) (E : Ext w W) => is_IsBool Any t1 v1 W (hT1.ext E))
  have F12 := hid (fun (W : World) (E : Ext w W) => is_IsBool Any t2 v2 W (hT2.ext E))
  have F21 := hid (fun (W : World) (E : Ext w W) => is_IsInt Any t1 v1 W (hT1.ext E))
  have F22 := hid (fun (W : World) (E : Ext w W) => is_IsInt Any t2 v2 W (hT2.ext E))
  have F31 := hid (fun (W : World) (E : Ext w W) => is_IsFloat Any t1 v1 W (hT1.ext E))
  have F32 := hid (fun (W : World) (E : Ext w W) => is_IsFloat Any t2 v2 W (hT2.ext E))
  have F41 := hid (fun (W : World) (E : Ext w W) => is_IsString Any t1 v1 W (hT1.ext E))
  have F42 := hid (fun (W : World) (E : Ext w W) => is_IsString Any t2 v2 W (hT2.ext E))
  have F51 := hid (fun (W : World) (E : Ext w W) => is_IsList Any t1 v1 W (hT1.ext E))
  have F52 := hid (fun (W : World) (E : Ext w W) => is_IsList Any t2 v2 W (hT2.ext E))
  have F61 := hid (fun (W : World) (E : Ext w W) => is_IsMap Any t1 v1 W (hT1.ext E))
  have F62 := hid (fun (W : World) (E : Ext w W) => is_IsMap Any t2 v2 W (hT2.ext E))
  have FA1 := hid (show kcode t1 = 3 → ∀ W : World, Calls Try.prog 176 #[.agg #[v1]] W fun e W' => ∃ g, e = .returned (.float .f64 g) ∧ Ext W W' from fun h W => by
    rcases hT1.kform with ⟨hk, rfl⟩ | ⟨hk, b, rfl⟩ | ⟨hk, n, rfl⟩ | ⟨hk, f, rfl⟩ | ⟨hk, s, rfl⟩ | ⟨hk, a, n, c, rfl⟩ | ⟨hk, r, rfl⟩
    all_goals first | (rw [h] at hk; exact absurd hk (by decide)) | exact (as_AsFloat f W).mono (fun e W' h => ⟨f, h⟩))
  have FA2 := hid (show kcode t2 = 3 → ∀ W : World, Calls Try.prog 176 #[.agg #[v2]] W fun e W' => ∃ g, e = .returned (.float .f64 g) ∧ Ext W W' from fun h W => by
    rcases hT2.kform with ⟨hk, rfl⟩ | ⟨hk, b, rfl⟩ | ⟨hk, n, rfl⟩ | ⟨hk, f, rfl⟩ | ⟨hk, s, rfl⟩ | ⟨hk, a, n, c, rfl⟩ | ⟨hk, r, rfl⟩
    all_goals first | (rw [h] at hk; exact absurd hk (by decide)) | exact (as_AsFloat f W).mono (fun e W' h => ⟨f, h⟩))
  generalize kcode t1 = c1 at *
  generalize kcode t2 = c2 at *
  have HNE := hid hne
  have q1 := HC1.out
  have q2 := HC2.out
  have HE := hid (Ext.refl w)
  clear hb1 hb2 hT1 hT2 hne
  cases h13 : (c1 == 3) <;> cases h23 : (c2 == 3) <;> rw [h13] at F31 <;> rw [h23] at F32
  all_goals first | (refine absurd ?_ HNE.out; simp only [rankC, *, if_true]; done) | skip
  all_goals  go_enter_defers Try.func119, Try.ntmps119
  all_goals  go_wp2_with (first
    | (go_at_call_of 188 v1; refine (F01.out _ HE.out).mono ?_; rintro e wn ⟨rfl, hE⟩; replace HE := hid (HE.out.trans hE); replace q1 := HE.out.cellS HC1.out; replace q2 := HE.out.cellS HC2.out; clear hE)
    | (go_at_call_of 188 v2; refine (F02.out _ HE.out).mono ?_; rintro e wn ⟨rfl, hE⟩; replace HE := hid (HE.out.trans hE); replace q1 := HE.out.cellS HC1.out; replace q2 := HE.out.cellS HC2.out; clear hE)
    | (go_at_call_of 183 v1; refine (F11.out _ HE.out).mono ?_; rintro e wn ⟨rfl, hE⟩; replace HE := hid (HE.out.trans hE); replace q1 := HE.out.cellS HC1.out; replace q2 := HE.out.cellS HC2.out; clear hE)
    | (go_at_call_of 183 v2; refine (F12.out _ HE.out).mono ?_; rintro e wn ⟨rfl, hE⟩; replace HE := hid (HE.out.trans hE); replace q1 := HE.out.cellS HC1.out; replace q2 := HE.out.cellS HC2.out; clear hE)
    | (go_at_call_of 185 v1; refine (F21.out _ HE.out).mono ?_; rintro e wn ⟨rfl, hE⟩; replace HE := hid (HE.out.trans hE); replace q1 := HE.out.cellS HC1.out; replace q2 := HE.out.cellS HC2.out; clear hE)
    | (go_at_call_of 185 v2; refine (F22.out _ HE.out).mono ?_; rintro e wn ⟨rfl, hE⟩; replace HE := hid (HE.out.trans hE); replace q1 := HE.out.cellS HC1.out; replace q2 := HE.out.cellS HC2.out; clear hE)
    | (go_at_call_of 184 v1; refine (F31.out _ HE.out).mono ?_; rintro e wn ⟨rfl, hE⟩; replace HE := hid (HE.out.trans hE); replace q1 := HE.out.cellS HC1.out; replace q2 := HE.out.cellS HC2.out; clear hE)
    | (go_at_call_of 184 v2; refine (F32.out _ HE.out).mono ?_; rintro e wn ⟨rfl, hE⟩; replace HE := hid (HE.out.trans hE); replace q1 := HE.out.cellS HC1.out; replace q2 := HE.out.cellS HC2.out; clear hE)
    | (go_at_call_of 189 v1; refine (F41.out _ HE.out).mono ?_; rintro e wn ⟨rfl, hE⟩; replace HE := hid (HE.out.trans hE); replace q1 := HE.out.cellS HC1.out; replace q2 := HE.out.cellS HC2.out; clear hE)
    | (go_at_call_of 189 v2; refine (F42.out _ HE.out).mono ?_; rintro e wn ⟨rfl, hE⟩; replace HE := hid (HE.out.trans hE); replace q1 := HE.out.cellS HC1.out; replace q2 := HE.out.cellS HC2.out; clear hE)
    | (go_at_call_of 186 v1; refine (F51.out _ HE.out).mono ?_; rintro e wn ⟨rfl, hE⟩; replace HE := hid (HE.out.trans hE); replace q1 := HE.out.cellS HC1.out; replace q2 := HE.out.cellS HC2.out; clear hE)
    | (go_at_call_of 186 v2; refine (F52.out _ HE.out).mono ?_; rintro e wn ⟨rfl, hE⟩; replace HE := hid (HE.out.trans hE); replace q1 := HE.out.cellS HC1.out; replace q2 := HE.out.cellS HC2.out; clear hE)
    | (go_at_call_of 187 v1; refine (F61.out _ HE.out).mono ?_; rintro e wn ⟨rfl, hE⟩; replace HE := hid (HE.out.trans hE); replace q1 := HE.out.cellS HC1.out; replace q2 := HE.out.cellS HC2.out; clear hE)
    | (go_at_call_of 187 v2; refine (F62.out _ HE.out).mono ?_; rintro e wn ⟨rfl, hE⟩; replace HE := hid (HE.out.trans hE); replace q1 := HE.out.cellS HC1.out; replace q2 := HE.out.cellS HC2.out; clear hE)
    | (go_at_call_of 176 v1; refine (FA1.out (by first | assumption | exact eq_of_beq (by assumption)) _).mono ?_; rintro e wn ⟨g, rfl, hE⟩; replace HE := hid (HE.out.trans hE); replace q1 := HE.out.cellS HC1.out; replace q2 := HE.out.cellS HC2.out; clear hE)
    | (go_at_call_of 176 v2; refine (FA2.out (by first | assumption | exact eq_of_beq (by assumption)) _).mono ?_; rintro e wn ⟨g, rfl, hE⟩; replace HE := hid (HE.out.trans hE); replace q1 := HE.out.cellS HC1.out; replace q2 := HE.out.cellS HC2.out; clear hE))
  all_goals try (rename (!_) = true => hn; rw [Bool.not_eq_true'] at hn)
  all_goals try (rename (!_) = false => hn; rw [Bool.not_eq_false'] at hn)
  all_goals first
    | (refine ⟨_, results_tmp rfl _ _ _, ?_, HE.out⟩; rfl)
    | (refine absurd ?_ HNE.out; simp only [rankC, *, if_true, if_false, Bool.false_eq_true]; done)
end Go.Proofs.Ytempfaefopfobaa
