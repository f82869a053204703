/- EquAll: value.EqualsUsing of whatever two trees. -/
import Derived.Test.YtempfaefopfobaaLEqu
import Derived.Test.YtempfaefopfobaaMEqu
import Derived.Test.YtempfaefopfobaaElemOf
import Derived.Deep.QuietTactic
import Derived.BigQuiet
import Derived.StillTailTactics
import Derived.Test.YtempfaefopfobaaEquScal
import Derived.Test.YtempfaefopfobaaStrCmp
import Derived.Deep.RegionHeld3
import Derived.Deep.Cut
import Derived.Test.YtempfaefopfobaaCleanElem
import Derived.Test.YtempfaefopfobaaOrdVals
import Derived.Test.YtempfaefopfobaaFits
import Derived.Test.YtempfaefopfobaaElRep

section
set_option maxRecDepth 100000
namespace Go.Proofs.Ytempfaefopfobaa
open Go.ChangeShapes Go.WideShapes Go.ChangeAt Go.RowKit
set_option linter.unusedVariables false
set_option linter.unusedSimpArgs false

theorem lequ_any (z : Tree → Tree → Bool) (l1 l2 : List Tree) (al : Addr) (a1 a2 : Option Addr) (c1 c2 : Nat) (w : World) (hn : l1.length ≤ 140737488351232)
    (hi1 : ItemsAt w l1 a1) (hi2 : ItemsAt w l2 a2) (hz : ∀ a ∈ l1, ∀ b ∈ l2, EquU a b (z a b)) :
    Calls Try.prog 196 #[.slice a1 l1.length c1, .iface 172 (.pointer (some al)), .iface 315 (.slice a2 l2.length c2)] w fun e w' => e = .returned (.bool (eqLs z l1 l2)) ∧ Ext w w' := by
  have HC := hid (leu_any_p z l1 l2 al a1 a2 c1 c2 (w.alloc (.cells #[.slice a1 l1.length c1] 315)) w.heap.size ((cell_of_heap (heap_alloc_new w _) 0).trans rfl) hn (hi1.ext ((Ext.refl w).alloc _)) (hi2.ext ((Ext.refl w).alloc _)) hz)
  clear hi1 hi2 hz
  go_enter Try.func196, Try.ntmps196
  go_wp2_with (go_at_call 200; refine HC.out.mono ?_; rintro e w2 ⟨rfl, hE⟩; have HE := hid hE; clear hE)
  go_ret
  exact ⟨rfl, ((Ext.refl w).alloc _).trans HE.out⟩
set_option maxHeartbeats 4000000 in
theorem equ_list (z : Tree → Tree → Bool) (l1 l2 : List Tree) (hz : ∀ a ∈ l1, ∀ b ∈ l2, EquU a b (z a b)) : EquU (.list l1) (.list l2) (eqLs z l1 l2) := by
  intro w al x1 x2 h1 h2
  obtain ⟨b1, v1, rfl, -, hb1, hT1⟩ := h1
  obtain ⟨b2, v2, rfl, -, hb2, hT2⟩ := h2
  obtain ⟨a1, c1, rfl, hn1, hi1⟩ := hT1.toL
  obtain ⟨a2, c2, rfl, hn2, hi2⟩ := hT2.toL
  have HI1 := hid hi1
  have HI2 := hid hi2
  have HZ := hid hz
  clear hi1 hi2 hz
  have HT1 := hid hT1
  have HT2 := hid hT2
  have HC1 := hid (show w.cell? ⟨b1, 0, none⟩ = some (.iface 82 (.slice a1 l1.length c1)) from (cell_of_heap hb1 0).trans rfl)
  have HC2 := hid (show w.cell? ⟨b2, 0, none⟩ = some (.iface 82 (.slice a2 l2.length c2)) from (cell_of_heap hb2 0).trans rfl)
  have q1 := HC1.out
  have q2 := HC2.out
  have HE := hid (Ext.refl w)
  clear hb1 hb2 hT1 hT2
  go_enter_defers Try.func119, Try.ntmps119
  go_wp2_with (first
    | (go_at_call_of 188 a1; refine (show Calls Try.prog 188 #[.agg #[.iface 82 (.slice a1 l1.length c1)]] _ fun e w' => e = .returned (.bool false) ∧ Ext _ w' from is_IsNull Any (.list l1) _ _ (HT1.out.ext HE.out)).mono ?_; rintro e wn ⟨rfl, hE⟩; replace HE := hid (HE.out.trans hE); replace q1 := HE.out.cellS HC1.out; replace q2 := HE.out.cellS HC2.out; clear hE)
    | (go_at_call_of 188 a2; refine (show Calls Try.prog 188 #[.agg #[.iface 82 (.slice a2 l2.length c2)]] _ fun e w' => e = .returned (.bool false) ∧ Ext _ w' from is_IsNull Any (.list l2) _ _ (HT2.out.ext HE.out)).mono ?_; rintro e wn ⟨rfl, hE⟩; replace HE := hid (HE.out.trans hE); replace q1 := HE.out.cellS HC1.out; replace q2 := HE.out.cellS HC2.out; clear hE)
    | (go_at_call_of 183 a1; refine (show Calls Try.prog 183 #[.agg #[.iface 82 (.slice a1 l1.length c1)]] _ fun e w' => e = .returned (.bool false) ∧ Ext _ w' from is_IsBool Any (.list l1) _ _ (HT1.out.ext HE.out)).mono ?_; rintro e wn ⟨rfl, hE⟩; replace HE := hid (HE.out.trans hE); replace q1 := HE.out.cellS HC1.out; replace q2 := HE.out.cellS HC2.out; clear hE)
    | (go_at_call_of 183 a2; refine (show Calls Try.prog 183 #[.agg #[.iface 82 (.slice a2 l2.length c2)]] _ fun e w' => e = .returned (.bool false) ∧ Ext _ w' from is_IsBool Any (.list l2) _ _ (HT2.out.ext HE.out)).mono ?_; rintro e wn ⟨rfl, hE⟩; replace HE := hid (HE.out.trans hE); replace q1 := HE.out.cellS HC1.out; replace q2 := HE.out.cellS HC2.out; clear hE)
    | (go_at_call_of 185 a1; refine (show Calls Try.prog 185 #[.agg #[.iface 82 (.slice a1 l1.length c1)]] _ fun e w' => e = .returned (.bool false) ∧ Ext _ w' from is_IsInt Any (.list l1) _ _ (HT1.out.ext HE.out)).mono ?_; rintro e wn ⟨rfl, hE⟩; replace HE := hid (HE.out.trans hE); replace q1 := HE.out.cellS HC1.out; replace q2 := HE.out.cellS HC2.out; clear hE)
    | (go_at_call_of 185 a2; refine (show Calls Try.prog 185 #[.agg #[.iface 82 (.slice a2 l2.length c2)]] _ fun e w' => e = .returned (.bool false) ∧ Ext _ w' from is_IsInt Any (.list l2) _ _ (HT2.out.ext HE.out)).mono ?_; rintro e wn ⟨rfl, hE⟩; replace HE := hid (HE.out.trans hE); replace q1 := HE.out.cellS HC1.out; replace q2 := HE.out.cellS HC2.out; clear hE)
    | (go_at_call_of 184 a1; refine (show Calls Try.prog 184 #[.agg #[.iface 82 (.slice a1 l1.length c1)]] _ fun e w' => e = .returned (.bool false) ∧ Ext _ w' from is_IsFloat Any (.list l1) _ _ (HT1.out.ext HE.out)).mono ?_; rintro e wn ⟨rfl, hE⟩; replace HE := hid (HE.out.trans hE); replace q1 := HE.out.cellS HC1.out; replace q2 := HE.out.cellS HC2.out; clear hE)
    | (go_at_call_of 184 a2; refine (show Calls Try.prog 184 #[.agg #[.iface 82 (.slice a2 l2.length c2)]] _ fun e w' => e = .returned (.bool false) ∧ Ext _ w' from is_IsFloat Any (.list l2) _ _ (HT2.out.ext HE.out)).mono ?_; rintro e wn ⟨rfl, hE⟩; replace HE := hid (HE.out.trans hE); replace q1 := HE.out.cellS HC1.out; replace q2 := HE.out.cellS HC2.out; clear hE)
    | (go_at_call_of 189 a1; refine (show Calls Try.prog 189 #[.agg #[.iface 82 (.slice a1 l1.length c1)]] _ fun e w' => e = .returned (.bool false) ∧ Ext _ w' from is_IsString Any (.list l1) _ _ (HT1.out.ext HE.out)).mono ?_; rintro e wn ⟨rfl, hE⟩; replace HE := hid (HE.out.trans hE); replace q1 := HE.out.cellS HC1.out; replace q2 := HE.out.cellS HC2.out; clear hE)
    | (go_at_call_of 189 a2; refine (show Calls Try.prog 189 #[.agg #[.iface 82 (.slice a2 l2.length c2)]] _ fun e w' => e = .returned (.bool false) ∧ Ext _ w' from is_IsString Any (.list l2) _ _ (HT2.out.ext HE.out)).mono ?_; rintro e wn ⟨rfl, hE⟩; replace HE := hid (HE.out.trans hE); replace q1 := HE.out.cellS HC1.out; replace q2 := HE.out.cellS HC2.out; clear hE)
    | (go_at_call_of 186 a1; refine (show Calls Try.prog 186 #[.agg #[.iface 82 (.slice a1 l1.length c1)]] _ fun e w' => e = .returned (.bool true) ∧ Ext _ w' from is_IsList Any (.list l1) _ _ (HT1.out.ext HE.out)).mono ?_; rintro e wn ⟨rfl, hE⟩; replace HE := hid (HE.out.trans hE); replace q1 := HE.out.cellS HC1.out; replace q2 := HE.out.cellS HC2.out; clear hE)
    | (go_at_call_of 186 a2; refine (show Calls Try.prog 186 #[.agg #[.iface 82 (.slice a2 l2.length c2)]] _ fun e w' => e = .returned (.bool true) ∧ Ext _ w' from is_IsList Any (.list l2) _ _ (HT2.out.ext HE.out)).mono ?_; rintro e wn ⟨rfl, hE⟩; replace HE := hid (HE.out.trans hE); replace q1 := HE.out.cellS HC1.out; replace q2 := HE.out.cellS HC2.out; clear hE)
    | (go_at_call_of 187 a1; refine (show Calls Try.prog 187 #[.agg #[.iface 82 (.slice a1 l1.length c1)]] _ fun e w' => e = .returned (.bool false) ∧ Ext _ w' from is_IsMap Any (.list l1) _ _ (HT1.out.ext HE.out)).mono ?_; rintro e wn ⟨rfl, hE⟩; replace HE := hid (HE.out.trans hE); replace q1 := HE.out.cellS HC1.out; replace q2 := HE.out.cellS HC2.out; clear hE)
    | (go_at_call_of 187 a2; refine (show Calls Try.prog 187 #[.agg #[.iface 82 (.slice a2 l2.length c2)]] _ fun e w' => e = .returned (.bool false) ∧ Ext _ w' from is_IsMap Any (.list l2) _ _ (HT2.out.ext HE.out)).mono ?_; rintro e wn ⟨rfl, hE⟩; replace HE := hid (HE.out.trans hE); replace q1 := HE.out.cellS HC1.out; replace q2 := HE.out.cellS HC2.out; clear hE)
    | (go_at_call_of 179 a1; refine (aslu_any a1 l1.length c1 _ _).mono ?_; rintro e wn ⟨rfl, hE⟩; replace HE := hid (HE.out.trans hE); replace q1 := HE.out.cellS HC1.out; replace q2 := HE.out.cellS HC2.out; clear hE)
    | (go_at_call_of 179 a2; refine (aslu_any a2 l2.length c2 _ _).mono ?_; rintro e wn ⟨rfl, hE⟩; replace HE := hid (HE.out.trans hE); replace q1 := HE.out.cellS HC1.out; replace q2 := HE.out.cellS HC2.out; clear hE)
    | (go_at_call 196; refine (lequ_any z l1 l2 al a1 a2 c1 c2 _ hn1 (HI1.out.ext HE.out) (HI2.out.ext HE.out) HZ.out).mono ?_; rintro e wn ⟨rfl, hE⟩; replace HE := hid (HE.out.trans hE); replace q1 := HE.out.cellS HC1.out; replace q2 := HE.out.cellS HC2.out; clear hE))
  refine leaves_cons (f := 174) (args := #[.pointer (some al), .iface 315 (.slice a2 l2.length c2)]) (by simp) (by simp [go_sem]) ?_
  refine (free_d al _ _ .returning _).mono ?_
  rintro e u' w'' ⟨rfl, rfl, rfl⟩
  refine leaves_cons (f := 174) (args := #[.pointer (some al), .iface 315 (.slice a1 l1.length c1)]) (by simp [settle]) (by simp [go_sem]) ?_
  refine (free_d al _ _ .returning _).mono ?_
  rintro e u' w'' ⟨rfl, rfl, rfl⟩
  exact ⟨_, results_tmp rfl _ _ _, rfl, HE.out⟩
set_option maxHeartbeats 4000000 in
theorem equ_map (z : Tree → Tree → Bool) (m1 m2 : List (ByteArray × Tree)) (hz : ∀ p ∈ m1, ∀ q ∈ m2, EquU p.2 q.2 (z p.2 q.2)) : EquU (.map m1) (.map m2) (eqMs z m1 m2) := by
  intro w al x1 x2 h1 h2
  obtain ⟨b1, v1, rfl, -, hb1, hT1⟩ := h1
  obtain ⟨b2, v2, rfl, -, hb2, hT2⟩ := h2
  obtain ⟨r1, rfl, -, hm1⟩ := hT1.toM
  obtain ⟨r2, rfl, -, hm2⟩ := hT2.toM
  have HM1 := hid hm1
  have HM2 := hid hm2
  have HZ := hid hz
  clear hm1 hm2 hz
  have HT1 := hid hT1
  have HT2 := hid hT2
  have HC1 := hid (show w.cell? ⟨b1, 0, none⟩ = some (.iface 159 (.map (some r1))) from (cell_of_heap hb1 0).trans rfl)
  have HC2 := hid (show w.cell? ⟨b2, 0, none⟩ = some (.iface 159 (.map (some r2))) from (cell_of_heap hb2 0).trans rfl)
  have q1 := HC1.out
  have q2 := HC2.out
  have HE := hid (Ext.refl w)
  clear hb1 hb2 hT1 hT2
  go_enter_defers Try.func119, Try.ntmps119
  go_wp2_with (first
    | (go_at_call_of 188 r1; refine (show Calls Try.prog 188 #[.agg #[.iface 159 (.map (some r1))]] _ fun e w' => e = .returned (.bool false) ∧ Ext _ w' from is_IsNull Any (.map m1) _ _ (HT1.out.ext HE.out)).mono ?_; rintro e wn ⟨rfl, hE⟩; replace HE := hid (HE.out.trans hE); replace q1 := HE.out.cellS HC1.out; replace q2 := HE.out.cellS HC2.out; clear hE)
    | (go_at_call_of 188 r2; refine (show Calls Try.prog 188 #[.agg #[.iface 159 (.map (some r2))]] _ fun e w' => e = .returned (.bool false) ∧ Ext _ w' from is_IsNull Any (.map m2) _ _ (HT2.out.ext HE.out)).mono ?_; rintro e wn ⟨rfl, hE⟩; replace HE := hid (HE.out.trans hE); replace q1 := HE.out.cellS HC1.out; replace q2 := HE.out.cellS HC2.out; clear hE)
    | (go_at_call_of 183 r1; refine (show Calls Try.prog 183 #[.agg #[.iface 159 (.map (some r1))]] _ fun e w' => e = .returned (.bool false) ∧ Ext _ w' from is_IsBool Any (.map m1) _ _ (HT1.out.ext HE.out)).mono ?_; rintro e wn ⟨rfl, hE⟩; replace HE := hid (HE.out.trans hE); replace q1 := HE.out.cellS HC1.out; replace q2 := HE.out.cellS HC2.out; clear hE)
    | (go_at_call_of 183 r2; refine (show Calls Try.prog 183 #[.agg #[.iface 159 (.map (some r2))]] _ fun e w' => e = .returned (.bool false) ∧ Ext _ w' from is_IsBool Any (.map m2) _ _ (HT2.out.ext HE.out)).mono ?_; rintro e wn ⟨rfl, hE⟩; replace HE := hid (HE.out.trans hE); replace q1 := HE.out.cellS HC1.out; replace q2 := HE.out.cellS HC2.out; clear hE)
    | (go_at_call_of 185 r1; refine (show Calls Try.prog 185 #[.agg #[.iface 159 (.map (some r1))]] _ fun e w' => e = .returned (.bool false) ∧ Ext _ w' from is_IsInt Any (.map m1) _ _ (HT1.out.ext HE.out)).mono ?_; rintro e wn ⟨rfl, hE⟩; replace HE := hid (HE.out.trans hE); replace q1 := HE.out.cellS HC1.out; replace q2 := HE.out.cellS HC2.out; clear hE)
    | (go_at_call_of 185 r2; refine (show Calls Try.prog 185 #[.agg #[.iface 159 (.map (some r2))]] _ fun e w' => e = .returned (.bool false) ∧ Ext _ w' from is_IsInt Any (.map m2) _ _ (HT2.out.ext HE.out)).mono ?_; rintro e wn ⟨rfl, hE⟩; replace HE := hid (HE.out.trans hE); replace q1 := HE.out.cellS HC1.out; replace q2 := HE.out.cellS HC2.out; clear hE)
    | (go_at_call_of 184 r1; refine (show Calls Try.prog 184 #[.agg #[.iface 159 (.map (some r1))]] _ fun e w' => e = .returned (.bool false) ∧ Ext _ w' from is_IsFloat Any (.map m1) _ _ (HT1.out.ext HE.out)).mono ?_; rintro e wn ⟨rfl, hE⟩; replace HE := hid (HE.out.trans hE); replace q1 := HE.out.cellS HC1.out; replace q2 := HE.out.cellS HC2.out; clear hE)
    | (go_at_call_of 184 r2; refine (show Calls Try.prog 184 #[.agg #[.iface 159 (.map (some r2))]] _ fun e w' => e = .returned (.bool false) ∧ Ext _ w' from is_IsFloat Any (.map m2) _ _ (HT2.out.ext HE.out)).mono ?_; rintro e wn ⟨rfl, hE⟩; replace HE := hid (HE.out.trans hE); replace q1 := HE.out.cellS HC1.out; replace q2 := HE.out.cellS HC2.out; clear hE)
    | (go_at_call_of 189 r1; refine (show Calls Try.prog 189 #[.agg #[.iface 159 (.map (some r1))]] _ fun e w' => e = .returned (.bool false) ∧ Ext _ w' from is_IsString Any (.map m1) _ _ (HT1.out.ext HE.out)).mono ?_; rintro e wn ⟨rfl, hE⟩; replace HE := hid (HE.out.trans hE); replace q1 := HE.out.cellS HC1.out; replace q2 := HE.out.cellS HC2.out; clear hE)
    | (go_at_call_of 189 r2; refine (show Calls Try.prog 189 #[.agg #[.iface 159 (.map (some r2))]] _ fun e w' => e = .returned (.bool false) ∧ Ext _ w' from is_IsString Any (.map m2) _ _ (HT2.out.ext HE.out)).mono ?_; rintro e wn ⟨rfl, hE⟩; replace HE := hid (HE.out.trans hE); replace q1 := HE.out.cellS HC1.out; replace q2 := HE.out.cellS HC2.out; clear hE)
    | (go_at_call_of 186 r1; refine (show Calls Try.prog 186 #[.agg #[.iface 159 (.map (some r1))]] _ fun e w' => e = .returned (.bool false) ∧ Ext _ w' from is_IsList Any (.map m1) _ _ (HT1.out.ext HE.out)).mono ?_; rintro e wn ⟨rfl, hE⟩; replace HE := hid (HE.out.trans hE); replace q1 := HE.out.cellS HC1.out; replace q2 := HE.out.cellS HC2.out; clear hE)
    | (go_at_call_of 186 r2; refine (show Calls Try.prog 186 #[.agg #[.iface 159 (.map (some r2))]] _ fun e w' => e = .returned (.bool false) ∧ Ext _ w' from is_IsList Any (.map m2) _ _ (HT2.out.ext HE.out)).mono ?_; rintro e wn ⟨rfl, hE⟩; replace HE := hid (HE.out.trans hE); replace q1 := HE.out.cellS HC1.out; replace q2 := HE.out.cellS HC2.out; clear hE)
    | (go_at_call_of 187 r1; refine (show Calls Try.prog 187 #[.agg #[.iface 159 (.map (some r1))]] _ fun e w' => e = .returned (.bool true) ∧ Ext _ w' from is_IsMap Any (.map m1) _ _ (HT1.out.ext HE.out)).mono ?_; rintro e wn ⟨rfl, hE⟩; replace HE := hid (HE.out.trans hE); replace q1 := HE.out.cellS HC1.out; replace q2 := HE.out.cellS HC2.out; clear hE)
    | (go_at_call_of 187 r2; refine (show Calls Try.prog 187 #[.agg #[.iface 159 (.map (some r2))]] _ fun e w' => e = .returned (.bool true) ∧ Ext _ w' from is_IsMap Any (.map m2) _ _ (HT2.out.ext HE.out)).mono ?_; rintro e wn ⟨rfl, hE⟩; replace HE := hid (HE.out.trans hE); replace q1 := HE.out.cellS HC1.out; replace q2 := HE.out.cellS HC2.out; clear hE)
    | (go_at_call_of 181 r1; refine (asmapu_any r1 _ _).mono ?_; rintro e wn ⟨rfl, hE⟩; replace HE := hid (HE.out.trans hE); replace q1 := HE.out.cellS HC1.out; replace q2 := HE.out.cellS HC2.out; clear hE)
    | (go_at_call_of 181 r2; refine (asmapu_any r2 _ _).mono ?_; rintro e wn ⟨rfl, hE⟩; replace HE := hid (HE.out.trans hE); replace q1 := HE.out.cellS HC1.out; replace q2 := HE.out.cellS HC2.out; clear hE)
    | (go_at_call 204; refine (meq_any z m1 m2 r1 r2 al _ (HM1.out.ext HE.out) (HM2.out.ext HE.out) HZ.out).mono ?_; rintro e wn ⟨rfl, hE⟩; replace HE := hid (HE.out.trans hE); replace q1 := HE.out.cellS HC1.out; replace q2 := HE.out.cellS HC2.out; clear hE))
  refine leaves_cons (f := 174) (args := #[.pointer (some al), .iface 316 (.map (some r2))]) (by simp) (by simp [go_sem]) ?_
  refine (free_d al _ _ .returning _).mono ?_
  rintro e u' w'' ⟨rfl, rfl, rfl⟩
  refine leaves_cons (f := 174) (args := #[.pointer (some al), .iface 316 (.map (some r1))]) (by simp [settle]) (by simp [go_sem]) ?_
  refine (free_d al _ _ .returning _).mono ?_
  rintro e u' w'' ⟨rfl, rfl, rfl⟩
  exact ⟨_, results_tmp rfl _ _ _, rfl, HE.out⟩
theorem equ_all : ∀ (n : Nat) (t1 t2 : Tree), SizeOf.sizeOf t1 ≤ n → EquU t1 t2 (eqT t1 t2)
  | 0, t1, _, h => by have := t1.size_pos; omega
  | n + 1, t1, t2, h => by
    by_cases hr : rankC (kcode t1) = rankC (kcode t2)
    · cases t1 <;> cases t2 <;> (first | (refine absurd hr ?_; simp [rankC, kcode]; done) | skip)
      · rw [eqT_null_null]; exact equ_null
      · rw [eqT_bool_bool]; exact equ_bool _ _
      · rw [eqT_int_int]; exact equ_int _ _
      · rw [eqT_int_flt]; exact equ_if _ _
      · rw [eqT_flt_int]; exact equ_fi _ _
      · rw [eqT_flt_flt]; exact equ_flt _ _
      · rw [eqT_str_str]; exact equ_str _ _
      · rw [eqT_list]
        exact equ_list eqT _ _ fun a ha b _ => equ_all n a b (by have := Tree.mem_list ha; omega)
      · rw [eqT_map]
        exact equ_map eqT _ _ fun p hp q _ => equ_all n p.2 q.2 (by have := Tree.size_map (k := p.1) (t := p.2) hp; omega)
    · rw [eqT_kinds hr]
      exact fun W al x1 x2 h1 h2 => equ_kinds t1 t2 x1 x2 (some al) W h1 h2 hr
theorem equU (t1 t2 : Tree) : EquU t1 t2 (eqT t1 t2) := equ_all _ t1 t2 (Nat.le_refl _)
end Go.Proofs.Ytempfaefopfobaa
end

/- ElemEqu: FieldList.Equals, PathElement.Equals, impl.EqualElems. -/
section
set_option maxRecDepth 100000
namespace Go.Proofs.Ytempfaefopfobaa
open Go.ChangeShapes Go.WideShapes Go.ChangeAt Go.RowKit
set_option linter.unusedVariables false
set_option linter.unusedSimpArgs false

/-- two lists of fields are alike in pairs -/
noncomputable def eqFs (z : Tree → Tree → Bool) : List (ByteArray × Tree) → List (ByteArray × Tree) → Bool
  | [], [] => true
  | p :: x, q :: y => decide (p.1 = q.1) && (z p.2 q.2 && eqFs z x y)
  | _, _ => false
theorem eqFs_step {z : Tree → Tree → Bool} {l1 l2 : List (ByteArray × Tree)} {k : Nat} {p q : ByteArray × Tree} (h1 : l1[k]? = some p) (h2 : l2[k]? = some q) :
    eqFs z (l1.drop k) (l2.drop k) = (decide (p.1 = q.1) && (z p.2 q.2 && eqFs z (l1.drop (k + 1)) (l2.drop (k + 1)))) := by
  obtain ⟨h3, rfl⟩ := List.getElem?_eq_some_iff.1 h1
  obtain ⟨h4, rfl⟩ := List.getElem?_eq_some_iff.1 h2
  rw [List.drop_eq_getElem_cons h3, List.drop_eq_getElem_cons h4]
  rfl
theorem eqFs_len {z : Tree → Tree → Bool} : ∀ {l1 l2 : List (ByteArray × Tree)}, l1.length ≠ l2.length → eqFs z l1 l2 = false
  | [], [], h => absurd rfl h
  | [], _ :: _, _ => rfl
  | _ :: _, [], _ => rfl
  | p :: x, q :: y, h => by
    unfold eqFs
    rw [eqFs_len (l1 := x) (l2 := y) (by simpa using h), Bool.and_false, Bool.and_false]
/-- how the package holds path elements equal -/
noncomputable def eqE : El → El → Bool
  | .fld a, .fld b => decide (a = b)
  | .key a, .key b => eqFs eqT a b
  | .val a, .val b => eqT a b
  | .idx a, .idx b => decide (a = b)
  | _, _ => false
set_option maxHeartbeats 4000000 in
theorem fle_any (a b : List (ByteArray × Tree)) (v1 v2 : Value) (w : World) (h1 : RepFs Any w v1 a) (h2 : RepFs Any w v2 b) :
    Calls Try.prog 96 #[v1, v2] w fun e w' => e = .returned (.bool (eqFs eqT a b)) ∧ Ext w w' := by
  obtain ⟨a1, b1, o1, c1, rfl, l1, s1, p1, at1⟩ := h1
  obtain ⟨a2, b2, o2, c2, rfl, l2, s2, p2, at2⟩ := h2
  by_cases hlen : a.length = b.length
  · have HP1 := hid p1
    have HP2 := hid p2
    have HA1 := hid at1
    have HA2 := hid at2
    have HLN := hid hlen
    clear p1 p2 at1 at2
    rw [← hlen] at HP2 ⊢
    clear hlen
    go_enter Try.func96, Try.ntmps96
    go_wp2_with fail
    go_loopw [13] (fun i wr => ∃ k : Nat, i = .int .i64 k ∧ k ≤ a.length ∧ Hid (eqFs eqT (a.drop k) (b.drop k) = eqFs eqT a b) ∧ Hid (Ext w wr)) (fun i _ => a.length - (intOf i).toNat)
    case atStart => exact ⟨0, rfl, Nat.zero_le _, hid rfl, hid (Ext.refl _)⟩
    case round =>
      obtain ⟨k, rfl, hk1, HC, HE⟩ := hrel
      by_cases h1 : k < a.length
      · obtain ⟨p, hp⟩ : ∃ p, a[k]? = some p := ⟨_, List.getElem?_eq_getElem h1⟩
        obtain ⟨q, hq⟩ : ∃ q, b[k]? = some q := ⟨_, List.getElem?_eq_getElem (by have := HLN.out; omega)⟩
        obtain ⟨rfl, -⟩ := HP1.out (by omega)
        obtain ⟨rfl, -⟩ := HP2.out (by omega)
        obtain ⟨-, kc1, x1, kx1, hv1⟩ := HA1.out k p hp
        obtain ⟨-, kc2, x2, kx2, hv2⟩ := HA2.out k q hq
        have j1 := HE.out.cellS kc1
        have j2 := HE.out.cellS kc2
        have j3 := HE.out.cellS kx1
        have j4 := HE.out.cellS kx2
        have KX1 := hid kx1
        have KX2 := hid kx2
        have hst := eqFs_step (z := eqT) hp hq
        rw [HC.out] at hst
        obtain ⟨z, hz⟩ : ∃ z, eqT p.2 q.2 = z := ⟨_, rfl⟩
        have HCU := hid (fun W (E : Ext w W) => Equals_of p.2 q.2 _ (equU p.2 q.2) x1 x2 W (hv1.ext E) (hv2.ext E))
        rw [hz] at HCU hst
        have HST := hid hst
        have hi0 : (0 : Int) ≤ (k : Int) := by omega
        have hi1 : (k : Int) < (a.length : Int) := by omega
        clear hst hp hq kc1 kc2 kx1 kx2 hv1 hv2 hz
        by_cases hn : p.1 = q.1
        · have HN := hid hn
          have hne : (p.1.toList == q.1.toList) = true := by rw [ba_toList_beq, decide_eq_true hn]
          clear hn
          cases z
          all_goals
            go_wp2_with fail
            go_quiet (fail)
            go_wp2_with fail
            have k3 := (HE.out.drewN nq).cellS KX1.out
            have k4 := (HE.out.drewN nq).cellS KX2.out
            have HEQ := hid (HE.out.drewN nq)
            clear j1 j2 j3 j4
            generalize wr.drewN nq = w5 at *
            go_still_tail 10, (by kernel_rfl)
            change wpList _ _ _ _ _ w5.drew
            go_wp2_with (go_at_call 97; refine (HCU.out _ HEQ.out.drew).mono ?_; rintro e w3 ⟨rfl, hE⟩; have HE3 := hid (HEQ.out.drew.trans hE); clear hE)
          · go_ret
            exact ⟨congrArg (fun z => Ending.returned (.bool z)) (show false = eqFs eqT a b by rw [HST.out]; simp), HE3.out⟩
          · exact ⟨⟨k + 1, by go_num, by omega, hid (by rw [HST.out, decide_eq_true HN.out]; simp), HE3⟩, by simp [intOf]; omega⟩
        · have hne : (p.1.toList == q.1.toList) = false := by rw [ba_toList_beq, decide_eq_false hn]
          have RES := hid (show false = eqFs eqT a b by rw [HST.out, decide_eq_false hn]; rfl)
          clear hn
          go_wp2_with fail
          go_quiet (fail)
          go_wp2_with fail
          go_ret
          exact ⟨congrArg (fun z => Ending.returned (.bool z)) RES.out, HE.out.drewN _⟩
      · have RES := hid (show true = eqFs eqT a b by rw [← HC.out, List.drop_eq_nil_of_le (by omega), List.drop_eq_nil_of_le (by have := HLN.out; omega)]; rfl)
        go_wp2_with fail
        go_ret
        exact ⟨congrArg (fun z => Ending.returned (.bool z)) RES.out, HE.out⟩
  · have hd : ((a.length : Int) != (b.length : Int)) = true := by simp; omega
    rw [eqFs_len hlen]
    clear p1 p2 at1 at2
    go_enter Try.func96, Try.ntmps96
    go_wp2_with fail
    go_ret
    exact ⟨rfl, Ext.refl w⟩
theorem pee_01 (p op q oq : Nat) (w : World) : Calls Try.prog 58 #[.agg #[.pointer (some ⟨p, op, none⟩), .pointer none, .pointer none, .pointer none], .agg #[.pointer none, .pointer (some ⟨q, oq, none⟩), .pointer none, .pointer none]] w fun e w' => e = .returned (.bool false) ∧ Ext w w' := by
  go_enter Try.func58, Try.ntmps58
  go_upto_region 1 with fail
  obtain ⟨x1, x2, hEE⟩ := boxes2 w (.cells #[.pointer (some ⟨p, op, none⟩), .pointer none, .pointer none, .pointer none] 91) (.cells #[.pointer none, .pointer (some ⟨q, oq, none⟩), .pointer none, .pointer none] 91) _ (Below.refl _ _)
  generalize (w.alloc (.cells #[.pointer (some ⟨p, op, none⟩), .pointer none, .pointer none, .pointer none] 91)).alloc (.cells #[.pointer none, .pointer (some ⟨q, oq, none⟩), .pointer none, .pointer none] 91) = w1 at *
  have HE1 := hid hEE
  obtain ⟨z0, z1, z2, z3⟩ := slot4 x1
  obtain ⟨y0, y1, y2, y3⟩ := slot4 x2
  clear x1 x2 hEE
  go_wp2_with fail
  go_ret
  exact ⟨rfl, HE1.out⟩
theorem pee_02 (p op q oq : Nat) (w : World) : Calls Try.prog 58 #[.agg #[.pointer (some ⟨p, op, none⟩), .pointer none, .pointer none, .pointer none], .agg #[.pointer none, .pointer none, .pointer (some ⟨q, oq, none⟩), .pointer none]] w fun e w' => e = .returned (.bool false) ∧ Ext w w' := by
  go_enter Try.func58, Try.ntmps58
  go_upto_region 1 with fail
  obtain ⟨x1, x2, hEE⟩ := boxes2 w (.cells #[.pointer (some ⟨p, op, none⟩), .pointer none, .pointer none, .pointer none] 91) (.cells #[.pointer none, .pointer none, .pointer (some ⟨q, oq, none⟩), .pointer none] 91) _ (Below.refl _ _)
  generalize (w.alloc (.cells #[.pointer (some ⟨p, op, none⟩), .pointer none, .pointer none, .pointer none] 91)).alloc (.cells #[.pointer none, .pointer none, .pointer (some ⟨q, oq, none⟩), .pointer none] 91) = w1 at *
  have HE1 := hid hEE
  obtain ⟨z0, z1, z2, z3⟩ := slot4 x1
  obtain ⟨y0, y1, y2, y3⟩ := slot4 x2
  clear x1 x2 hEE
  go_wp2_with fail
  go_ret
  exact ⟨rfl, HE1.out⟩
theorem pee_03 (p op q oq : Nat) (w : World) : Calls Try.prog 58 #[.agg #[.pointer (some ⟨p, op, none⟩), .pointer none, .pointer none, .pointer none], .agg #[.pointer none, .pointer none, .pointer none, .pointer (some ⟨q, oq, none⟩)]] w fun e w' => e = .returned (.bool false) ∧ Ext w w' := by
  go_enter Try.func58, Try.ntmps58
  go_upto_region 1 with fail
  obtain ⟨x1, x2, hEE⟩ := boxes2 w (.cells #[.pointer (some ⟨p, op, none⟩), .pointer none, .pointer none, .pointer none] 91) (.cells #[.pointer none, .pointer none, .pointer none, .pointer (some ⟨q, oq, none⟩)] 91) _ (Below.refl _ _)
  generalize (w.alloc (.cells #[.pointer (some ⟨p, op, none⟩), .pointer none, .pointer none, .pointer none] 91)).alloc (.cells #[.pointer none, .pointer none, .pointer none, .pointer (some ⟨q, oq, none⟩)] 91) = w1 at *
  have HE1 := hid hEE
  obtain ⟨z0, z1, z2, z3⟩ := slot4 x1
  obtain ⟨y0, y1, y2, y3⟩ := slot4 x2
  clear x1 x2 hEE
  go_wp2_with fail
  go_ret
  exact ⟨rfl, HE1.out⟩
theorem pee_10 (p op q oq : Nat) (w : World) : Calls Try.prog 58 #[.agg #[.pointer none, .pointer (some ⟨p, op, none⟩), .pointer none, .pointer none], .agg #[.pointer (some ⟨q, oq, none⟩), .pointer none, .pointer none, .pointer none]] w fun e w' => e = .returned (.bool false) ∧ Ext w w' := by
  go_enter Try.func58, Try.ntmps58
  go_upto_region 1 with fail
  obtain ⟨x1, x2, hEE⟩ := boxes2 w (.cells #[.pointer none, .pointer (some ⟨p, op, none⟩), .pointer none, .pointer none] 91) (.cells #[.pointer (some ⟨q, oq, none⟩), .pointer none, .pointer none, .pointer none] 91) _ (Below.refl _ _)
  generalize (w.alloc (.cells #[.pointer none, .pointer (some ⟨p, op, none⟩), .pointer none, .pointer none] 91)).alloc (.cells #[.pointer (some ⟨q, oq, none⟩), .pointer none, .pointer none, .pointer none] 91) = w1 at *
  have HE1 := hid hEE
  obtain ⟨z0, z1, z2, z3⟩ := slot4 x1
  obtain ⟨y0, y1, y2, y3⟩ := slot4 x2
  clear x1 x2 hEE
  go_wp2_with fail
  go_ret
  exact ⟨rfl, HE1.out⟩
theorem pee_12 (p op q oq : Nat) (w : World) : Calls Try.prog 58 #[.agg #[.pointer none, .pointer (some ⟨p, op, none⟩), .pointer none, .pointer none], .agg #[.pointer none, .pointer none, .pointer (some ⟨q, oq, none⟩), .pointer none]] w fun e w' => e = .returned (.bool false) ∧ Ext w w' := by
  go_enter Try.func58, Try.ntmps58
  go_upto_region 1 with fail
  obtain ⟨x1, x2, hEE⟩ := boxes2 w (.cells #[.pointer none, .pointer (some ⟨p, op, none⟩), .pointer none, .pointer none] 91) (.cells #[.pointer none, .pointer none, .pointer (some ⟨q, oq, none⟩), .pointer none] 91) _ (Below.refl _ _)
  generalize (w.alloc (.cells #[.pointer none, .pointer (some ⟨p, op, none⟩), .pointer none, .pointer none] 91)).alloc (.cells #[.pointer none, .pointer none, .pointer (some ⟨q, oq, none⟩), .pointer none] 91) = w1 at *
  have HE1 := hid hEE
  obtain ⟨z0, z1, z2, z3⟩ := slot4 x1
  obtain ⟨y0, y1, y2, y3⟩ := slot4 x2
  clear x1 x2 hEE
  go_wp2_with fail
  go_ret
  exact ⟨rfl, HE1.out⟩
theorem pee_13 (p op q oq : Nat) (w : World) : Calls Try.prog 58 #[.agg #[.pointer none, .pointer (some ⟨p, op, none⟩), .pointer none, .pointer none], .agg #[.pointer none, .pointer none, .pointer none, .pointer (some ⟨q, oq, none⟩)]] w fun e w' => e = .returned (.bool false) ∧ Ext w w' := by
  go_enter Try.func58, Try.ntmps58
  go_upto_region 1 with fail
  obtain ⟨x1, x2, hEE⟩ := boxes2 w (.cells #[.pointer none, .pointer (some ⟨p, op, none⟩), .pointer none, .pointer none] 91) (.cells #[.pointer none, .pointer none, .pointer none, .pointer (some ⟨q, oq, none⟩)] 91) _ (Below.refl _ _)
  generalize (w.alloc (.cells #[.pointer none, .pointer (some ⟨p, op, none⟩), .pointer none, .pointer none] 91)).alloc (.cells #[.pointer none, .pointer none, .pointer none, .pointer (some ⟨q, oq, none⟩)] 91) = w1 at *
  have HE1 := hid hEE
  obtain ⟨z0, z1, z2, z3⟩ := slot4 x1
  obtain ⟨y0, y1, y2, y3⟩ := slot4 x2
  clear x1 x2 hEE
  go_wp2_with fail
  go_ret
  exact ⟨rfl, HE1.out⟩
theorem pee_20 (p op q oq : Nat) (w : World) : Calls Try.prog 58 #[.agg #[.pointer none, .pointer none, .pointer (some ⟨p, op, none⟩), .pointer none], .agg #[.pointer (some ⟨q, oq, none⟩), .pointer none, .pointer none, .pointer none]] w fun e w' => e = .returned (.bool false) ∧ Ext w w' := by
  go_enter Try.func58, Try.ntmps58
  go_upto_region 1 with fail
  obtain ⟨x1, x2, hEE⟩ := boxes2 w (.cells #[.pointer none, .pointer none, .pointer (some ⟨p, op, none⟩), .pointer none] 91) (.cells #[.pointer (some ⟨q, oq, none⟩), .pointer none, .pointer none, .pointer none] 91) _ (Below.refl _ _)
  generalize (w.alloc (.cells #[.pointer none, .pointer none, .pointer (some ⟨p, op, none⟩), .pointer none] 91)).alloc (.cells #[.pointer (some ⟨q, oq, none⟩), .pointer none, .pointer none, .pointer none] 91) = w1 at *
  have HE1 := hid hEE
  obtain ⟨z0, z1, z2, z3⟩ := slot4 x1
  obtain ⟨y0, y1, y2, y3⟩ := slot4 x2
  clear x1 x2 hEE
  go_wp2_with fail
  go_ret
  exact ⟨rfl, HE1.out⟩
theorem pee_21 (p op q oq : Nat) (w : World) : Calls Try.prog 58 #[.agg #[.pointer none, .pointer none, .pointer (some ⟨p, op, none⟩), .pointer none], .agg #[.pointer none, .pointer (some ⟨q, oq, none⟩), .pointer none, .pointer none]] w fun e w' => e = .returned (.bool false) ∧ Ext w w' := by
  go_enter Try.func58, Try.ntmps58
  go_upto_region 1 with fail
  obtain ⟨x1, x2, hEE⟩ := boxes2 w (.cells #[.pointer none, .pointer none, .pointer (some ⟨p, op, none⟩), .pointer none] 91) (.cells #[.pointer none, .pointer (some ⟨q, oq, none⟩), .pointer none, .pointer none] 91) _ (Below.refl _ _)
  generalize (w.alloc (.cells #[.pointer none, .pointer none, .pointer (some ⟨p, op, none⟩), .pointer none] 91)).alloc (.cells #[.pointer none, .pointer (some ⟨q, oq, none⟩), .pointer none, .pointer none] 91) = w1 at *
  have HE1 := hid hEE
  obtain ⟨z0, z1, z2, z3⟩ := slot4 x1
  obtain ⟨y0, y1, y2, y3⟩ := slot4 x2
  clear x1 x2 hEE
  go_wp2_with fail
  go_ret
  exact ⟨rfl, HE1.out⟩
theorem pee_23 (p op q oq : Nat) (w : World) : Calls Try.prog 58 #[.agg #[.pointer none, .pointer none, .pointer (some ⟨p, op, none⟩), .pointer none], .agg #[.pointer none, .pointer none, .pointer none, .pointer (some ⟨q, oq, none⟩)]] w fun e w' => e = .returned (.bool false) ∧ Ext w w' := by
  go_enter Try.func58, Try.ntmps58
  go_upto_region 1 with fail
  obtain ⟨x1, x2, hEE⟩ := boxes2 w (.cells #[.pointer none, .pointer none, .pointer (some ⟨p, op, none⟩), .pointer none] 91) (.cells #[.pointer none, .pointer none, .pointer none, .pointer (some ⟨q, oq, none⟩)] 91) _ (Below.refl _ _)
  generalize (w.alloc (.cells #[.pointer none, .pointer none, .pointer (some ⟨p, op, none⟩), .pointer none] 91)).alloc (.cells #[.pointer none, .pointer none, .pointer none, .pointer (some ⟨q, oq, none⟩)] 91) = w1 at *
  have HE1 := hid hEE
  obtain ⟨z0, z1, z2, z3⟩ := slot4 x1
  obtain ⟨y0, y1, y2, y3⟩ := slot4 x2
  clear x1 x2 hEE
  go_wp2_with fail
  go_ret
  exact ⟨rfl, HE1.out⟩
theorem pee_30 (p op q oq : Nat) (w : World) : Calls Try.prog 58 #[.agg #[.pointer none, .pointer none, .pointer none, .pointer (some ⟨p, op, none⟩)], .agg #[.pointer (some ⟨q, oq, none⟩), .pointer none, .pointer none, .pointer none]] w fun e w' => e = .returned (.bool false) ∧ Ext w w' := by
  go_enter Try.func58, Try.ntmps58
  go_upto_region 1 with fail
  obtain ⟨x1, x2, hEE⟩ := boxes2 w (.cells #[.pointer none, .pointer none, .pointer none, .pointer (some ⟨p, op, none⟩)] 91) (.cells #[.pointer (some ⟨q, oq, none⟩), .pointer none, .pointer none, .pointer none] 91) _ (Below.refl _ _)
  generalize (w.alloc (.cells #[.pointer none, .pointer none, .pointer none, .pointer (some ⟨p, op, none⟩)] 91)).alloc (.cells #[.pointer (some ⟨q, oq, none⟩), .pointer none, .pointer none, .pointer none] 91) = w1 at *
  have HE1 := hid hEE
  obtain ⟨z0, z1, z2, z3⟩ := slot4 x1
  obtain ⟨y0, y1, y2, y3⟩ := slot4 x2
  clear x1 x2 hEE
  go_wp2_with fail
  go_ret
  exact ⟨rfl, HE1.out⟩
theorem pee_31 (p op q oq : Nat) (w : World) : Calls Try.prog 58 #[.agg #[.pointer none, .pointer none, .pointer none, .pointer (some ⟨p, op, none⟩)], .agg #[.pointer none, .pointer (some ⟨q, oq, none⟩), .pointer none, .pointer none]] w fun e w' => e = .returned (.bool false) ∧ Ext w w' := by
  go_enter Try.func58, Try.ntmps58
  go_upto_region 1 with fail
  obtain ⟨x1, x2, hEE⟩ := boxes2 w (.cells #[.pointer none, .pointer none, .pointer none, .pointer (some ⟨p, op, none⟩)] 91) (.cells #[.pointer none, .pointer (some ⟨q, oq, none⟩), .pointer none, .pointer none] 91) _ (Below.refl _ _)
  generalize (w.alloc (.cells #[.pointer none, .pointer none, .pointer none, .pointer (some ⟨p, op, none⟩)] 91)).alloc (.cells #[.pointer none, .pointer (some ⟨q, oq, none⟩), .pointer none, .pointer none] 91) = w1 at *
  have HE1 := hid hEE
  obtain ⟨z0, z1, z2, z3⟩ := slot4 x1
  obtain ⟨y0, y1, y2, y3⟩ := slot4 x2
  clear x1 x2 hEE
  go_wp2_with fail
  go_ret
  exact ⟨rfl, HE1.out⟩
theorem pee_32 (p op q oq : Nat) (w : World) : Calls Try.prog 58 #[.agg #[.pointer none, .pointer none, .pointer none, .pointer (some ⟨p, op, none⟩)], .agg #[.pointer none, .pointer none, .pointer (some ⟨q, oq, none⟩), .pointer none]] w fun e w' => e = .returned (.bool false) ∧ Ext w w' := by
  go_enter Try.func58, Try.ntmps58
  go_upto_region 1 with fail
  obtain ⟨x1, x2, hEE⟩ := boxes2 w (.cells #[.pointer none, .pointer none, .pointer none, .pointer (some ⟨p, op, none⟩)] 91) (.cells #[.pointer none, .pointer none, .pointer (some ⟨q, oq, none⟩), .pointer none] 91) _ (Below.refl _ _)
  generalize (w.alloc (.cells #[.pointer none, .pointer none, .pointer none, .pointer (some ⟨p, op, none⟩)] 91)).alloc (.cells #[.pointer none, .pointer none, .pointer (some ⟨q, oq, none⟩), .pointer none] 91) = w1 at *
  have HE1 := hid hEE
  obtain ⟨z0, z1, z2, z3⟩ := slot4 x1
  obtain ⟨y0, y1, y2, y3⟩ := slot4 x2
  clear x1 x2 hEE
  go_wp2_with fail
  go_ret
  exact ⟨rfl, HE1.out⟩
theorem pee_00 (p op q oq : Nat) (w : World) (s s' : ByteArray) (hp : w.cell? ⟨p, op, none⟩ = some (.string s)) (hq : w.cell? ⟨q, oq, none⟩ = some (.string s')) :
    Calls Try.prog 58 #[.agg #[.pointer (some ⟨p, op, none⟩), .pointer none, .pointer none, .pointer none], .agg #[.pointer (some ⟨q, oq, none⟩), .pointer none, .pointer none, .pointer none]] w fun e w' => e = .returned (.bool (decide (s = s'))) ∧ Ext w w' := by
  have HP := hid hp
  have HQ := hid hq
  clear hp hq
  go_enter Try.func58, Try.ntmps58
  go_upto_region 1 with fail
  obtain ⟨x1, x2, hEE⟩ := boxes2 w (.cells #[.pointer (some ⟨p, op, none⟩), .pointer none, .pointer none, .pointer none] 91) (.cells #[.pointer (some ⟨q, oq, none⟩), .pointer none, .pointer none, .pointer none] 91) _ (Below.refl _ _)
  generalize (w.alloc (.cells #[.pointer (some ⟨p, op, none⟩), .pointer none, .pointer none, .pointer none] 91)).alloc (.cells #[.pointer (some ⟨q, oq, none⟩), .pointer none, .pointer none, .pointer none] 91) = w1 at *
  have HE1 := hid hEE
  obtain ⟨z0, z1, z2, z3⟩ := slot4 x1
  obtain ⟨y0, y1, y2, y3⟩ := slot4 x2
  clear x1 x2 hEE
  have j1 := HE1.out.cellS HP.out
  have j2 := HE1.out.cellS HQ.out
  go_wp2_with fail
  go_quiet (fail)
  go_wp2_with fail
  go_ret
  exact ⟨congrArg (fun z => Ending.returned (.bool z)) (ba_toList_beq s s'), HE1.out.drewN _⟩
theorem pee_33 (p op q oq : Nat) (w : World) (n n' : Int) (hp : w.cell? ⟨p, op, none⟩ = some (.int .i64 n)) (hq : w.cell? ⟨q, oq, none⟩ = some (.int .i64 n')) :
    Calls Try.prog 58 #[.agg #[.pointer none, .pointer none, .pointer none, .pointer (some ⟨p, op, none⟩)], .agg #[.pointer none, .pointer none, .pointer none, .pointer (some ⟨q, oq, none⟩)]] w fun e w' => e = .returned (.bool (decide (n = n'))) ∧ Ext w w' := by
  have HP := hid hp
  have HQ := hid hq
  clear hp hq
  go_enter Try.func58, Try.ntmps58
  go_upto_region 1 with fail
  obtain ⟨x1, x2, hEE⟩ := boxes2 w (.cells #[.pointer none, .pointer none, .pointer none, .pointer (some ⟨p, op, none⟩)] 91) (.cells #[.pointer none, .pointer none, .pointer none, .pointer (some ⟨q, oq, none⟩)] 91) _ (Below.refl _ _)
  generalize (w.alloc (.cells #[.pointer none, .pointer none, .pointer none, .pointer (some ⟨p, op, none⟩)] 91)).alloc (.cells #[.pointer none, .pointer none, .pointer none, .pointer (some ⟨q, oq, none⟩)] 91) = w1 at *
  have HE1 := hid hEE
  obtain ⟨z0, z1, z2, z3⟩ := slot4 x1
  obtain ⟨y0, y1, y2, y3⟩ := slot4 x2
  clear x1 x2 hEE
  have j1 := HE1.out.cellS HP.out
  have j2 := HE1.out.cellS HQ.out
  go_wp2_with fail
  go_quiet (fail)
  go_wp2_with fail
  go_ret
  exact ⟨congrArg (fun z => Ending.returned (.bool z)) (by by_cases h : n = n' <;> simp [h]), HE1.out.drewN _⟩
theorem pee_11 (p op q oq : Nat) (w : World) (v v' : Value) (a b : List (ByteArray × Tree)) (h1 : RepFs Any w v a) (h2 : RepFs Any w v' b) (hp : w.cell? ⟨p, op, none⟩ = some (v)) (hq : w.cell? ⟨q, oq, none⟩ = some (v')) :
    Calls Try.prog 58 #[.agg #[.pointer none, .pointer (some ⟨p, op, none⟩), .pointer none, .pointer none], .agg #[.pointer none, .pointer (some ⟨q, oq, none⟩), .pointer none, .pointer none]] w fun e w' => e = .returned (.bool (eqFs eqT a b)) ∧ Ext w w' := by
  have H1 := hid h1
  have H2 := hid h2
  obtain ⟨va, vb, vo, vc, rfl, -⟩ := h1
  obtain ⟨va', vb', vo', vc', rfl, -⟩ := h2
  have HP := hid hp
  have HQ := hid hq
  clear hp hq
  go_enter Try.func58, Try.ntmps58
  go_upto_region 1 with fail
  obtain ⟨x1, x2, hEE⟩ := boxes2 w (.cells #[.pointer none, .pointer (some ⟨p, op, none⟩), .pointer none, .pointer none] 91) (.cells #[.pointer none, .pointer (some ⟨q, oq, none⟩), .pointer none, .pointer none] 91) _ (Below.refl _ _)
  generalize (w.alloc (.cells #[.pointer none, .pointer (some ⟨p, op, none⟩), .pointer none, .pointer none] 91)).alloc (.cells #[.pointer none, .pointer (some ⟨q, oq, none⟩), .pointer none, .pointer none] 91) = w1 at *
  have HE1 := hid hEE
  obtain ⟨z0, z1, z2, z3⟩ := slot4 x1
  obtain ⟨y0, y1, y2, y3⟩ := slot4 x2
  clear x1 x2 hEE
  have j1 := HE1.out.cellS HP.out
  have j2 := HE1.out.cellS HQ.out
  go_wp2_with fail
  go_still_tail 8, (by kernel_rfl)
  change wpList _ _ _ _ _ w1.drew
  go_wp2_with (go_at_call 96; refine (fle_any a b _ _ _ (H1.out.ext HE1.out.drew) (H2.out.ext HE1.out.drew)).mono ?_; rintro e w2 ⟨rfl, hE⟩; have HE2 := hid (HE1.out.drew.trans hE); clear hE)
  go_ret
  exact ⟨rfl, HE2.out⟩
theorem pee_22 (p op q oq : Nat) (w : World) (x x' : Value) (a b : Tree) (h1 : RepVal Any w a x) (h2 : RepVal Any w b x') (hp : w.cell? ⟨p, op, none⟩ = some (x)) (hq : w.cell? ⟨q, oq, none⟩ = some (x')) :
    Calls Try.prog 58 #[.agg #[.pointer none, .pointer none, .pointer (some ⟨p, op, none⟩), .pointer none], .agg #[.pointer none, .pointer none, .pointer (some ⟨q, oq, none⟩), .pointer none]] w fun e w' => e = .returned (.bool (eqT a b)) ∧ Ext w w' := by
  have H1 := hid h1
  have H2 := hid h2
  obtain ⟨vb, vv, rfl, -⟩ := h1
  obtain ⟨vb', vv', rfl, -⟩ := h2
  have HP := hid hp
  have HQ := hid hq
  clear hp hq
  go_enter Try.func58, Try.ntmps58
  go_upto_region 1 with fail
  obtain ⟨x1, x2, hEE⟩ := boxes2 w (.cells #[.pointer none, .pointer none, .pointer (some ⟨p, op, none⟩), .pointer none] 91) (.cells #[.pointer none, .pointer none, .pointer (some ⟨q, oq, none⟩), .pointer none] 91) _ (Below.refl _ _)
  generalize (w.alloc (.cells #[.pointer none, .pointer none, .pointer (some ⟨p, op, none⟩), .pointer none] 91)).alloc (.cells #[.pointer none, .pointer none, .pointer (some ⟨q, oq, none⟩), .pointer none] 91) = w1 at *
  have HE1 := hid hEE
  obtain ⟨z0, z1, z2, z3⟩ := slot4 x1
  obtain ⟨y0, y1, y2, y3⟩ := slot4 x2
  clear x1 x2 hEE
  have j1 := HE1.out.cellS HP.out
  have j2 := HE1.out.cellS HQ.out
  go_wp2_with fail
  go_still_tail 8, (by kernel_rfl)
  change wpList _ _ _ _ _ w1.drew
  go_wp2_with (go_at_call 97; refine (Equals_of a b _ (equU a b) _ _ _ (H1.out.ext HE1.out.drew) (H2.out.ext HE1.out.drew)).mono ?_; rintro e w2 ⟨rfl, hE⟩; have HE2 := hid (HE1.out.drew.trans hE); clear hE)
  go_ret
  exact ⟨rfl, HE2.out⟩
theorem pee_any (e1 e2 : El) (c1 c2 : List Value) (w : World) (h1 : RepEl Any w e1 c1) (h2 : RepEl Any w e2 c2) :
    Calls Try.prog 58 #[.agg c1.toArray, .agg c2.toArray] w fun e w' => e = .returned (.bool (eqE e1 e2)) ∧ Ext w w' := by
  obtain ⟨b1, o1, -, r1⟩ := h1
  obtain ⟨b2, o2, -, r2⟩ := h2
  cases e1 <;> cases e2 <;> obtain ⟨rfl, r1⟩ := r1 <;> obtain ⟨rfl, r2⟩ := r2
  · exact pee_00 _ _ _ _ w _ _ r1.1 r2.1
  · exact pee_01 _ _ _ _ w
  · exact pee_02 _ _ _ _ w
  · exact pee_03 _ _ _ _ w
  · exact pee_10 _ _ _ _ w
  · obtain ⟨v, k1, k2⟩ := r1
    obtain ⟨v', k1', k2'⟩ := r2
    exact pee_11 _ _ _ _ w _ _ _ _ k2 k2' k1 k1'
  · exact pee_12 _ _ _ _ w
  · exact pee_13 _ _ _ _ w
  · exact pee_20 _ _ _ _ w
  · exact pee_21 _ _ _ _ w
  · obtain ⟨v, k1, k2⟩ := r1
    obtain ⟨v', k1', k2'⟩ := r2
    exact pee_22 _ _ _ _ w _ _ _ _ k2 k2' k1 k1'
  · exact pee_23 _ _ _ _ w
  · exact pee_30 _ _ _ _ w
  · exact pee_31 _ _ _ _ w
  · exact pee_32 _ _ _ _ w
  · exact pee_33 _ _ _ _ w _ _ r1.1 r2.1
set_option maxHeartbeats 4000000 in
theorem eqElems_any (ea eb : GE) (w : World) (ca cb : List Value) (hA : RepGE Any w ea ca) (hB : RepGE Any w eb cb) :
    Calls Try.prog 19 #[.agg ca.toArray, .agg cb.toArray] w fun e w' => e = .returned (.bool (eqE (toEl ea) (toEl eb))) ∧ Ext w w' := by
  have HA := hid hA
  have HB := hid hB
  obtain ⟨k, s, a1, n1, c1, a2, n2, c2, v0, v1, v2, v3, v4, v5, n, rfl⟩ := hA.form
  obtain ⟨k', s', a1', n1', c1', a2', n2', c2', v0', v1', v2', v3', v4', v5', n', rfl⟩ := hB.form
  clear hA hB
  go_enter Try.func19, Try.ntmps19
  go_upto_region 1 with fail
  obtain ⟨x1, x2, hEE⟩ := boxes2 w (.cells #[.int .i64 k, .string s, .slice a1 n1 c1, .slice a2 n2 c2, v0, v1, v2, v3, v4, v5, .int .i64 n] 34) (.cells #[.int .i64 k', .string s', .slice a1' n1' c1', .slice a2' n2' c2', v0', v1', v2', v3', v4', v5', .int .i64 n'] 34) _ (Below.refl _ _)
  generalize (w.alloc (.cells #[.int .i64 k, .string s, .slice a1 n1 c1, .slice a2 n2 c2, v0, v1, v2, v3, v4, v5, .int .i64 n] 34)).alloc (.cells #[.int .i64 k', .string s', .slice a1' n1' c1', .slice a2' n2' c2', v0', v1', v2', v3', v4', v5', .int .i64 n'] 34) = w1 at *
  have HE1 := hid hEE
  have K := hid (show ∀ w' : World, Ext w1 w' → (fun w' : World => w'.cell? ⟨w.heap.size, 0, none⟩ = some (.int .i64 k) ∧ w'.cell? ⟨w.heap.size, 1, none⟩ = some (.string s) ∧ w'.cell? ⟨w.heap.size, 2, none⟩ = some (.slice a1 n1 c1) ∧ w'.cell? ⟨w.heap.size, 3, none⟩ = some (.slice a2 n2 c2) ∧ w'.cell? ⟨w.heap.size, 4, none⟩ = some (v0) ∧ w'.cell? ⟨w.heap.size, 5, none⟩ = some (v1) ∧ w'.cell? ⟨w.heap.size, 6, none⟩ = some (v2) ∧ w'.cell? ⟨w.heap.size, 7, none⟩ = some (v3) ∧ w'.cell? ⟨w.heap.size, 8, none⟩ = some (v4) ∧ w'.cell? ⟨w.heap.size, 9, none⟩ = some (v5) ∧ w'.cell? ⟨w.heap.size, 10, none⟩ = some (.int .i64 n) ∧ w'.cell? ⟨w.heap.size + 1, 0, none⟩ = some (.int .i64 k') ∧ w'.cell? ⟨w.heap.size + 1, 1, none⟩ = some (.string s') ∧ w'.cell? ⟨w.heap.size + 1, 2, none⟩ = some (.slice a1' n1' c1') ∧ w'.cell? ⟨w.heap.size + 1, 3, none⟩ = some (.slice a2' n2' c2') ∧ w'.cell? ⟨w.heap.size + 1, 4, none⟩ = some (v0') ∧ w'.cell? ⟨w.heap.size + 1, 5, none⟩ = some (v1') ∧ w'.cell? ⟨w.heap.size + 1, 6, none⟩ = some (v2') ∧ w'.cell? ⟨w.heap.size + 1, 7, none⟩ = some (v3') ∧ w'.cell? ⟨w.heap.size + 1, 8, none⟩ = some (v4') ∧ w'.cell? ⟨w.heap.size + 1, 9, none⟩ = some (v5') ∧ w'.cell? ⟨w.heap.size + 1, 10, none⟩ = some (.int .i64 n')) w' from fun w' h => by
    obtain ⟨⟨z0, z1, z2, z3, z4, z5, z6, z7, z8, z9, z10⟩, -⟩ := slot11 (h.block x1)
    obtain ⟨⟨y0, y1, y2, y3, y4, y5, y6, y7, y8, y9, y10⟩, -⟩ := slot11 (h.block x2)
    exact ⟨z0, z1, z2, z3, z4, z5, z6, z7, z8, z9, z10, y0, y1, y2, y3, y4, y5, y6, y7, y8, y9, y10⟩)
  clear x1 x2 hEE
  go_region_held3 (fun w' : World => w'.cell? ⟨w.heap.size, 0, none⟩ = some (.int .i64 k) ∧ w'.cell? ⟨w.heap.size, 1, none⟩ = some (.string s) ∧ w'.cell? ⟨w.heap.size, 2, none⟩ = some (.slice a1 n1 c1) ∧ w'.cell? ⟨w.heap.size, 3, none⟩ = some (.slice a2 n2 c2) ∧ w'.cell? ⟨w.heap.size, 4, none⟩ = some (v0) ∧ w'.cell? ⟨w.heap.size, 5, none⟩ = some (v1) ∧ w'.cell? ⟨w.heap.size, 6, none⟩ = some (v2) ∧ w'.cell? ⟨w.heap.size, 7, none⟩ = some (v3) ∧ w'.cell? ⟨w.heap.size, 8, none⟩ = some (v4) ∧ w'.cell? ⟨w.heap.size, 9, none⟩ = some (v5) ∧ w'.cell? ⟨w.heap.size, 10, none⟩ = some (.int .i64 n) ∧ w'.cell? ⟨w.heap.size + 1, 0, none⟩ = some (.int .i64 k') ∧ w'.cell? ⟨w.heap.size + 1, 1, none⟩ = some (.string s') ∧ w'.cell? ⟨w.heap.size + 1, 2, none⟩ = some (.slice a1' n1' c1') ∧ w'.cell? ⟨w.heap.size + 1, 3, none⟩ = some (.slice a2' n2' c2') ∧ w'.cell? ⟨w.heap.size + 1, 4, none⟩ = some (v0') ∧ w'.cell? ⟨w.heap.size + 1, 5, none⟩ = some (v1') ∧ w'.cell? ⟨w.heap.size + 1, 6, none⟩ = some (v2') ∧ w'.cell? ⟨w.heap.size + 1, 7, none⟩ = some (v3') ∧ w'.cell? ⟨w.heap.size + 1, 8, none⟩ = some (v4') ∧ w'.cell? ⟨w.heap.size + 1, 9, none⟩ = some (v5') ∧ w'.cell? ⟨w.heap.size + 1, 10, none⟩ = some (.int .i64 n'))
    (first | with_reducible exact K.out _ HE7.out | with_reducible exact K.out _ HE6.out | with_reducible exact K.out _ HE5.out | with_reducible exact K.out _ (Ext.refl w1).drew)
    (first
      | (go_at_call_of 57 k; refine (toElem_any ea _ _ (HA.out.ext HE1.out.drew)).mono ?_; rintro e w5 ⟨cs1, rfl, hV, hE⟩; have HE5 := hid ((Ext.refl w1).drew.trans hE); obtain ⟨p0, p1, p2, p3, rfl⟩ := hV.form; have HV1 := hid (hV.weak (S' := Any) (fun _ _ _ => trivial)); clear hE hV)
      | (go_at_call_of 57 k'; refine (toElem_any eb _ _ (HB.out.ext (HE1.out.trans HE5.out))).mono ?_; rintro e w6 ⟨cs2, rfl, hV, hE⟩; have HE56 := hid hE; have HE6 := hid (HE5.out.trans hE); obtain ⟨p4, p5, p6, p7, rfl⟩ := hV.form; have HV2 := hid (hV.weak (S' := Any) (fun _ _ _ => trivial)); clear hE hV)
      | (go_at_call 58; refine (pee_any _ _ _ _ _ (HV1.out.ext HE56.out) HV2.out).mono ?_; rintro e w7 ⟨rfl, hE⟩; have HE7 := hid (HE6.out.trans hE); clear hE))
  all_goals
    go_wp2_with fail
    go_ret
    exact ⟨rfl, HE1.out.trans HE7.out⟩
end Go.Proofs.Ytempfaefopfobaa
end

/- Path: paths of the package; Path.Compare, Path.Equals. -/
section
set_option maxRecDepth 100000
namespace Go.Proofs.Ytempfaefopfobaa
open Go.ChangeShapes Go.WideShapes Go.ChangeAt Go.RowKit
set_option linter.unusedVariables false
set_option linter.unusedSimpArgs false

/-- a path of the package -/
def RepPath (S : Nat → Prop) (w : World) (v : Value) (p : List El) : Prop :=
  ∃ a b o cap, v = .slice a p.length cap ∧ p.length ≤ cap ∧ p.length * 168 ≤ 140737488351232 ∧ (0 < p.length → a = some ⟨b, o, none⟩ ∧ S b) ∧
    ∀ (i : Nat) (e : El), p[i]? = some e → ∃ c0 c1 c2 c3, cellsAt w b (o + i * 4) [c0, c1, c2, c3] ∧ RepEl S w e [c0, c1, c2, c3]
theorem cells4 {w : World} {b o : Nat} {c0 c1 c2 c3 : Value} (h : cellsAt w b o [c0, c1, c2, c3]) :
    w.cell? ⟨b, o, none⟩ = some c0 ∧ w.cell? ⟨b, o + 1, none⟩ = some c1 ∧ w.cell? ⟨b, o + 2, none⟩ = some c2 ∧ w.cell? ⟨b, o + 3, none⟩ = some c3 := ⟨by simpa using h 0 c0 rfl, h 1 c1 rfl, h 2 c2 rfl, h 3 c3 rfl⟩
theorem cellsAt_same {S : Nat → Prop} {w w' : World} (h : Same S w w') {b o : Nat} (hb : S b) {cs : List Value} (hc : cellsAt w b o cs) : cellsAt w' b o cs := fun j v hv => h.cell hb (hc j v hv)
theorem RepPath.mono {S S' : Nat → Prop} {w w' : World} (h : Same S w w') (hS : ∀ b, S b → b < w.heap.size → S' b) {v : Value} {p : List El} : RepPath S w v p → RepPath S' w' v p := by
  rintro ⟨a, b, o, cap, h1, h2, h3, h4, h5⟩
  have hpos : ∀ i e, p[i]? = some e → 0 < p.length := fun i s hs => by have := (List.getElem?_eq_some_iff.1 hs).1; omega
  refine ⟨a, b, o, cap, h1, h2, h3, fun h0 => ⟨(h4 h0).1, hS _ (h4 h0).2 ?_⟩, fun i e he => ?_⟩
  · obtain ⟨c0, c1, c2, c3, k1, -⟩ := h5 0 _ (List.getElem?_eq_getElem h0)
    exact World.block_lt_of_cell? w _ (cells4 k1).1
  · obtain ⟨c0, c1, c2, c3, k1, k2⟩ := h5 i e he
    exact ⟨c0, c1, c2, c3, cellsAt_same h (h4 (hpos i e he)).2 k1, k2.mono h hS⟩
theorem RepPath.ext {S : Nat → Prop} {w w' : World} (h : Ext w w') {v : Value} {p : List El} (hr : RepPath S w v p) : RepPath S w' v p := hr.mono (h.same S) (fun _ h _ => h)
theorem RepPath.weak {S S' : Nat → Prop} {w : World} (hS : ∀ b, S b → b < w.heap.size → S' b) {v : Value} {p : List El} (hr : RepPath S w v p) : RepPath S' w v p := hr.mono (Same.refl S w) hS
theorem RepPath.form {S : Nat → Prop} {w : World} {v : Value} {p : List El} (h : RepPath S w v p) : ∃ a c, v = .slice a p.length c := by
  obtain ⟨a, b, o, c, h, -⟩ := h
  exact ⟨_, _, h⟩
/-- the order of paths -/
noncomputable def cmpP : List El → List El → Int
  | [], [] => 0
  | [], _ :: _ => -1
  | _ :: _, [] => 1
  | a :: x, b :: y => if cmpE a b = 0 then cmpP x y else cmpE a b
noncomputable def eqP : List El → List El → Bool
  | [], [] => true
  | a :: x, b :: y => eqE a b && eqP x y
  | _, _ => false
theorem cmpP_step {l1 l2 : List El} {k : Nat} {p q : El} (h1 : l1[k]? = some p) (h2 : l2[k]? = some q) : cmpP (l1.drop k) (l2.drop k) = if cmpE p q = 0 then cmpP (l1.drop (k + 1)) (l2.drop (k + 1)) else cmpE p q := by
  obtain ⟨h3, rfl⟩ := List.getElem?_eq_some_iff.1 h1
  obtain ⟨h4, rfl⟩ := List.getElem?_eq_some_iff.1 h2
  rw [List.drop_eq_getElem_cons h3, List.drop_eq_getElem_cons h4]
  rfl
theorem cmpP_l {l1 l2 : List El} {k : Nat} (h1 : l1.length ≤ k) (h2 : k < l2.length) : cmpP (l1.drop k) (l2.drop k) = -1 := by
  rw [List.drop_eq_nil_of_le h1, List.drop_eq_getElem_cons h2]; rfl
theorem cmpP_r {l1 l2 : List El} {k : Nat} (h1 : k < l1.length) (h2 : l2.length ≤ k) : cmpP (l1.drop k) (l2.drop k) = 1 := by
  rw [List.drop_eq_nil_of_le h2, List.drop_eq_getElem_cons h1]; rfl
theorem cmpP_n {l1 l2 : List El} {k : Nat} (h1 : l1.length ≤ k) (h2 : l2.length ≤ k) : cmpP (l1.drop k) (l2.drop k) = 0 := by
  rw [List.drop_eq_nil_of_le h1, List.drop_eq_nil_of_le h2]; rfl
theorem eqP_step {l1 l2 : List El} {k : Nat} {p q : El} (h1 : l1[k]? = some p) (h2 : l2[k]? = some q) : eqP (l1.drop k) (l2.drop k) = (eqE p q && eqP (l1.drop (k + 1)) (l2.drop (k + 1))) := by
  obtain ⟨h3, rfl⟩ := List.getElem?_eq_some_iff.1 h1
  obtain ⟨h4, rfl⟩ := List.getElem?_eq_some_iff.1 h2
  rw [List.drop_eq_getElem_cons h3, List.drop_eq_getElem_cons h4]
  rfl
theorem eqP_len : ∀ {l1 l2 : List El}, l1.length ≠ l2.length → eqP l1 l2 = false
  | [], [], h => absurd rfl h
  | [], _ :: _, _ => rfl
  | _ :: _, [], _ => rfl
  | p :: x, q :: y, h => by
    unfold eqP
    rw [eqP_len (l1 := x) (l2 := y) (by simpa using h), Bool.and_false]
set_option maxHeartbeats 4000000 in
theorem pcmp_any (a b : List El) (v1 v2 : Value) (w : World) (h1 : RepPath Any w v1 a) (h2 : RepPath Any w v2 b) :
    Calls Try.prog 47 #[v1, v2] w fun e w' => e = .returned (.int .i64 (cmpP a b)) ∧ Ext w w' := by
  obtain ⟨a1, b1, o1, c1, rfl, l1, s1, p1, at1⟩ := h1
  obtain ⟨a2, b2, o2, c2, rfl, l2, s2, p2, at2⟩ := h2
  have HP1 := hid p1
  have HP2 := hid p2
  have HA1 := hid at1
  have HA2 := hid at2
  clear p1 p2 at1 at2
  go_enter Try.func47, Try.ntmps47
  go_wp2_with fail
  go_loopw [5] (fun i wr => ∃ k : Nat, i = .int .i64 k ∧ k ≤ a.length ∧ k ≤ b.length ∧ Hid (cmpP (a.drop k) (b.drop k) = cmpP a b) ∧ Hid (Ext w wr)) (fun i _ => a.length - (intOf i).toNat)
  case atStart => exact ⟨0, rfl, Nat.zero_le _, Nat.zero_le _, hid rfl, hid (Ext.refl _)⟩
  case round =>
    obtain ⟨k, rfl, hk1, hk2, HC, HE⟩ := hrel
    by_cases h1 : k < a.length
    · by_cases h2 : k < b.length
      · obtain ⟨p, hp⟩ : ∃ p, a[k]? = some p := ⟨_, List.getElem?_eq_getElem h1⟩
        obtain ⟨q, hq⟩ : ∃ q, b[k]? = some q := ⟨_, List.getElem?_eq_getElem h2⟩
        obtain ⟨rfl, -⟩ := HP1.out (by omega)
        obtain ⟨rfl, -⟩ := HP2.out (by omega)
        obtain ⟨x0, x1, x2, x3, kc1, hv1⟩ := HA1.out k p hp
        obtain ⟨y0, y1, y2, y3, kc2, hv2⟩ := HA2.out k q hq
        obtain ⟨j0, j1, j2, j3⟩ := cells4 (cellsAt_ext HE.out kc1)
        obtain ⟨i0, i1, i2, i3⟩ := cells4 (cellsAt_ext HE.out kc2)
        have hst := cmpP_step hp hq
        rw [HC.out] at hst
        obtain ⟨z, hz⟩ : ∃ z, cmpE p q = z := ⟨_, rfl⟩
        have HCU := hid (fun W (E : Ext w W) => pec_any p q _ _ W (hv1.ext E) (hv2.ext E))
        rw [hz] at HCU hst
        have HST := hid hst
        have hi0 : (0 : Int) ≤ (k : Int) := by omega
        have hi1 : (k : Int) < (a.length : Int) := by omega
        have hi2 : (k : Int) < (b.length : Int) := by omega
        clear hst hp hq kc1 kc2 hv1 hv2 hz
        by_cases hz : z = 0
        · subst hz
          go_wp2_with fail
          go_still_tail 8, (by kernel_rfl)
          change wpList _ _ _ _ _ wr.drew
          go_wp2_with (go_at_call 92; refine (HCU.out _ HE.out.drew).mono ?_; rintro e w3 ⟨rfl, hE⟩; have HE3 := hid (HE.out.drew.trans hE); clear hE)
          exact ⟨⟨k + 1, by go_num, by omega, by omega, hid (by have h := HST.out; simpa using h.symm), HE3⟩, by simp [intOf]; omega⟩
        · have hd : (z != 0) = true := by simp [bne, hz]
          have RES := hid (show z = cmpP a b by rw [HST.out, if_neg hz])
          clear hz
          go_wp2_with fail
          go_still_tail 8, (by kernel_rfl)
          change wpList _ _ _ _ _ wr.drew
          go_wp2_with (go_at_call 92; refine (HCU.out _ HE.out.drew).mono ?_; rintro e w3 ⟨rfl, hE⟩; have HE3 := hid (HE.out.drew.trans hE); clear hE)
          go_ret
          exact ⟨congrArg (fun z => Ending.returned (.int .i64 z)) RES.out, HE3.out⟩
      · have RES := hid (show (1 : Int) = cmpP a b by rw [← HC.out, cmpP_r h1 (by omega)])
        go_wp2_with fail
        go_ret
        exact ⟨congrArg (fun z => Ending.returned (.int .i64 z)) RES.out, HE.out⟩
    · by_cases h2 : k < b.length
      · have RES := hid (show (-1 : Int) = cmpP a b by rw [← HC.out, cmpP_l (by omega) h2])
        go_wp2_with fail
        go_ret
        exact ⟨congrArg (fun z => Ending.returned (.int .i64 z)) RES.out, HE.out⟩
      · have RES := hid (show (0 : Int) = cmpP a b by rw [← HC.out, cmpP_n (by omega) (by omega)])
        go_wp2_with fail
        go_ret
        exact ⟨congrArg (fun z => Ending.returned (.int .i64 z)) RES.out, HE.out⟩
set_option maxHeartbeats 4000000 in
theorem pequ_any (a b : List El) (v1 v2 : Value) (w : World) (h1 : RepPath Any w v1 a) (h2 : RepPath Any w v2 b) :
    Calls Try.prog 48 #[v1, v2] w fun e w' => e = .returned (.bool (eqP a b)) ∧ Ext w w' := by
  obtain ⟨a1, b1, o1, c1, rfl, l1, s1, p1, at1⟩ := h1
  obtain ⟨a2, b2, o2, c2, rfl, l2, s2, p2, at2⟩ := h2
  by_cases hlen : a.length = b.length
  · have HP1 := hid p1
    have HP2 := hid p2
    have HA1 := hid at1
    have HA2 := hid at2
    have HLN := hid hlen
    clear p1 p2 at1 at2
    rw [← hlen] at HP2 ⊢
    clear hlen
    go_enter Try.func48, Try.ntmps48
    go_wp2_with fail
    go_loopw [13] (fun i wr => ∃ k : Nat, i = .int .i64 k ∧ k ≤ a.length ∧ Hid (eqP (a.drop k) (b.drop k) = eqP a b) ∧ Hid (Ext w wr)) (fun i _ => a.length - (intOf i).toNat)
    case atStart => exact ⟨0, rfl, Nat.zero_le _, hid rfl, hid (Ext.refl _)⟩
    case round =>
      obtain ⟨k, rfl, hk1, HC, HE⟩ := hrel
      by_cases h1 : k < a.length
      · obtain ⟨p, hp⟩ : ∃ p, a[k]? = some p := ⟨_, List.getElem?_eq_getElem h1⟩
        obtain ⟨q, hq⟩ : ∃ q, b[k]? = some q := ⟨_, List.getElem?_eq_getElem (by have := HLN.out; omega)⟩
        obtain ⟨rfl, -⟩ := HP1.out (by omega)
        obtain ⟨rfl, -⟩ := HP2.out (by omega)
        obtain ⟨x0, x1, x2, x3, kc1, hv1⟩ := HA1.out k p hp
        obtain ⟨y0, y1, y2, y3, kc2, hv2⟩ := HA2.out k q hq
        obtain ⟨j0, j1, j2, j3⟩ := cells4 (cellsAt_ext HE.out kc1)
        obtain ⟨i0, i1, i2, i3⟩ := cells4 (cellsAt_ext HE.out kc2)
        have hst := eqP_step hp hq
        rw [HC.out] at hst
        obtain ⟨z, hz⟩ : ∃ z, eqE p q = z := ⟨_, rfl⟩
        have HCU := hid (fun W (E : Ext w W) => pee_any p q _ _ W (hv1.ext E) (hv2.ext E))
        rw [hz] at HCU hst
        have HST := hid hst
        have hi0 : (0 : Int) ≤ (k : Int) := by omega
        have hi1 : (k : Int) < (a.length : Int) := by omega
        clear hst hp hq kc1 kc2 hv1 hv2 hz
        cases z
        all_goals
          go_wp2_with fail
          go_still_tail 8, (by kernel_rfl)
          change wpList _ _ _ _ _ wr.drew
          go_wp2_with (go_at_call 58; refine (HCU.out _ HE.out.drew).mono ?_; rintro e w3 ⟨rfl, hE⟩; have HE3 := hid (HE.out.drew.trans hE); clear hE)
        · go_ret
          exact ⟨congrArg (fun z => Ending.returned (.bool z)) (show false = eqP a b by rw [HST.out]; rfl), HE3.out⟩
        · exact ⟨⟨k + 1, by go_num, by omega, hid (by rw [HST.out]; rfl), HE3⟩, by simp [intOf]; omega⟩
      · have RES := hid (show true = eqP a b by rw [← HC.out, List.drop_eq_nil_of_le (by omega), List.drop_eq_nil_of_le (by have := HLN.out; omega)]; rfl)
        go_wp2_with fail
        go_ret
        exact ⟨congrArg (fun z => Ending.returned (.bool z)) RES.out, HE.out⟩
  · rw [eqP_len hlen]
    have hd : ((a.length : Int) != (b.length : Int)) = true := by simp; omega
    clear p1 p2 at1 at2
    go_enter Try.func48, Try.ntmps48
    go_wp2_with fail
    go_ret
    exact ⟨rfl, Ext.refl w⟩
end Go.Proofs.Ytempfaefopfobaa
end

/- Refl: in plain Lean: a tree compares with itself as equal, and equals itself if it holds no NaN; a list and a beginning of it. -/
section
set_option maxRecDepth 100000
namespace Go.Proofs.Ytempfaefopfobaa
open Go.ChangeShapes Go.WideShapes Go.ChangeAt Go.RowKit
set_option linter.unusedVariables false
set_option linter.unusedSimpArgs false

/-- no NaN in it -/
inductive NoNaN : Tree → Prop
  | null : NoNaN .null
  | bool (b : Bool) : NoNaN (.bool b)
  | int (n : Int) : NoNaN (.int n)
  | flt (f : Nat) (h : feq f f = true) : NoNaN (.flt f)
  | str (s : ByteArray) : NoNaN (.str s)
  | list (l : List Tree) (h : ∀ t ∈ l, NoNaN t) : NoNaN (.list l)
  | map (m : List (ByteArray × Tree)) (h : ∀ p ∈ m, NoNaN p.2) : NoNaN (.map m)
theorem nonan_plain : ∀ (N : Nat) (g : GV), SizeOf.sizeOf g ≤ N → ordG g = true → NoNaN (plainT g)
  | 0, g, h, _ => by cases g; simp at h
  | N + 1, .mk k n f s ks l, h, ho => by
    have hl : ordGs l = true → ∀ t ∈ plainTs l, NoNaN t := by
      intro hol t ht
      obtain ⟨j, hj⟩ := List.mem_iff_getElem?.1 ht
      obtain ⟨g, hg, rfl⟩ := plainTs_get hj
      rw [ordGs_eq, List.all_eq_true] at hol
      exact nonan_plain N g (by have := GV.size_mk k n f s ks l hg; omega) (hol g (List.mem_of_getElem? hg))
    unfold ordG at ho
    unfold plainT
    by_cases h1 : k = 1
    · rw [if_pos h1]; exact .bool _
    rw [if_neg h1]
    by_cases h2 : k = 2
    · rw [if_pos h2]; exact .int _
    rw [if_neg h2] at ho ⊢
    by_cases h3 : k = 3
    · rw [if_pos h3] at ho ⊢; exact .flt _ ho
    rw [if_neg h3] at ho ⊢
    by_cases h4 : k = 4
    · rw [if_pos h4]; exact .str _
    rw [if_neg h4]
    by_cases h5 : k = 5
    · rw [if_pos h5] at ho ⊢; exact .list _ (hl ho)
    rw [if_neg h5] at ho ⊢
    by_cases h6 : k = 6
    · rw [if_pos h6] at ho ⊢
      refine .map _ (fold_all _ _ (by simp) fun p hp => hl ho p.2 ?_)
      exact (List.of_mem_zip (by simpa using hp : (p.1, p.2) ∈ ks.zip (plainTs l))).2
    · rw [if_neg h6]; exact .null
theorem noNaN {g : GV} (h : ordG g = true) : NoNaN (plainT g) := nonan_plain _ g (Nat.le_refl _) h

theorem datum_refl (d : Ieee.Datum) : d.order d = none ∨ d.order d = some .eq := by
  cases d <;> first | (right; simp [Ieee.Datum.order]; done) | exact .inl rfl
theorem fcmp_refl (f : Nat) : fcmp f f = 0 := by
  unfold fcmp
  have : FloatKind.f64.format.order f f = none ∨ FloatKind.f64.format.order f f = some .eq := datum_refl _
  rcases this with h | h <;> rw [h] <;> rfl
theorem icmp_refl (n : Int) : icmp n n = 0 := by unfold icmp; rw [if_neg (Int.lt_irrefl _), if_neg (Int.lt_irrefl _)]
theorem bcmp_refl (b : Bool) : bcmp b b = 0 := by cases b <;> rfl
theorem cmpLs_refl {z : Tree → Tree → Int} : ∀ {l : List Tree}, (∀ t ∈ l, z t t = 0) → cmpLs z l l = 0
  | [], _ => rfl
  | a :: l, h => by
    unfold cmpLs
    rw [if_pos (h a (by simp)), cmpLs_refl fun t ht => h t (by simp [ht])]
theorem cmpFs_refl {z : Tree → Tree → Int} : ∀ {l : List (ByteArray × Tree)}, (∀ p ∈ l, z p.2 p.2 = 0) → cmpFs z l l = 0
  | [], _ => rfl
  | p :: l, h => by
    unfold cmpFs
    rw [blt_irrefl, if_neg (by simp), if_neg (by simp), if_pos (h p (by simp)), cmpFs_refl fun t ht => h t (by simp [ht])]
theorem cmpT_refl : ∀ (N : Nat) (t : Tree), SizeOf.sizeOf t ≤ N → WfT t → cmpT t t = 0
  | 0, t, h, _ => by have := t.size_pos; omega
  | N + 1, t, h, w => by
    cases w with
    | null => exact cmpT_null_null
    | bool b => rw [cmpT_bool_bool]; exact bcmp_refl b
    | int n => rw [cmpT_int_int]; exact icmp_refl n
    | flt f => rw [cmpT_flt_flt]; exact fcmp_refl f
    | str s => rw [cmpT_str_str]; exact scmp_refl s
    | list l hl =>
      rw [cmpT_list]
      exact cmpLs_refl fun t ht => cmpT_refl N t (by have := Tree.mem_list ht; omega) (hl t ht)
    | map m hn hm =>
      rw [cmpT_map, cmpMs_eq cmpT hn hn]
      exact cmpFs_refl fun p hp => cmpT_refl N p.2 (by have := Tree.size_map (k := p.1) (t := p.2) (srt_mem hp); omega) (hm p (srt_mem hp))
theorem cmp_self {t : Tree} (h : WfT t) : cmpT t t = 0 := cmpT_refl _ t (Nat.le_refl _) h
theorem lookKV_of {m : List (ByteArray × Tree)} (hn : (m.map (·.1)).Nodup) {p : ByteArray × Tree} (hp : p ∈ m) : lookKV m p.1 = some p.2 := by
  induction m with
  | nil => simp at hp
  | cons q m ih =>
    rw [List.map_cons, List.nodup_cons] at hn
    unfold lookKV
    rcases List.mem_cons.1 hp with rfl | hp
    · rw [if_pos rfl]
    · rw [if_neg (fun e => hn.1 (by rw [e]; exact List.mem_map_of_mem hp)), ih hn.2 hp]
theorem eqLs_refl {z : Tree → Tree → Bool} : ∀ {l : List Tree}, (∀ t ∈ l, z t t = true) → eqLs z l l = true
  | [], _ => rfl
  | a :: l, h => by
    unfold eqLs
    rw [h a (by simp), eqLs_refl fun t ht => h t (by simp [ht])]; rfl
theorem eqT_refl : ∀ (N : Nat) (t : Tree), SizeOf.sizeOf t ≤ N → WfT t → NoNaN t → eqT t t = true
  | 0, t, h, _, _ => by have := t.size_pos; omega
  | N + 1, t, h, w, o => by
    cases w with
    | null => exact eqT_null_null
    | bool b => rw [eqT_bool_bool]; simp
    | int n => rw [eqT_int_int]; simp
    | flt f => cases o with | flt _ h => rw [eqT_flt_flt]; exact h
    | str s => rw [eqT_str_str]; simp
    | list l hl =>
      cases o with
      | list _ ho =>
        rw [eqT_list]
        exact eqLs_refl fun t ht => eqT_refl N t (by have := Tree.mem_list ht; omega) (hl t ht) (ho t ht)
    | map m hn hm =>
      cases o with
      | map _ ho =>
        rw [eqT_map]
        unfold eqMs
        rw [decide_eq_true rfl, Bool.true_and, List.all_eq_true]
        intro p hp
        have e : eqOne eqT m p = eqT p.2 p.2 := by unfold eqOne; rw [lookKV_of hn hp]
        rw [e]
        exact eqT_refl N p.2 (by have := Tree.size_map (k := p.1) (t := p.2) hp; omega) (hm p hp) (ho p hp)
theorem eq_self {t : Tree} (h : WfT t) (o : NoNaN t) : eqT t t = true := eqT_refl _ t (Nat.le_refl _) h o
theorem cmpLs_shorter {z : Tree → Tree → Int} : ∀ {l r : List Tree}, (∀ t ∈ l, z t t = 0) → r ≠ [] → cmpLs z l (l ++ r) = -1 ∧ cmpLs z (l ++ r) l = 1
  | [], [], _, h => absurd rfl h
  | [], _ :: _, _, _ => ⟨rfl, rfl⟩
  | a :: l, r, h, hr => by
    have := cmpLs_shorter (z := z) (l := l) (r := r) (fun t ht => h t (by simp [ht])) hr
    simp only [List.cons_append, cmpLs]
    rw [if_pos (h a (by simp)), if_pos (h a (by simp))]
    exact this
end Go.Proofs.Ytempfaefopfobaa
end

/- StrBig: spec.CompareStrings of strings of whatever length. -/
section
set_option maxRecDepth 100000
namespace Go.Proofs.Ytempfaefopfobaa
open Go.ChangeShapes Go.WideShapes Go.ChangeAt Go.RowKit
set_option linter.unusedVariables false
set_option linter.unusedSimpArgs false

set_option maxRecDepth 100000 in
set_option maxHeartbeats 2000000 in
theorem specStr_big (a b : ByteArray) (w : World) (hs : a.size ≤ 140737488351232) : Calls Try.prog 70 #[.string a, .string b] w fun e w' => e = .returned (.int .i64 (scmp a b)) ∧ Ext w w' := by
  have hsz := hid hs
  go_enter Try.func70, Try.ntmps70
  go_wp2_with fail
  go_loopw [5] (fun i wr => ∃ k : Nat, i = .int .i64 k ∧ k ≤ a.size ∧ k ≤ b.size ∧ Hid (Lib.compareBytes (a.data.toList.drop k) (b.data.toList.drop k) = scmp a b) ∧ Hid (Ext w wr)) (fun i _ => a.size - (intOf i).toNat)
  case atStart => exact ⟨0, rfl, Nat.zero_le _, Nat.zero_le _, hid rfl, hid (Ext.refl _)⟩
  case round =>
    obtain ⟨k, rfl, hka, hkb, hC, hE⟩ := hrel
    by_cases h1 : k < a.size
    · by_cases h2 : k < b.size
      · have g1 : (k : Int) < (a.size : Int) := by omega
        have g2 : (k : Int) < (b.size : Int) := by omega
        have e1 : a.data.toList[k]? = some a[k] := by simp [h1]; rfl
        have e2 : b.data.toList[k]? = some b[k] := by simp [h2]; rfl
        have hst := cb_step e1 e2
        rw [hC.out] at hst
        have HST := hid hst
        clear hst e1 e2
        by_cases hab : a[k] = b[k]
        · have hd : ((a[k].toNat : Int) != (b[k].toNat : Int)) = false := by rw [hab]; simp
          have HN := hid (show scmp a b = Lib.compareBytes (a.data.toList.drop (k + 1)) (b.data.toList.drop (k + 1)) from by
            have := HST.out
            rw [hab] at this
            simpa [UInt8.lt_irrefl] using this)
          clear hab
          go_upto_region 4 with fail
          go_quiet (fail)
          go_wp2_with fail
          go_roundw
          case rel => exact ⟨k + 1, by go_num, by omega, by omega, hid HN.out.symm, hid (hE.out.drewN _)⟩
          case measure => simp [intOf]; omega
        · have hd : ((a[k].toNat : Int) != (b[k].toNat : Int)) = true := by
            simp only [bne_iff_ne, ne_eq]
            intro e
            exact hab (UInt8.toNat_inj.1 (by omega))
          have HN := hid (show scmp a b = icmp (a[k].toNat : Int) (b[k].toNat : Int) from by
            have h := HST.out
            unfold icmp
            rw [h]
            by_cases c1 : a[k] < b[k]
            · rw [if_pos c1, if_pos (by have := UInt8.lt_iff_toNat_lt.1 c1; omega)]
            · have c2 : b[k] < a[k] := UInt8.lt_of_le_of_ne (UInt8.not_lt.1 c1) (fun e => hab e.symm)
              rw [if_neg c1, if_pos c2, if_neg (by have := UInt8.lt_iff_toNat_lt.1 c2; omega), if_pos (by have := UInt8.lt_iff_toNat_lt.1 c2; omega)])
          clear hab
          go_upto_region 4 with fail
          go_quiet (fail)
          go_upto_region 5 with fail
          go_region_held3 (fun _ => True) (exact trivial) (first | (go_at_call 103; refine (ints_any _ _ _).mono ?_; rintro e w' ⟨rfl, rfl⟩))
          all_goals
            go_wp2_with fail
            go_ret
            exact ⟨congrArg (fun z => Ending.returned (.int .i64 z)) (show icmp (IntKind.i64.wrap (a[k].toNat : Int)) (IntKind.i64.wrap (b[k].toNat : Int)) = scmp a b from by rw [HN.out, wrap_u8, wrap_u8]), hE.out.drewN _⟩
      · have g1 : (k : Int) < (a.size : Int) := by omega
        have g2 : ¬ (k : Int) < (b.size : Int) := by omega
        have he := cb_end (x := a.data.toList) (y := b.data.toList) (i := k) (.inr (by simp; show b.size ≤ k; omega)) (by simpa using hka) (by simpa using hkb)
        rw [hC.out] at he
        have hl : icmp (a.data.toList.length : Int) (b.data.toList.length : Int) = icmp (a.size : Int) (b.size : Int) := by simp
        rw [hl] at he
        have HN := hid he
        clear he hl
        go_wp2_with (go_at_call 103; refine (ints_any _ _ _).mono ?_; rintro e w2 ⟨rfl, rfl⟩)
        go_ret
        exact ⟨congrArg (fun z => Ending.returned (.int .i64 z)) (show icmp (a.size : Int) (b.size : Int) = scmp a b from HN.out.symm), hE.out⟩
    · have g1 : ¬ (k : Int) < (a.size : Int) := by omega
      have he := cb_end (x := a.data.toList) (y := b.data.toList) (i := k) (.inl (by simp; show a.size ≤ k; omega)) (by simpa using hka) (by simpa using hkb)
      rw [hC.out] at he
      have hl : icmp (a.data.toList.length : Int) (b.data.toList.length : Int) = icmp (a.size : Int) (b.size : Int) := by simp
      rw [hl] at he
      have HN := hid he
      clear he hl
      go_wp2_with (go_at_call 103; refine (ints_any _ _ _).mono ?_; rintro e w2 ⟨rfl, rfl⟩)
      go_ret
      exact ⟨congrArg (fun z => Ending.returned (.int .i64 z)) (show icmp (a.size : Int) (b.size : Int) = scmp a b from HN.out.symm), hE.out⟩

end Go.Proofs.Ytempfaefopfobaa
end

/- OrdElem: spec.KeySorted, spec.OrderlyElem; the size test of an element. -/
section
set_option maxRecDepth 100000
namespace Go.Proofs.Ytempfaefopfobaa
open Go.ChangeShapes Go.WideShapes Go.ChangeAt Go.RowKit
set_option linter.unusedVariables false
set_option linter.unusedSimpArgs false

/-- the names stand in increasing order, each once -/
def upK : List ByteArray → Bool
  | [] => true
  | [_] => true
  | a :: b :: l => blt a b && upK (b :: l)
theorem upK_step {l : List ByteArray} {j : Nat} {a b : ByteArray} (h1 : l[j]? = some a) (h2 : l[j + 1]? = some b) : upK (l.drop j) = (blt a b && upK (l.drop (j + 1))) := by
  obtain ⟨h3, rfl⟩ := List.getElem?_eq_some_iff.1 h1
  obtain ⟨h4, rfl⟩ := List.getElem?_eq_some_iff.1 h2
  rw [List.drop_eq_getElem_cons h3, List.drop_eq_getElem_cons h4]
  rfl
theorem upK_end {l : List ByteArray} {j : Nat} (h : l.length ≤ j + 1) : upK (l.drop j) = true := by
  rcases Nat.lt_or_ge j l.length with h1 | h1
  · rw [List.drop_eq_getElem_cons h1, List.drop_eq_nil_of_le h]; rfl
  · rw [List.drop_eq_nil_of_le h1]; rfl
theorem RepGE.form6 {S : Nat → Prop} {w : World} {e : GE} {cs : List Value} (h : RepGE S w e cs) : ∃ k s a1 c1 a2 c2 u1 u2 u3 u4 u5 u6 u7 u8 u9 u10 n, cs = [.int .i64 k, .string s, .slice a1 e.keys.length c1, .slice a2 e.l.length c2, .int .i64 u1, .int .i64 u2, .float .f64 u3, .string u4, .slice u5 u6 u7, .slice u8 u9 u10, .int .i64 n] ∧ RepStrs S w (.slice a1 e.keys.length c1) e.keys ∧ RepVals S w (.slice a2 e.l.length c2) e.l ∧ RepGV S w e.v [.int .i64 u1, .int .i64 u2, .float .f64 u3, .string u4, .slice u5 u6 u7, .slice u8 u9 u10] := by
  obtain ⟨ka, kc, la, lc, v0, v1, v2, v3, v4, v5, h, -, -, -, hk, hl, hv⟩ := h
  obtain ⟨u1, u2, u3, u4, u5, u6, u7, u8, u9, u10, e6⟩ := hv.form
  simp only [List.cons.injEq, and_true] at e6
  obtain ⟨rfl, rfl, rfl, rfl, rfl, rfl⟩ := e6
  exact ⟨_, _, _, _, _, _, _, _, _, _, _, _, _, _, _, _, _, h, hk, hl, hv⟩
set_option maxHeartbeats 1000000 in
theorem keySorted_any (e : GE) (cs : List Value) (w : World) (hR : RepGE Any w e cs) :
    Calls Try.prog 29 #[.agg cs.toArray] w fun en w' => en = .returned (.bool (upK (cleanE e).keys)) ∧ Ext w w' := by
  have HR := hid hR
  obtain ⟨k, s, a1, n1, c1, a2, n2, c2, v0, v1, v2, v3, v4, v5, n, rfl⟩ := hR.form
  clear hR
  go_enter Try.func29, Try.ntmps29
  have HE0 := hid ((Ext.refl w).alloc (.cells #[.int .i64 k, .string s, .slice a1 n1 c1, .slice a2 n2 c2, v0, v1, v2, v3, v4, v5, .int .i64 n] 34))
  have xx := heap_alloc_new w (.cells #[.int .i64 k, .string s, .slice a1 n1 c1, .slice a2 n2 c2, v0, v1, v2, v3, v4, v5, .int .i64 n] 34)
  have HX := hid xx
  obtain ⟨⟨y0, y1, y2, y3, y4, y5, y6, y7, y8, y9, y10⟩, -⟩ := slot11 xx
  clear xx
  go_upto_region 2 with (go_at_call 54; refine (cleanElem_any e _ _ (HR.out.ext HE0.out)).mono ?_; rintro en w2 ⟨cs2, rfl, hT, hE⟩; have HT := hid (hT.weak (S' := fun b => w.heap.size + 1 ≤ b) (fun b hb _ => by simp at hb; omega)); obtain ⟨k', s', a1', c1', a2', c2', u1, u2, u3, u4, u5, u6, u7, u8, u9, u10, n', rfl, -⟩ := hT.form6; have HX2 := hid (hE.block HX.out); have HE2 := hid (HE0.out.trans hE); obtain ⟨⟨z0, z1, z2, z3, z4, z5, z6, z7, z8, z9, z10⟩, f0, f1, f2, f3, f4, f5, f6, f7, f8, f9, f10⟩ := slot11 (hE.block HX.out); clear hT hE)
  change Code.wp _ _ _ _ (setL w2 w.heap.size 0 [.int .i64 k', .string s', .slice a1' (cleanE e).keys.length c1', .slice a2' (cleanE e).l.length c2', .int .i64 u1, .int .i64 u2, .float .f64 u3, .string u4, .slice u5 u6 u7, .slice u8 u9 u10, .int .i64 n'])
  have x3 := setL_all HX2.out [.int .i64 k', .string s', .slice a1' (cleanE e).keys.length c1', .slice a2' (cleanE e).l.length c2', .int .i64 u1, .int .i64 u2, .float .f64 u3, .string u4, .slice u5 u6 u7, .slice u8 u9 u10, .int .i64 n'] rfl
  have HE3 := hid (show Ext w (setL w2 w.heap.size 0 [.int .i64 k', .string s', .slice a1' (cleanE e).keys.length c1', .slice a2' (cleanE e).l.length c2', .int .i64 u1, .int .i64 u2, .float .f64 u3, .string u4, .slice u5 u6 u7, .slice u8 u9 u10, .int .i64 n']) from setL_below HE2.out (Nat.le_refl _) 0 [.int .i64 k', .string s', .slice a1' (cleanE e).keys.length c1', .slice a2' (cleanE e).l.length c2', .int .i64 u1, .int .i64 u2, .float .f64 u3, .string u4, .slice u5 u6 u7, .slice u8 u9 u10, .int .i64 n'])
  have HT3 := hid (HT.out.mono (S' := Any) (w' := setL w2 w.heap.size 0 [.int .i64 k', .string s', .slice a1' (cleanE e).keys.length c1', .slice a2' (cleanE e).l.length c2', .int .i64 u1, .int .i64 u2, .float .f64 u3, .string u4, .slice u5 u6 u7, .slice u8 u9 u10, .int .i64 n']) (fun b o hb ho => (setL_other (by have hb2 : w.heap.size + 1 ≤ b := hb; omega) _).trans ho) (fun _ _ _ => trivial))
  clear HT HX2 HE2 z0 z1 z2 z3 z4 z5 z6 z7 z8 z9 z10 f0 f1 f2 f3 f4 f5 f6 f7 f8 f9 f10 y0 y1 y2 y3 y4 y5 y6 y7 y8 y9 y10
  change (setL w2 w.heap.size 0 [.int .i64 k', .string s', .slice a1' (cleanE e).keys.length c1', .slice a2' (cleanE e).l.length c2', .int .i64 u1, .int .i64 u2, .float .f64 u3, .string u4, .slice u5 u6 u7, .slice u8 u9 u10, .int .i64 n']).heap[w.heap.size]? = some (.cells #[.int .i64 k', .string s', .slice a1' (cleanE e).keys.length c1', .slice a2' (cleanE e).l.length c2', .int .i64 u1, .int .i64 u2, .float .f64 u3, .string u4, .slice u5 u6 u7, .slice u8 u9 u10, .int .i64 n'] 34) at x3
  generalize setL w2 w.heap.size 0 [.int .i64 k', .string s', .slice a1' (cleanE e).keys.length c1', .slice a2' (cleanE e).l.length c2', .int .i64 u1, .int .i64 u2, .float .f64 u3, .string u4, .slice u5 u6 u7, .slice u8 u9 u10, .int .i64 n'] = w3 at *
  have X3 := hid x3
  clear x3
  obtain ⟨_, _, _, _, _, _, _, _, _, _, _, _, _, _, _, _, _, e6, hks, hls, hvs⟩ := HT3.out.form6
  simp only [List.cons.injEq, and_true, Value.int.injEq, Value.string.injEq, Value.slice.injEq, Value.float.injEq, true_and] at e6
  obtain ⟨rfl, rfl, ⟨rfl, rfl⟩, ⟨rfl, rfl⟩, rfl, rfl, rfl, rfl, ⟨rfl, rfl, rfl⟩, ⟨rfl, rfl, rfl⟩, rfl⟩ := e6
  generalize hks0 : (cleanE e).keys = ks at *
  generalize (cleanE e).l = gl at *
  have KE := hid hks0
  clear hks0
  obtain ⟨ka, kb, ko, kc, hke, hks2, kat⟩ := hks.at'
  simp only [Value.slice.injEq, true_and] at hke
  obtain ⟨rfl, rfl⟩ := hke
  have HK := hid kat
  clear hks hls hvs kat
  have K := hid (show ∀ w' : World, Ext w3 w' → w'.cell? ⟨w.heap.size, 2, none⟩ = some (.slice a1' ks.length c1') from fun w' h => (slot11 (h.block X3.out)).1.2.2.1)
  go_wp2_with fail
  go_loopw [3] (fun i wr => ∃ j : Nat, i = .int .i64 ((j : Int) + 1) ∧ (j ≤ ks.length) ∧ Hid (upK (ks.drop j) = upK ks) ∧ Hid (Ext w3 wr)) (fun i _ => ks.length + 1 - (intOf i).toNat)
  case atStart => exact ⟨0, rfl, Nat.zero_le _, hid rfl, hid (Ext.refl _)⟩
  case round =>
    obtain ⟨j, rfl, hj, HC, HE⟩ := hrel
    have z2 := K.out _ HE.out
    by_cases h1 : j + 1 < ks.length
    · obtain ⟨x, hx⟩ : ∃ x, ks[j]? = some x := ⟨_, List.getElem?_eq_getElem (by omega)⟩
      obtain ⟨y, hy⟩ : ∃ y, ks[j + 1]? = some y := ⟨_, List.getElem?_eq_getElem h1⟩
      obtain ⟨rfl, kx, sx⟩ := HK.out j x hx
      obtain ⟨-, ky, sy⟩ := HK.out (j + 1) y hy
      have j1 := HE.out.cellS kx
      have j2 := HE.out.cellS ky
      have hst := upK_step hx hy
      rw [HC.out] at hst
      have hi0 : (0 : Int) ≤ (j : Int) := by omega
      have hi1 : (j : Int) + 1 < (ks.length : Int) := by omega
      have hi2 : (j : Int) < (ks.length : Int) := by omega
      have hi3 : (0 : Int) ≤ (j : Int) + 1 := by omega
      have hw : IntKind.i64.wrap (j : Int) = (j : Int) := by simp [IntKind.wrap, IntKind.signed, IntKind.bits]; omega
      have hge : ∃ b, decide (0 ≤ scmp x y) = b ∧ blt x y = !b := by
        rcases blt_tri x y with h | h | h
        · exact ⟨false, by rw [(scmp_lt h).1]; rfl, by rw [h]; rfl⟩
        · subst h; exact ⟨true, by rw [scmp_refl]; rfl, by rw [blt_irrefl]; rfl⟩
        · exact ⟨true, by rw [(scmp_lt h).2]; rfl, by rw [blt_asymm h]; rfl⟩
      obtain ⟨b, hb1, hb2⟩ := hge
      rw [hb2] at hst
      have HST := hid hst
      have HSS := hid (fun W => specStr_big x y W sx)
      clear hst hb2 hx hy kx ky sx sy
      generalize scmp x y = z at *
      cases b
      all_goals
        go_wp2_with fail
        go_still_tail 11, (by kernel_rfl)
        change wpList _ _ _ _ _ wr.drew
        go_wp2_with (go_at_call 70; refine (HSS.out _).mono ?_; rintro e w4 ⟨rfl, hE⟩; have HE4 := hid (HE.out.drew.trans hE); clear hE)
      · exact ⟨⟨j + 1, by go_num, by omega, hid (by have h := HST.out; simpa using h.symm), HE4⟩, by simp [intOf]; omega⟩
      · go_ret
        exact ⟨congrArg (fun z => Ending.returned (.bool z)) (show false = upK (cleanE e).keys by rw [KE.out]; have h := HST.out; simpa using h.symm), HE3.out.trans HE4.out⟩
    · have RES := hid (show true = upK (cleanE e).keys by rw [KE.out, ← HC.out, upK_end (by omega)])
      go_wp2_with fail
      go_ret
      exact ⟨congrArg (fun z => Ending.returned (.bool z)) RES.out, HE3.out.trans HE.out⟩
/-- the values of an element are orderly, its names in increasing order -/
def ordE (e : GE) : Bool := ordG (cleanE e).v && ordGs (cleanE e).l && upK (cleanE (cleanE e)).keys
set_option maxHeartbeats 1000000 in
theorem oe_f (e : GE) (cs : List Value) (w : World) (hR : RepGE Any w e cs) (h1 : ordG (cleanE e).v = false) :
    Calls Try.prog 91 #[.agg cs.toArray] w fun en w' => en = .returned (.bool (false)) ∧ Ext w w' := by
  have HR := hid hR
  obtain ⟨k, s, a1, n1, c1, a2, n2, c2, v0, v1, v2, v3, v4, v5, n, rfl⟩ := hR.form
  clear hR
  have H1 := hid (fun W {cs : List Value} (h : RepGV Any W (cleanE e).v cs) => ord_any (cleanE e).v W cs h)
  rw [h1] at H1
  clear h1
  go_enter Try.func91, Try.ntmps91
  have HE0 := hid ((Ext.refl w).alloc (.cells #[.int .i64 k, .string s, .slice a1 n1 c1, .slice a2 n2 c2, v0, v1, v2, v3, v4, v5, .int .i64 n] 34))
  have xx := heap_alloc_new w (.cells #[.int .i64 k, .string s, .slice a1 n1 c1, .slice a2 n2 c2, v0, v1, v2, v3, v4, v5, .int .i64 n] 34)
  have HX := hid xx
  obtain ⟨⟨y0, y1, y2, y3, y4, y5, y6, y7, y8, y9, y10⟩, -⟩ := slot11 xx
  clear xx
  go_upto_region 2 with (go_at_call 54; refine (cleanElem_any e _ _ (HR.out.ext HE0.out)).mono ?_; rintro en w2 ⟨cs2, rfl, hT, hE⟩; have HT := hid (hT.weak (S' := fun b => w.heap.size + 1 ≤ b) (fun b hb _ => by simp at hb; omega)); obtain ⟨k', s', a1', c1', a2', c2', u1, u2, u3, u4, u5, u6, u7, u8, u9, u10, n', rfl, -⟩ := hT.form6; have HX2 := hid (hE.block HX.out); have HE2 := hid (HE0.out.trans hE); obtain ⟨⟨z0, z1, z2, z3, z4, z5, z6, z7, z8, z9, z10⟩, f0, f1, f2, f3, f4, f5, f6, f7, f8, f9, f10⟩ := slot11 (hE.block HX.out); clear hT hE)
  change Code.wp _ _ _ _ (setL w2 w.heap.size 0 [.int .i64 k', .string s', .slice a1' (cleanE e).keys.length c1', .slice a2' (cleanE e).l.length c2', .int .i64 u1, .int .i64 u2, .float .f64 u3, .string u4, .slice u5 u6 u7, .slice u8 u9 u10, .int .i64 n'])
  have x3 := setL_all HX2.out [.int .i64 k', .string s', .slice a1' (cleanE e).keys.length c1', .slice a2' (cleanE e).l.length c2', .int .i64 u1, .int .i64 u2, .float .f64 u3, .string u4, .slice u5 u6 u7, .slice u8 u9 u10, .int .i64 n'] rfl
  have HE3 := hid (show Ext w (setL w2 w.heap.size 0 [.int .i64 k', .string s', .slice a1' (cleanE e).keys.length c1', .slice a2' (cleanE e).l.length c2', .int .i64 u1, .int .i64 u2, .float .f64 u3, .string u4, .slice u5 u6 u7, .slice u8 u9 u10, .int .i64 n']) from setL_below HE2.out (Nat.le_refl _) 0 [.int .i64 k', .string s', .slice a1' (cleanE e).keys.length c1', .slice a2' (cleanE e).l.length c2', .int .i64 u1, .int .i64 u2, .float .f64 u3, .string u4, .slice u5 u6 u7, .slice u8 u9 u10, .int .i64 n'])
  have HT3 := hid (HT.out.mono (S' := Any) (w' := setL w2 w.heap.size 0 [.int .i64 k', .string s', .slice a1' (cleanE e).keys.length c1', .slice a2' (cleanE e).l.length c2', .int .i64 u1, .int .i64 u2, .float .f64 u3, .string u4, .slice u5 u6 u7, .slice u8 u9 u10, .int .i64 n']) (fun b o hb ho => (setL_other (by have hb2 : w.heap.size + 1 ≤ b := hb; omega) _).trans ho) (fun _ _ _ => trivial))
  clear HT HX2 HE2 z0 z1 z2 z3 z4 z5 z6 z7 z8 z9 z10 f0 f1 f2 f3 f4 f5 f6 f7 f8 f9 f10 y0 y1 y2 y3 y4 y5 y6 y7 y8 y9 y10
  change (setL w2 w.heap.size 0 [.int .i64 k', .string s', .slice a1' (cleanE e).keys.length c1', .slice a2' (cleanE e).l.length c2', .int .i64 u1, .int .i64 u2, .float .f64 u3, .string u4, .slice u5 u6 u7, .slice u8 u9 u10, .int .i64 n']).heap[w.heap.size]? = some (.cells #[.int .i64 k', .string s', .slice a1' (cleanE e).keys.length c1', .slice a2' (cleanE e).l.length c2', .int .i64 u1, .int .i64 u2, .float .f64 u3, .string u4, .slice u5 u6 u7, .slice u8 u9 u10, .int .i64 n'] 34) at x3
  generalize setL w2 w.heap.size 0 [.int .i64 k', .string s', .slice a1' (cleanE e).keys.length c1', .slice a2' (cleanE e).l.length c2', .int .i64 u1, .int .i64 u2, .float .f64 u3, .string u4, .slice u5 u6 u7, .slice u8 u9 u10, .int .i64 n'] = w3 at *
  have X3 := hid x3
  clear x3
  obtain ⟨_, _, _, _, _, _, _, _, _, _, _, _, _, _, _, _, _, e6, hks, hls, hvs⟩ := HT3.out.form6
  simp only [List.cons.injEq, and_true, Value.int.injEq, Value.string.injEq, Value.slice.injEq, Value.float.injEq, true_and] at e6
  obtain ⟨rfl, rfl, ⟨rfl, rfl⟩, ⟨rfl, rfl⟩, rfl, rfl, rfl, rfl, ⟨rfl, rfl, rfl⟩, ⟨rfl, rfl, rfl⟩, rfl⟩ := e6
  have HL3 := hid hls
  have HV3 := hid hvs
  clear hks hls hvs
  have K := hid (show ∀ w' : World, Ext w3 w' → (fun w' : World => w'.cell? ⟨w.heap.size, 0, none⟩ = some (.int .i64 k') ∧ w'.cell? ⟨w.heap.size, 1, none⟩ = some (.string s') ∧ w'.cell? ⟨w.heap.size, 2, none⟩ = some (.slice a1' (cleanE e).keys.length c1') ∧ w'.cell? ⟨w.heap.size, 3, none⟩ = some (.slice a2' (cleanE e).l.length c2') ∧ w'.cell? ⟨w.heap.size, 4, none⟩ = some (.int .i64 u1) ∧ w'.cell? ⟨w.heap.size, 5, none⟩ = some (.int .i64 u2) ∧ w'.cell? ⟨w.heap.size, 6, none⟩ = some (.float .f64 u3) ∧ w'.cell? ⟨w.heap.size, 7, none⟩ = some (.string u4) ∧ w'.cell? ⟨w.heap.size, 8, none⟩ = some (.slice u5 u6 u7) ∧ w'.cell? ⟨w.heap.size, 9, none⟩ = some (.slice u8 u9 u10) ∧ w'.cell? ⟨w.heap.size, 10, none⟩ = some (.int .i64 n')) w' from fun w' h => (slot11 (h.block X3.out)).1)
  obtain ⟨z0, z1, z2, z3, z4, z5, z6, z7, z8, z9, z10⟩ := K.out _ (Ext.refl w3)
  go_wp2_with (first
    | (go_at_call 50; refine (H1.out _ (HV3.out)).mono ?_; rintro en w4 ⟨rfl, hE⟩; have HE4 := hid hE; clear z0 z1 z2 z3 z4 z5 z6 z7 z8 z9 z10; obtain ⟨z0, z1, z2, z3, z4, z5, z6, z7, z8, z9, z10⟩ := K.out _ HE4.out; clear hE))
  go_ret
  exact ⟨rfl, HE3.out.trans HE4.out⟩
set_option maxHeartbeats 1000000 in
theorem oe_tf (e : GE) (cs : List Value) (w : World) (hR : RepGE Any w e cs) (h1 : ordG (cleanE e).v = true) (h2 : ordGs (cleanE e).l = false) :
    Calls Try.prog 91 #[.agg cs.toArray] w fun en w' => en = .returned (.bool (false)) ∧ Ext w w' := by
  have HR := hid hR
  obtain ⟨k, s, a1, n1, c1, a2, n2, c2, v0, v1, v2, v3, v4, v5, n, rfl⟩ := hR.form
  clear hR
  have H1 := hid (fun W {cs : List Value} (h : RepGV Any W (cleanE e).v cs) => ord_any (cleanE e).v W cs h)
  rw [h1] at H1
  clear h1
  have H2 := hid (fun W {v : Value} (h : RepVals Any W v (cleanE e).l) => ordVals_any v (cleanE e).l W h)
  rw [h2] at H2
  clear h2
  go_enter Try.func91, Try.ntmps91
  have HE0 := hid ((Ext.refl w).alloc (.cells #[.int .i64 k, .string s, .slice a1 n1 c1, .slice a2 n2 c2, v0, v1, v2, v3, v4, v5, .int .i64 n] 34))
  have xx := heap_alloc_new w (.cells #[.int .i64 k, .string s, .slice a1 n1 c1, .slice a2 n2 c2, v0, v1, v2, v3, v4, v5, .int .i64 n] 34)
  have HX := hid xx
  obtain ⟨⟨y0, y1, y2, y3, y4, y5, y6, y7, y8, y9, y10⟩, -⟩ := slot11 xx
  clear xx
  go_upto_region 2 with (go_at_call 54; refine (cleanElem_any e _ _ (HR.out.ext HE0.out)).mono ?_; rintro en w2 ⟨cs2, rfl, hT, hE⟩; have HT := hid (hT.weak (S' := fun b => w.heap.size + 1 ≤ b) (fun b hb _ => by simp at hb; omega)); obtain ⟨k', s', a1', c1', a2', c2', u1, u2, u3, u4, u5, u6, u7, u8, u9, u10, n', rfl, -⟩ := hT.form6; have HX2 := hid (hE.block HX.out); have HE2 := hid (HE0.out.trans hE); obtain ⟨⟨z0, z1, z2, z3, z4, z5, z6, z7, z8, z9, z10⟩, f0, f1, f2, f3, f4, f5, f6, f7, f8, f9, f10⟩ := slot11 (hE.block HX.out); clear hT hE)
  change Code.wp _ _ _ _ (setL w2 w.heap.size 0 [.int .i64 k', .string s', .slice a1' (cleanE e).keys.length c1', .slice a2' (cleanE e).l.length c2', .int .i64 u1, .int .i64 u2, .float .f64 u3, .string u4, .slice u5 u6 u7, .slice u8 u9 u10, .int .i64 n'])
  have x3 := setL_all HX2.out [.int .i64 k', .string s', .slice a1' (cleanE e).keys.length c1', .slice a2' (cleanE e).l.length c2', .int .i64 u1, .int .i64 u2, .float .f64 u3, .string u4, .slice u5 u6 u7, .slice u8 u9 u10, .int .i64 n'] rfl
  have HE3 := hid (show Ext w (setL w2 w.heap.size 0 [.int .i64 k', .string s', .slice a1' (cleanE e).keys.length c1', .slice a2' (cleanE e).l.length c2', .int .i64 u1, .int .i64 u2, .float .f64 u3, .string u4, .slice u5 u6 u7, .slice u8 u9 u10, .int .i64 n']) from setL_below HE2.out (Nat.le_refl _) 0 [.int .i64 k', .string s', .slice a1' (cleanE e).keys.length c1', .slice a2' (cleanE e).l.length c2', .int .i64 u1, .int .i64 u2, .float .f64 u3, .string u4, .slice u5 u6 u7, .slice u8 u9 u10, .int .i64 n'])
  have HT3 := hid (HT.out.mono (S' := Any) (w' := setL w2 w.heap.size 0 [.int .i64 k', .string s', .slice a1' (cleanE e).keys.length c1', .slice a2' (cleanE e).l.length c2', .int .i64 u1, .int .i64 u2, .float .f64 u3, .string u4, .slice u5 u6 u7, .slice u8 u9 u10, .int .i64 n']) (fun b o hb ho => (setL_other (by have hb2 : w.heap.size + 1 ≤ b := hb; omega) _).trans ho) (fun _ _ _ => trivial))
  clear HT HX2 HE2 z0 z1 z2 z3 z4 z5 z6 z7 z8 z9 z10 f0 f1 f2 f3 f4 f5 f6 f7 f8 f9 f10 y0 y1 y2 y3 y4 y5 y6 y7 y8 y9 y10
  change (setL w2 w.heap.size 0 [.int .i64 k', .string s', .slice a1' (cleanE e).keys.length c1', .slice a2' (cleanE e).l.length c2', .int .i64 u1, .int .i64 u2, .float .f64 u3, .string u4, .slice u5 u6 u7, .slice u8 u9 u10, .int .i64 n']).heap[w.heap.size]? = some (.cells #[.int .i64 k', .string s', .slice a1' (cleanE e).keys.length c1', .slice a2' (cleanE e).l.length c2', .int .i64 u1, .int .i64 u2, .float .f64 u3, .string u4, .slice u5 u6 u7, .slice u8 u9 u10, .int .i64 n'] 34) at x3
  generalize setL w2 w.heap.size 0 [.int .i64 k', .string s', .slice a1' (cleanE e).keys.length c1', .slice a2' (cleanE e).l.length c2', .int .i64 u1, .int .i64 u2, .float .f64 u3, .string u4, .slice u5 u6 u7, .slice u8 u9 u10, .int .i64 n'] = w3 at *
  have X3 := hid x3
  clear x3
  obtain ⟨_, _, _, _, _, _, _, _, _, _, _, _, _, _, _, _, _, e6, hks, hls, hvs⟩ := HT3.out.form6
  simp only [List.cons.injEq, and_true, Value.int.injEq, Value.string.injEq, Value.slice.injEq, Value.float.injEq, true_and] at e6
  obtain ⟨rfl, rfl, ⟨rfl, rfl⟩, ⟨rfl, rfl⟩, rfl, rfl, rfl, rfl, ⟨rfl, rfl, rfl⟩, ⟨rfl, rfl, rfl⟩, rfl⟩ := e6
  have HL3 := hid hls
  have HV3 := hid hvs
  clear hks hls hvs
  have K := hid (show ∀ w' : World, Ext w3 w' → (fun w' : World => w'.cell? ⟨w.heap.size, 0, none⟩ = some (.int .i64 k') ∧ w'.cell? ⟨w.heap.size, 1, none⟩ = some (.string s') ∧ w'.cell? ⟨w.heap.size, 2, none⟩ = some (.slice a1' (cleanE e).keys.length c1') ∧ w'.cell? ⟨w.heap.size, 3, none⟩ = some (.slice a2' (cleanE e).l.length c2') ∧ w'.cell? ⟨w.heap.size, 4, none⟩ = some (.int .i64 u1) ∧ w'.cell? ⟨w.heap.size, 5, none⟩ = some (.int .i64 u2) ∧ w'.cell? ⟨w.heap.size, 6, none⟩ = some (.float .f64 u3) ∧ w'.cell? ⟨w.heap.size, 7, none⟩ = some (.string u4) ∧ w'.cell? ⟨w.heap.size, 8, none⟩ = some (.slice u5 u6 u7) ∧ w'.cell? ⟨w.heap.size, 9, none⟩ = some (.slice u8 u9 u10) ∧ w'.cell? ⟨w.heap.size, 10, none⟩ = some (.int .i64 n')) w' from fun w' h => (slot11 (h.block X3.out)).1)
  obtain ⟨z0, z1, z2, z3, z4, z5, z6, z7, z8, z9, z10⟩ := K.out _ (Ext.refl w3)
  go_wp2_with (first
    | (go_at_call 50; refine (H1.out _ (HV3.out)).mono ?_; rintro en w4 ⟨rfl, hE⟩; have HE4 := hid hE; clear z0 z1 z2 z3 z4 z5 z6 z7 z8 z9 z10; obtain ⟨z0, z1, z2, z3, z4, z5, z6, z7, z8, z9, z10⟩ := K.out _ HE4.out; clear hE)
    | (go_at_call 16; refine (H2.out _ (HL3.out.ext HE4.out)).mono ?_; rintro en w5 ⟨rfl, hE⟩; have HE5 := hid (HE4.out.trans hE); clear z0 z1 z2 z3 z4 z5 z6 z7 z8 z9 z10; obtain ⟨z0, z1, z2, z3, z4, z5, z6, z7, z8, z9, z10⟩ := K.out _ HE5.out; clear hE))
  go_ret
  exact ⟨rfl, HE3.out.trans HE5.out⟩
set_option maxHeartbeats 1000000 in
theorem oe_tt (e : GE) (cs : List Value) (w : World) (hR : RepGE Any w e cs) (h1 : ordG (cleanE e).v = true) (h2 : ordGs (cleanE e).l = true) :
    Calls Try.prog 91 #[.agg cs.toArray] w fun en w' => en = .returned (.bool (upK (cleanE (cleanE e)).keys)) ∧ Ext w w' := by
  have HR := hid hR
  obtain ⟨k, s, a1, n1, c1, a2, n2, c2, v0, v1, v2, v3, v4, v5, n, rfl⟩ := hR.form
  clear hR
  have H1 := hid (fun W {cs : List Value} (h : RepGV Any W (cleanE e).v cs) => ord_any (cleanE e).v W cs h)
  rw [h1] at H1
  clear h1
  have H2 := hid (fun W {v : Value} (h : RepVals Any W v (cleanE e).l) => ordVals_any v (cleanE e).l W h)
  rw [h2] at H2
  clear h2
  go_enter Try.func91, Try.ntmps91
  have HE0 := hid ((Ext.refl w).alloc (.cells #[.int .i64 k, .string s, .slice a1 n1 c1, .slice a2 n2 c2, v0, v1, v2, v3, v4, v5, .int .i64 n] 34))
  have xx := heap_alloc_new w (.cells #[.int .i64 k, .string s, .slice a1 n1 c1, .slice a2 n2 c2, v0, v1, v2, v3, v4, v5, .int .i64 n] 34)
  have HX := hid xx
  obtain ⟨⟨y0, y1, y2, y3, y4, y5, y6, y7, y8, y9, y10⟩, -⟩ := slot11 xx
  clear xx
  go_upto_region 2 with (go_at_call 54; refine (cleanElem_any e _ _ (HR.out.ext HE0.out)).mono ?_; rintro en w2 ⟨cs2, rfl, hT, hE⟩; have HT := hid (hT.weak (S' := fun b => w.heap.size + 1 ≤ b) (fun b hb _ => by simp at hb; omega)); obtain ⟨k', s', a1', c1', a2', c2', u1, u2, u3, u4, u5, u6, u7, u8, u9, u10, n', rfl, -⟩ := hT.form6; have HX2 := hid (hE.block HX.out); have HE2 := hid (HE0.out.trans hE); obtain ⟨⟨z0, z1, z2, z3, z4, z5, z6, z7, z8, z9, z10⟩, f0, f1, f2, f3, f4, f5, f6, f7, f8, f9, f10⟩ := slot11 (hE.block HX.out); clear hT hE)
  change Code.wp _ _ _ _ (setL w2 w.heap.size 0 [.int .i64 k', .string s', .slice a1' (cleanE e).keys.length c1', .slice a2' (cleanE e).l.length c2', .int .i64 u1, .int .i64 u2, .float .f64 u3, .string u4, .slice u5 u6 u7, .slice u8 u9 u10, .int .i64 n'])
  have x3 := setL_all HX2.out [.int .i64 k', .string s', .slice a1' (cleanE e).keys.length c1', .slice a2' (cleanE e).l.length c2', .int .i64 u1, .int .i64 u2, .float .f64 u3, .string u4, .slice u5 u6 u7, .slice u8 u9 u10, .int .i64 n'] rfl
  have HE3 := hid (show Ext w (setL w2 w.heap.size 0 [.int .i64 k', .string s', .slice a1' (cleanE e).keys.length c1', .slice a2' (cleanE e).l.length c2', .int .i64 u1, .int .i64 u2, .float .f64 u3, .string u4, .slice u5 u6 u7, .slice u8 u9 u10, .int .i64 n']) from setL_below HE2.out (Nat.le_refl _) 0 [.int .i64 k', .string s', .slice a1' (cleanE e).keys.length c1', .slice a2' (cleanE e).l.length c2', .int .i64 u1, .int .i64 u2, .float .f64 u3, .string u4, .slice u5 u6 u7, .slice u8 u9 u10, .int .i64 n'])
  have HT3 := hid (HT.out.mono (S' := Any) (w' := setL w2 w.heap.size 0 [.int .i64 k', .string s', .slice a1' (cleanE e).keys.length c1', .slice a2' (cleanE e).l.length c2', .int .i64 u1, .int .i64 u2, .float .f64 u3, .string u4, .slice u5 u6 u7, .slice u8 u9 u10, .int .i64 n']) (fun b o hb ho => (setL_other (by have hb2 : w.heap.size + 1 ≤ b := hb; omega) _).trans ho) (fun _ _ _ => trivial))
  clear HT HX2 HE2 z0 z1 z2 z3 z4 z5 z6 z7 z8 z9 z10 f0 f1 f2 f3 f4 f5 f6 f7 f8 f9 f10 y0 y1 y2 y3 y4 y5 y6 y7 y8 y9 y10
  change (setL w2 w.heap.size 0 [.int .i64 k', .string s', .slice a1' (cleanE e).keys.length c1', .slice a2' (cleanE e).l.length c2', .int .i64 u1, .int .i64 u2, .float .f64 u3, .string u4, .slice u5 u6 u7, .slice u8 u9 u10, .int .i64 n']).heap[w.heap.size]? = some (.cells #[.int .i64 k', .string s', .slice a1' (cleanE e).keys.length c1', .slice a2' (cleanE e).l.length c2', .int .i64 u1, .int .i64 u2, .float .f64 u3, .string u4, .slice u5 u6 u7, .slice u8 u9 u10, .int .i64 n'] 34) at x3
  generalize setL w2 w.heap.size 0 [.int .i64 k', .string s', .slice a1' (cleanE e).keys.length c1', .slice a2' (cleanE e).l.length c2', .int .i64 u1, .int .i64 u2, .float .f64 u3, .string u4, .slice u5 u6 u7, .slice u8 u9 u10, .int .i64 n'] = w3 at *
  have X3 := hid x3
  clear x3
  obtain ⟨_, _, _, _, _, _, _, _, _, _, _, _, _, _, _, _, _, e6, hks, hls, hvs⟩ := HT3.out.form6
  simp only [List.cons.injEq, and_true, Value.int.injEq, Value.string.injEq, Value.slice.injEq, Value.float.injEq, true_and] at e6
  obtain ⟨rfl, rfl, ⟨rfl, rfl⟩, ⟨rfl, rfl⟩, rfl, rfl, rfl, rfl, ⟨rfl, rfl, rfl⟩, ⟨rfl, rfl, rfl⟩, rfl⟩ := e6
  have HL3 := hid hls
  have HV3 := hid hvs
  clear hks hls hvs
  have K := hid (show ∀ w' : World, Ext w3 w' → (fun w' : World => w'.cell? ⟨w.heap.size, 0, none⟩ = some (.int .i64 k') ∧ w'.cell? ⟨w.heap.size, 1, none⟩ = some (.string s') ∧ w'.cell? ⟨w.heap.size, 2, none⟩ = some (.slice a1' (cleanE e).keys.length c1') ∧ w'.cell? ⟨w.heap.size, 3, none⟩ = some (.slice a2' (cleanE e).l.length c2') ∧ w'.cell? ⟨w.heap.size, 4, none⟩ = some (.int .i64 u1) ∧ w'.cell? ⟨w.heap.size, 5, none⟩ = some (.int .i64 u2) ∧ w'.cell? ⟨w.heap.size, 6, none⟩ = some (.float .f64 u3) ∧ w'.cell? ⟨w.heap.size, 7, none⟩ = some (.string u4) ∧ w'.cell? ⟨w.heap.size, 8, none⟩ = some (.slice u5 u6 u7) ∧ w'.cell? ⟨w.heap.size, 9, none⟩ = some (.slice u8 u9 u10) ∧ w'.cell? ⟨w.heap.size, 10, none⟩ = some (.int .i64 n')) w' from fun w' h => (slot11 (h.block X3.out)).1)
  obtain ⟨z0, z1, z2, z3, z4, z5, z6, z7, z8, z9, z10⟩ := K.out _ (Ext.refl w3)
  go_wp2_with (first
    | (go_at_call 50; refine (H1.out _ (HV3.out)).mono ?_; rintro en w4 ⟨rfl, hE⟩; have HE4 := hid hE; clear z0 z1 z2 z3 z4 z5 z6 z7 z8 z9 z10; obtain ⟨z0, z1, z2, z3, z4, z5, z6, z7, z8, z9, z10⟩ := K.out _ HE4.out; clear hE)
    | (go_at_call 16; refine (H2.out _ (HL3.out.ext HE4.out)).mono ?_; rintro en w5 ⟨rfl, hE⟩; have HE5 := hid (HE4.out.trans hE); clear z0 z1 z2 z3 z4 z5 z6 z7 z8 z9 z10; obtain ⟨z0, z1, z2, z3, z4, z5, z6, z7, z8, z9, z10⟩ := K.out _ HE5.out; clear hE)
    | (go_at_call 29; refine (keySorted_any (cleanE e) _ _ (HT3.out.ext HE5.out)).mono ?_; rintro en w6 ⟨rfl, hE⟩; have HE6 := hid (HE5.out.trans hE); clear hE))
  go_ret
  exact ⟨rfl, HE3.out.trans HE6.out⟩
theorem ordElem_any (e : GE) (cs : List Value) (w : World) (hR : RepGE Any w e cs) :
    Calls Try.prog 91 #[.agg cs.toArray] w fun en w' => en = .returned (.bool (ordE e)) ∧ Ext w w' := by
  unfold ordE
  cases h1 : ordG (cleanE e).v
  · exact oe_f e cs w hR h1
  · cases h2 : ordGs (cleanE e).l
    · exact oe_tf e cs w hR h1 h2
    · exact oe_tt e cs w hR h1 h2
set_option maxHeartbeats 1000000 in
theorem fits13_any (e : GE) (cs : List Value) (w : World) (hR : RepGE Any w e cs) : Calls Try.prog 27 #[.agg cs.toArray] w (Tells w) := by
  obtain ⟨a1, c1, a2, c2, v0, v1, v2, v3, v4, v5, rfl, -, -, -, hk, -, -⟩ := hR
  have HK := hid hk
  clear hk
  generalize e.kind = k, e.s = s, e.n = n, e.l.length = n2
  go_enter Try.func27, Try.ntmps27
  by_cases h1 : s.size > 2147483647
  · go_wp2_with fail
    go_ret
    exact ⟨_, rfl, (Ext.refl _).alloc _⟩
  · have HE0 := hid ((Ext.refl w).alloc (.cells #[.int .i64 k, .string s, .slice a1 e.keys.length c1, .slice a2 n2 c2, v0, v1, v2, v3, v4, v5, .int .i64 n] 34))
    have xx := heap_alloc_new w (.cells #[.int .i64 k, .string s, .slice a1 e.keys.length c1, .slice a2 n2 c2, v0, v1, v2, v3, v4, v5, .int .i64 n] 34)
    have HX := hid xx
    clear xx
    by_cases h2 : n2 > 2147483647
    all_goals
      go_wp2_with (go_at_call 14; refine (fits2_any _ e.keys _ (HK.out.ext HE0.out)).mono ?_; rintro en w2 ⟨b, rfl, hE⟩; have HE2 := hid (HE0.out.trans hE); obtain ⟨⟨z0, z1, z2, z3, z4, z5, z6, z7, z8, z9, z10⟩, -⟩ := slot11 (hE.block HX.out); clear hE; cases b)
      all_goals
        go_ret
        exact ⟨_, rfl, HE2.out⟩
end Go.Proofs.Ytempfaefopfobaa
end

/- ElemArg: arguments of type impl.Elem; spec.CompareElems of any two. -/
section
set_option maxRecDepth 100000
namespace Go.Proofs.Ytempfaefopfobaa
open Go.ChangeShapes Go.WideShapes Go.ChangeAt Go.RowKit
set_option linter.unusedVariables false
set_option linter.unusedSimpArgs false

section
variable {H : Type} {enc : TypeId × Value → H} {w : World} {base : Nat} {spare : Nat → Bool} {held : Bool}
theorem open_gvl (fuel : Nat) (cs : List Value) (x : DataW H × List MemPlace) (h : DataW.trod enc Try.prog w base spare held fuel 27 cs = some x) (hw : Wt Try.prog 27 x.1) : ∃ v l, cs = [v] ∧ RepVals Any w v l := by
  obtain ⟨a, b, o, len, cap, rfl, hl, hb, ha, hel⟩ := open_sl Try.underlying27 (by rw [cellsV]; omega) h hw
  rw [bytesV] at hb
  rw [cellsV] at hel
  have key : ∀ i, i < len → ∃ g, ∃ cs', cs'.length = 6 ∧ cellsAt w b (o + i * 6) cs' ∧ RepGV Any w g cs' := by
    intro i hi
    obtain ⟨n', cs', y, hn', h6, h7, h8, h9⟩ := hel i hi
    obtain ⟨g, hg⟩ := open_gv n' cs' y h8 h9
    exact ⟨g, cs', h6, h7, hg⟩
  haveI : Inhabited GV := ⟨.mk 0 0 0 ByteArray.empty [] []⟩
  obtain ⟨fg, hfg⟩ := Deep.choose_lt (α := GV) key
  refine ⟨_, (List.range len).map fg, rfl, a, b, o, cap, by simp, by simpa using hl, by simpa using hb, fun h0 => ⟨ha (by simpa using h0), trivial⟩, fun i hi => ?_, fun i g cs' hg hlen hc => ?_⟩
  · obtain ⟨cs', h6, h7, _⟩ := hfg i (by simpa using hi)
    exact ⟨cs', h6, h7⟩
  · simp only [List.getElem?_map, Option.map_eq_some_iff] at hg
    obtain ⟨j, hj, rfl⟩ := hg
    obtain ⟨hj1, hj2⟩ := List.getElem?_eq_some_iff.1 hj
    simp at hj1 hj2
    subst hj2
    obtain ⟨cs2, h6, h7, h8⟩ := hfg i hj1
    obtain rfl := cellsAt_unique hc h7 (hlen.trans h6.symm)
    exact h8
theorem cellsE : Try.prog.cellsOf 34 = 11 := by kernel_rfl
theorem open_ge (fuel : Nat) (cs : List Value) (x : DataW H × List MemPlace) (h : DataW.trod enc Try.prog w base spare held fuel 34 cs = some x) (hw : Wt Try.prog 34 x.1) : ∃ e, RepGE Any w e cs := by
  obtain ⟨n, rfl, hlen, hf⟩ := open_field Try.underlying34 h hw
  rw [cellsE] at hlen
  obtain ⟨c0, c1, c2, c3, c4, c5, c6, c7, c8, c9, c10, rfl⟩ : ∃ c0 c1 c2 c3 c4 c5 c6 c7 c8 c9 c10, cs = [c0, c1, c2, c3, c4, c5, c6, c7, c8, c9, c10] := by
    match cs, hlen with
    | [c0, c1, c2, c3, c4, c5, c6, c7, c8, c9, c10], _ => exact ⟨c0, c1, c2, c3, c4, c5, c6, c7, c8, c9, c10, rfl⟩
  obtain ⟨y0, h0, _⟩ := hf 0 3 0 rfl
  obtain ⟨y1, h1, w1⟩ := hf 1 9 1 rfl
  obtain ⟨y2, h2, w2⟩ := hf 2 26 2 rfl
  obtain ⟨y3, h3, w3⟩ := hf 3 27 3 rfl
  obtain ⟨y4, h4, w4⟩ := hf 4 32 4 rfl
  obtain ⟨y5, h5, w5⟩ := hf 5 3 10 rfl
  simp only [cells_int, cells_strs, cells_vals, cellsStr, cellsV, List.drop, List.take] at h0 h1 h2 h3 h4 h5
  obtain ⟨k, e0, _, wk⟩ := DataW.trod_int Try.underlying3 h0
  obtain ⟨s, e1, hs⟩ := open_str Try.underlying9 h1 w1
  obtain ⟨kv, ks, e2, hks⟩ := open_strs Try.underlying26 Try.underlying9 cellsStr bytesStr h2 w2
  obtain ⟨lv, l, e3, hl⟩ := open_gvl _ _ _ h3 w3
  obtain ⟨g, hg⟩ := open_gv _ _ _ h4 w4
  obtain ⟨m, e5, _, wm⟩ := DataW.trod_int Try.underlying3 h5
  simp only [List.cons.injEq, and_true] at e0 e1 e2 e3 e5
  subst e0 e1 e2 e3 e5
  obtain ⟨ka, kb, ko, kc, rfl, hk2⟩ := id hks
  obtain ⟨la, lb, lo, lc, rfl, hl2⟩ := id hl
  exact ⟨⟨k, s, ks, l, g, m⟩, ka, kc, la, lc, _, _, _, _, _, _, rfl, wk, wm, hs, hks, hl, hg⟩
end
end Go.Proofs.Ytempfaefopfobaa
end

/- ElemRefl: path elements and paths compared with themselves and with what goes on behind them. -/
section
namespace Go.Proofs.Ytempfaefopfobaa
open Go.ChangeShapes Go.WideShapes Go.ChangeAt Go.RowKit
set_option linter.unusedVariables false
set_option linter.unusedSimpArgs false

theorem nonan_from : ∀ (N : Nat) (t : Tree), SizeOf.sizeOf t ≤ N → WfT t → ordG (fromT t) = true → NoNaN t
  | 0, t, h, _, _ => by have := t.size_pos; omega
  | N + 1, t, h, w, o => by
    cases w with
    | null => exact .null
    | bool b => exact .bool b
    | int n => exact .int n
    | flt f => exact .flt f (by simpa [fromT, ordG] using o)
    | str s => exact .str s
    | list l hl =>
      refine .list l fun t ht => nonan_from N t (by have := Tree.mem_list ht; omega) (hl t ht) ?_
      have o2 : ordGs (fromTs l) = true := by simpa [fromT, ordG] using o
      rw [ordGs_eq, List.all_eq_true, fromTs_eq] at o2
      exact o2 _ (List.mem_map_of_mem ht)
    | map m hn hm =>
      refine .map m fun p hp => nonan_from N p.2 (by have := Tree.size_map (k := p.1) (t := p.2) hp; omega) (hm p hp) ?_
      have o2 : ordGs ((sortN (m.map (·.1))).map (lookG (fromTm m))) = true := by simpa [fromT, ordG] using o
      rw [srt_vals, ordGs_eq, List.all_eq_true] at o2
      refine o2 _ (List.mem_map.2 ⟨p, ?_, rfl⟩)
      refine List.mem_map.2 ⟨p.1, ?_, by rw [lookKV_of hn hp]; rfl⟩
      exact (sortN_perm _).mem_iff.2 (List.mem_map_of_mem hp)
theorem noNaN_clean {g : GV} (h : ordG (cleanG g) = true) : NoNaN (plainT g) := nonan_from _ (plainT g) (Nat.le_refl _) (wfT g) (by rwa [← clean_eq])
theorem cmpE_self (e : GE) : cmpE (toEl e) (toEl e) = 0 := by
  unfold toEl
  split
  · refine cmpFs_refl fun p hp => ?_
    obtain ⟨g, -, hg⟩ : ∃ g, g ∈ e.l ∧ p.2 = plainT g := by
      have := (List.of_mem_zip (show (p.1, p.2) ∈ e.keys.zip (plainTs e.l) from hp)).2
      rw [plainTs_eq] at this
      obtain ⟨g, h1, h2⟩ := List.mem_map.1 this
      exact ⟨g, h1, h2.symm⟩
    rw [hg]; exact cmp_self (wfT g)
  · split
    · exact cmp_self (wfT _)
    · split
      · exact icmp_refl _
      · exact scmp_refl _
theorem eqFs_refl {z : Tree → Tree → Bool} : ∀ {l : List (ByteArray × Tree)}, (∀ p ∈ l, z p.2 p.2 = true) → eqFs z l l = true
  | [], _ => rfl
  | p :: l, h => by
    unfold eqFs
    rw [h p (by simp), eqFs_refl fun q hq => h q (by simp [hq])]
    simp
theorem eqE_self {e : GE} (h : ordE e = true) : eqE (toEl e) (toEl e) = true := by
  unfold ordE cleanE at h
  unfold toEl
  by_cases h1 : e.kind = 1
  · simp only [if_pos h1, Bool.and_eq_true] at h ⊢
    refine eqFs_refl fun p hp => ?_
    obtain ⟨i, hi⟩ := List.mem_iff_getElem?.1 hp
    obtain ⟨k1, k2⟩ := List.getElem?_zip_eq_some.1 (show (e.keys.zip (plainTs e.l))[i]? = some (p.1, p.2) from hi)
    rw [plainTs_eq, List.getElem?_map] at k2
    obtain ⟨g, hg, hp2⟩ := Option.map_eq_some_iff.1 k2
    rw [← hp2]
    refine eq_self (wfT g) (noNaN_clean ?_)
    have h2 := h.1.2
    rw [ordGs_eq, cleanGs_eq, List.all_eq_true] at h2
    refine h2 _ (List.mem_map_of_mem (List.mem_of_getElem? (i := i) ?_))
    have l1 := (List.getElem?_eq_some_iff.1 k1).1
    have l2 := (List.getElem?_eq_some_iff.1 hg).1
    rw [List.getElem?_take, if_pos (by omega), hg]
  · rw [if_neg h1] at h ⊢
    by_cases h2 : e.kind = 2
    · simp only [if_pos h2, Bool.and_eq_true] at h ⊢
      exact eq_self (wfT _) (noNaN_clean h.1.1)
    · rw [if_neg h2]
      split <;> simp [eqE]
theorem cmpP_self (p : List GE) : cmpP (p.map toEl) (p.map toEl) = 0 := by
  induction p with
  | nil => rfl
  | cons e p ih => simp only [List.map_cons]; unfold cmpP; rw [if_pos (cmpE_self e), ih]
theorem cmpP_shorter (p r : List GE) (hr : r ≠ []) : cmpP (p.map toEl) ((p ++ r).map toEl) = -1 ∧ cmpP ((p ++ r).map toEl) (p.map toEl) = 1 := by
  induction p with
  | nil => cases r with
    | nil => exact absurd rfl hr
    | cons e r => exact ⟨rfl, rfl⟩
  | cons e p ih =>
    simp only [List.map_cons, List.cons_append]
    unfold cmpP
    rw [if_pos (cmpE_self e), if_pos (cmpE_self e)]
    exact ih
theorem eqP_self {p : List GE} (h : p.all ordE = true) : eqP (p.map toEl) (p.map toEl) = true := by
  induction p with
  | nil => rfl
  | cons e p ih =>
    rw [List.all_cons, Bool.and_eq_true] at h
    simp only [List.map_cons]; unfold eqP; rw [eqE_self h.1, ih h.2]; rfl
end Go.Proofs.Ytempfaefopfobaa
end
