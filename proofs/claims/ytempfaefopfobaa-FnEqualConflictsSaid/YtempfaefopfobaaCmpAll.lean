/- CmpAll: value.CompareUsing of whatever two trees. -/
import Derived.Test.YtempfaefopfobaaLCmp
import Derived.Test.YtempfaefopfobaaMapZip

set_option maxRecDepth 100000
namespace Go.Proofs.Ytempfaefopfobaa
open Go.ChangeShapes Go.WideShapes Go.ChangeAt Go.RowKit
set_option linter.unusedVariables false
set_option linter.unusedSimpArgs false

theorem RepT.toL {S : Nat → Prop} {w : World} {l : List Tree} {v : Value} (h : RepT S w (.list l) v) : ∃ a c, v = .iface 82 (.slice a l.length c) ∧ l.length ≤ 140737488351232 ∧ ItemsAt w l a := by
  cases h with
  | @list _ a b o cap hle hsz ha hc hl =>
    refine ⟨a, cap, rfl, by omega, fun k t ht => ?_⟩
    have hk := (List.getElem?_eq_some_iff.1 ht).1
    obtain ⟨v, hv⟩ := hc k hk
    exact ⟨b, o, v, (ha (by omega)).1, World.block_lt_of_cell? w _ hv, hv, (hl k t v ht hv).weak (fun b _ h => h)⟩
theorem aslu_any (a : Option Addr) (n c : Nat) (x : Value) (w : World) : Calls Try.prog 179 #[.agg #[.iface 82 (.slice a n c)], x] w fun e w' => e = .returned (.iface 315 (.slice a n c)) ∧ Ext w w' := by
  go_enter Try.func179, Try.ntmps179
  go_wp2_with fail
  go_ret
  exact ⟨rfl, (Ext.refl _).alloc _⟩
theorem lcu_any (z : Tree → Tree → Int) (l1 l2 : List Tree) (al : Addr) (a1 a2 : Option Addr) (c1 c2 : Nat) (w : World) (hn1 : l1.length ≤ 140737488351232) (hn2 : l2.length ≤ 140737488351232)
    (hi1 : ItemsAt w l1 a1) (hi2 : ItemsAt w l2 a2) (hz : ∀ a ∈ l1, ∀ b ∈ l2, CmpU a b (z a b)) :
    Calls Try.prog 142 #[.iface 172 (.pointer (some al)), .iface 315 (.slice a1 l1.length c1), .iface 315 (.slice a2 l2.length c2)] w fun e w' => e = .returned (.int .i64 (cmpLs z l1 l2)) ∧ Ext w w' := by
  cases l1 with
  | nil => cases l2 with
    | nil => exact lcu_nn al a1 a2 c1 c2 w
    | cons b y => exact lcu_n1 al a1 a2 c1 (b :: y).length c2 (by simp) hn2 w
  | cons a x => cases l2 with
    | nil => exact lcu_1n al a1 a2 (a :: x).length c1 c2 (by simp) hn1 w
    | cons b y => exact lcu_11 z (a :: x) (b :: y) al a1 a2 c1 c2 w (by simp) (by simp) hn1 hn2 hi1 hi2 hz
theorem ItemsAt.ext {w w' : World} {l : List Tree} {a : Option Addr} (h : ItemsAt w l a) (E : Ext w w') : ItemsAt w' l a := fun k t ht => by
  obtain ⟨lb, lo, v, h1, h2, h3, h4⟩ := h k t ht
  exact ⟨lb, lo, v, h1, by have := E.size; omega, E.cellS h3, (h4.ext E).weak (fun b hb _ => by have := E.size; omega)⟩
set_option maxHeartbeats 4000000 in
theorem cmpu_list (z : Tree → Tree → Int) (l1 l2 : List Tree) (hz : ∀ a ∈ l1, ∀ b ∈ l2, CmpU a b (z a b)) : CmpU (.list l1) (.list l2) (cmpLs z l1 l2) := by
  intro w al x1 x2 h1 h2
  obtain ⟨b1, v1, rfl, -, hb1, hT1⟩ := h1
  obtain ⟨b2, v2, rfl, -, hb2, hT2⟩ := h2
  obtain ⟨a1, c1, rfl, hn1, hi1⟩ := hT1.toL
  obtain ⟨a2, c2, rfl, hn2, hi2⟩ := hT2.toL
  have HI1 := hid hi1
  have HI2 := hid hi2
  have HZ := hid hz
  clear hi1 hi2 hz
  have HT1 := hid hT1
  have HT2 := hid hT2
  have HC1 := hid (show w.cell? ⟨b1, 0, none⟩ = some (.iface 82 (.slice a1 l1.length c1)) from (cell_of_heap hb1 0).trans rfl)
  have HC2 := hid (show w.cell? ⟨b2, 0, none⟩ = some (.iface 82 (.slice a2 l2.length c2)) from (cell_of_heap hb2 0).trans rfl)
  have q1 := HC1.out
  have q2 := HC2.out
  have HE := hid (Ext.refl w)
  clear hb1 hb2 hT1 hT2
  go_enter_defers Try.func130, Try.ntmps130
  go_wp2_with (first
    | (go_at_call_of 188 a1; refine (show Calls Try.prog 188 #[.agg #[.iface 82 (.slice a1 l1.length c1)]] _ fun e w' => e = .returned (.bool false) ∧ Ext _ w' from is_IsNull Any (.list l1) _ _ (HT1.out.ext HE.out)).mono ?_; rintro e wn ⟨rfl, hE⟩; replace HE := hid (HE.out.trans hE); replace q1 := HE.out.cellS HC1.out; replace q2 := HE.out.cellS HC2.out; clear hE)
    | (go_at_call_of 188 a2; refine (show Calls Try.prog 188 #[.agg #[.iface 82 (.slice a2 l2.length c2)]] _ fun e w' => e = .returned (.bool false) ∧ Ext _ w' from is_IsNull Any (.list l2) _ _ (HT2.out.ext HE.out)).mono ?_; rintro e wn ⟨rfl, hE⟩; replace HE := hid (HE.out.trans hE); replace q1 := HE.out.cellS HC1.out; replace q2 := HE.out.cellS HC2.out; clear hE)
    | (go_at_call_of 183 a1; refine (show Calls Try.prog 183 #[.agg #[.iface 82 (.slice a1 l1.length c1)]] _ fun e w' => e = .returned (.bool false) ∧ Ext _ w' from is_IsBool Any (.list l1) _ _ (HT1.out.ext HE.out)).mono ?_; rintro e wn ⟨rfl, hE⟩; replace HE := hid (HE.out.trans hE); replace q1 := HE.out.cellS HC1.out; replace q2 := HE.out.cellS HC2.out; clear hE)
    | (go_at_call_of 183 a2; refine (show Calls Try.prog 183 #[.agg #[.iface 82 (.slice a2 l2.length c2)]] _ fun e w' => e = .returned (.bool false) ∧ Ext _ w' from is_IsBool Any (.list l2) _ _ (HT2.out.ext HE.out)).mono ?_; rintro e wn ⟨rfl, hE⟩; replace HE := hid (HE.out.trans hE); replace q1 := HE.out.cellS HC1.out; replace q2 := HE.out.cellS HC2.out; clear hE)
    | (go_at_call_of 185 a1; refine (show Calls Try.prog 185 #[.agg #[.iface 82 (.slice a1 l1.length c1)]] _ fun e w' => e = .returned (.bool false) ∧ Ext _ w' from is_IsInt Any (.list l1) _ _ (HT1.out.ext HE.out)).mono ?_; rintro e wn ⟨rfl, hE⟩; replace HE := hid (HE.out.trans hE); replace q1 := HE.out.cellS HC1.out; replace q2 := HE.out.cellS HC2.out; clear hE)
    | (go_at_call_of 185 a2; refine (show Calls Try.prog 185 #[.agg #[.iface 82 (.slice a2 l2.length c2)]] _ fun e w' => e = .returned (.bool false) ∧ Ext _ w' from is_IsInt Any (.list l2) _ _ (HT2.out.ext HE.out)).mono ?_; rintro e wn ⟨rfl, hE⟩; replace HE := hid (HE.out.trans hE); replace q1 := HE.out.cellS HC1.out; replace q2 := HE.out.cellS HC2.out; clear hE)
    | (go_at_call_of 184 a1; refine (show Calls Try.prog 184 #[.agg #[.iface 82 (.slice a1 l1.length c1)]] _ fun e w' => e = .returned (.bool false) ∧ Ext _ w' from is_IsFloat Any (.list l1) _ _ (HT1.out.ext HE.out)).mono ?_; rintro e wn ⟨rfl, hE⟩; replace HE := hid (HE.out.trans hE); replace q1 := HE.out.cellS HC1.out; replace q2 := HE.out.cellS HC2.out; clear hE)
    | (go_at_call_of 184 a2; refine (show Calls Try.prog 184 #[.agg #[.iface 82 (.slice a2 l2.length c2)]] _ fun e w' => e = .returned (.bool false) ∧ Ext _ w' from is_IsFloat Any (.list l2) _ _ (HT2.out.ext HE.out)).mono ?_; rintro e wn ⟨rfl, hE⟩; replace HE := hid (HE.out.trans hE); replace q1 := HE.out.cellS HC1.out; replace q2 := HE.out.cellS HC2.out; clear hE)
    | (go_at_call_of 189 a1; refine (show Calls Try.prog 189 #[.agg #[.iface 82 (.slice a1 l1.length c1)]] _ fun e w' => e = .returned (.bool false) ∧ Ext _ w' from is_IsString Any (.list l1) _ _ (HT1.out.ext HE.out)).mono ?_; rintro e wn ⟨rfl, hE⟩; replace HE := hid (HE.out.trans hE); replace q1 := HE.out.cellS HC1.out; replace q2 := HE.out.cellS HC2.out; clear hE)
    | (go_at_call_of 189 a2; refine (show Calls Try.prog 189 #[.agg #[.iface 82 (.slice a2 l2.length c2)]] _ fun e w' => e = .returned (.bool false) ∧ Ext _ w' from is_IsString Any (.list l2) _ _ (HT2.out.ext HE.out)).mono ?_; rintro e wn ⟨rfl, hE⟩; replace HE := hid (HE.out.trans hE); replace q1 := HE.out.cellS HC1.out; replace q2 := HE.out.cellS HC2.out; clear hE)
    | (go_at_call_of 186 a1; refine (show Calls Try.prog 186 #[.agg #[.iface 82 (.slice a1 l1.length c1)]] _ fun e w' => e = .returned (.bool true) ∧ Ext _ w' from is_IsList Any (.list l1) _ _ (HT1.out.ext HE.out)).mono ?_; rintro e wn ⟨rfl, hE⟩; replace HE := hid (HE.out.trans hE); replace q1 := HE.out.cellS HC1.out; replace q2 := HE.out.cellS HC2.out; clear hE)
    | (go_at_call_of 186 a2; refine (show Calls Try.prog 186 #[.agg #[.iface 82 (.slice a2 l2.length c2)]] _ fun e w' => e = .returned (.bool true) ∧ Ext _ w' from is_IsList Any (.list l2) _ _ (HT2.out.ext HE.out)).mono ?_; rintro e wn ⟨rfl, hE⟩; replace HE := hid (HE.out.trans hE); replace q1 := HE.out.cellS HC1.out; replace q2 := HE.out.cellS HC2.out; clear hE)
    | (go_at_call_of 187 a1; refine (show Calls Try.prog 187 #[.agg #[.iface 82 (.slice a1 l1.length c1)]] _ fun e w' => e = .returned (.bool false) ∧ Ext _ w' from is_IsMap Any (.list l1) _ _ (HT1.out.ext HE.out)).mono ?_; rintro e wn ⟨rfl, hE⟩; replace HE := hid (HE.out.trans hE); replace q1 := HE.out.cellS HC1.out; replace q2 := HE.out.cellS HC2.out; clear hE)
    | (go_at_call_of 187 a2; refine (show Calls Try.prog 187 #[.agg #[.iface 82 (.slice a2 l2.length c2)]] _ fun e w' => e = .returned (.bool false) ∧ Ext _ w' from is_IsMap Any (.list l2) _ _ (HT2.out.ext HE.out)).mono ?_; rintro e wn ⟨rfl, hE⟩; replace HE := hid (HE.out.trans hE); replace q1 := HE.out.cellS HC1.out; replace q2 := HE.out.cellS HC2.out; clear hE)
    | (go_at_call_of 179 a1; refine (aslu_any a1 l1.length c1 _ _).mono ?_; rintro e wn ⟨rfl, hE⟩; replace HE := hid (HE.out.trans hE); replace q1 := HE.out.cellS HC1.out; replace q2 := HE.out.cellS HC2.out; clear hE)
    | (go_at_call_of 179 a2; refine (aslu_any a2 l2.length c2 _ _).mono ?_; rintro e wn ⟨rfl, hE⟩; replace HE := hid (HE.out.trans hE); replace q1 := HE.out.cellS HC1.out; replace q2 := HE.out.cellS HC2.out; clear hE)
    | (go_at_call 142; refine (lcu_any z l1 l2 al a1 a2 c1 c2 _ hn1 hn2 (HI1.out.ext HE.out) (HI2.out.ext HE.out) HZ.out).mono ?_; rintro e wn ⟨rfl, hE⟩; replace HE := hid (HE.out.trans hE); replace q1 := HE.out.cellS HC1.out; replace q2 := HE.out.cellS HC2.out; clear hE))
  refine leaves_cons (f := 174) (args := #[.pointer (some al), .iface 315 (.slice a2 l2.length c2)]) (by simp) (by simp [go_sem]) ?_
  refine (free_d al _ _ .returning _).mono ?_
  rintro e u' w'' ⟨rfl, rfl, rfl⟩
  refine leaves_cons (f := 174) (args := #[.pointer (some al), .iface 315 (.slice a1 l1.length c1)]) (by simp [settle]) (by simp [go_sem]) ?_
  refine (free_d al _ _ .returning _).mono ?_
  rintro e u' w'' ⟨rfl, rfl, rfl⟩
  exact ⟨_, results_tmp rfl _ _ _, rfl, HE.out⟩
set_option maxHeartbeats 4000000 in
theorem cmpu_map (z : Tree → Tree → Int) (m1 m2 : List (ByteArray × Tree)) (hz : ∀ p ∈ m1, ∀ q ∈ m2, CmpU p.2 q.2 (z p.2 q.2)) : CmpU (.map m1) (.map m2) (cmpMs z m1 m2) := by
  intro w al x1 x2 h1 h2
  obtain ⟨b1, v1, rfl, -, hb1, hT1⟩ := h1
  obtain ⟨b2, v2, rfl, -, hb2, hT2⟩ := h2
  obtain ⟨r1, rfl, -, hm1⟩ := hT1.toM
  obtain ⟨r2, rfl, -, hm2⟩ := hT2.toM
  have HM1 := hid hm1
  have HM2 := hid hm2
  have HZ := hid hz
  clear hm1 hm2 hz
  have HT1 := hid hT1
  have HT2 := hid hT2
  have HC1 := hid (show w.cell? ⟨b1, 0, none⟩ = some (.iface 159 (.map (some r1))) from (cell_of_heap hb1 0).trans rfl)
  have HC2 := hid (show w.cell? ⟨b2, 0, none⟩ = some (.iface 159 (.map (some r2))) from (cell_of_heap hb2 0).trans rfl)
  have q1 := HC1.out
  have q2 := HC2.out
  have HE := hid (Ext.refl w)
  clear hb1 hb2 hT1 hT2
  go_enter_defers Try.func130, Try.ntmps130
  go_wp2_with (first
    | (go_at_call_of 188 r1; refine (show Calls Try.prog 188 #[.agg #[.iface 159 (.map (some r1))]] _ fun e w' => e = .returned (.bool false) ∧ Ext _ w' from is_IsNull Any (.map m1) _ _ (HT1.out.ext HE.out)).mono ?_; rintro e wn ⟨rfl, hE⟩; replace HE := hid (HE.out.trans hE); replace q1 := HE.out.cellS HC1.out; replace q2 := HE.out.cellS HC2.out; clear hE)
    | (go_at_call_of 188 r2; refine (show Calls Try.prog 188 #[.agg #[.iface 159 (.map (some r2))]] _ fun e w' => e = .returned (.bool false) ∧ Ext _ w' from is_IsNull Any (.map m2) _ _ (HT2.out.ext HE.out)).mono ?_; rintro e wn ⟨rfl, hE⟩; replace HE := hid (HE.out.trans hE); replace q1 := HE.out.cellS HC1.out; replace q2 := HE.out.cellS HC2.out; clear hE)
    | (go_at_call_of 183 r1; refine (show Calls Try.prog 183 #[.agg #[.iface 159 (.map (some r1))]] _ fun e w' => e = .returned (.bool false) ∧ Ext _ w' from is_IsBool Any (.map m1) _ _ (HT1.out.ext HE.out)).mono ?_; rintro e wn ⟨rfl, hE⟩; replace HE := hid (HE.out.trans hE); replace q1 := HE.out.cellS HC1.out; replace q2 := HE.out.cellS HC2.out; clear hE)
    | (go_at_call_of 183 r2; refine (show Calls Try.prog 183 #[.agg #[.iface 159 (.map (some r2))]] _ fun e w' => e = .returned (.bool false) ∧ Ext _ w' from is_IsBool Any (.map m2) _ _ (HT2.out.ext HE.out)).mono ?_; rintro e wn ⟨rfl, hE⟩; replace HE := hid (HE.out.trans hE); replace q1 := HE.out.cellS HC1.out; replace q2 := HE.out.cellS HC2.out; clear hE)
    | (go_at_call_of 185 r1; refine (show Calls Try.prog 185 #[.agg #[.iface 159 (.map (some r1))]] _ fun e w' => e = .returned (.bool false) ∧ Ext _ w' from is_IsInt Any (.map m1) _ _ (HT1.out.ext HE.out)).mono ?_; rintro e wn ⟨rfl, hE⟩; replace HE := hid (HE.out.trans hE); replace q1 := HE.out.cellS HC1.out; replace q2 := HE.out.cellS HC2.out; clear hE)
    | (go_at_call_of 185 r2; refine (show Calls Try.prog 185 #[.agg #[.iface 159 (.map (some r2))]] _ fun e w' => e = .returned (.bool false) ∧ Ext _ w' from is_IsInt Any (.map m2) _ _ (HT2.out.ext HE.out)).mono ?_; rintro e wn ⟨rfl, hE⟩; replace HE := hid (HE.out.trans hE); replace q1 := HE.out.cellS HC1.out; replace q2 := HE.out.cellS HC2.out; clear hE)
    | (go_at_call_of 184 r1; refine (show Calls Try.prog 184 #[.agg #[.iface 159 (.map (some r1))]] _ fun e w' => e = .returned (.bool false) ∧ Ext _ w' from is_IsFloat Any (.map m1) _ _ (HT1.out.ext HE.out)).mono ?_; rintro e wn ⟨rfl, hE⟩; replace HE := hid (HE.out.trans hE); replace q1 := HE.out.cellS HC1.out; replace q2 := HE.out.cellS HC2.out; clear hE)
    | (go_at_call_of 184 r2; refine (show Calls Try.prog 184 #[.agg #[.iface 159 (.map (some r2))]] _ fun e w' => e = .returned (.bool false) ∧ Ext _ w' from is_IsFloat Any (.map m2) _ _ (HT2.out.ext HE.out)).mono ?_; rintro e wn ⟨rfl, hE⟩; replace HE := hid (HE.out.trans hE); replace q1 := HE.out.cellS HC1.out; replace q2 := HE.out.cellS HC2.out; clear hE)
    | (go_at_call_of 189 r1; refine (show Calls Try.prog 189 #[.agg #[.iface 159 (.map (some r1))]] _ fun e w' => e = .returned (.bool false) ∧ Ext _ w' from is_IsString Any (.map m1) _ _ (HT1.out.ext HE.out)).mono ?_; rintro e wn ⟨rfl, hE⟩; replace HE := hid (HE.out.trans hE); replace q1 := HE.out.cellS HC1.out; replace q2 := HE.out.cellS HC2.out; clear hE)
    | (go_at_call_of 189 r2; refine (show Calls Try.prog 189 #[.agg #[.iface 159 (.map (some r2))]] _ fun e w' => e = .returned (.bool false) ∧ Ext _ w' from is_IsString Any (.map m2) _ _ (HT2.out.ext HE.out)).mono ?_; rintro e wn ⟨rfl, hE⟩; replace HE := hid (HE.out.trans hE); replace q1 := HE.out.cellS HC1.out; replace q2 := HE.out.cellS HC2.out; clear hE)
    | (go_at_call_of 186 r1; refine (show Calls Try.prog 186 #[.agg #[.iface 159 (.map (some r1))]] _ fun e w' => e = .returned (.bool false) ∧ Ext _ w' from is_IsList Any (.map m1) _ _ (HT1.out.ext HE.out)).mono ?_; rintro e wn ⟨rfl, hE⟩; replace HE := hid (HE.out.trans hE); replace q1 := HE.out.cellS HC1.out; replace q2 := HE.out.cellS HC2.out; clear hE)
    | (go_at_call_of 186 r2; refine (show Calls Try.prog 186 #[.agg #[.iface 159 (.map (some r2))]] _ fun e w' => e = .returned (.bool false) ∧ Ext _ w' from is_IsList Any (.map m2) _ _ (HT2.out.ext HE.out)).mono ?_; rintro e wn ⟨rfl, hE⟩; replace HE := hid (HE.out.trans hE); replace q1 := HE.out.cellS HC1.out; replace q2 := HE.out.cellS HC2.out; clear hE)
    | (go_at_call_of 187 r1; refine (show Calls Try.prog 187 #[.agg #[.iface 159 (.map (some r1))]] _ fun e w' => e = .returned (.bool true) ∧ Ext _ w' from is_IsMap Any (.map m1) _ _ (HT1.out.ext HE.out)).mono ?_; rintro e wn ⟨rfl, hE⟩; replace HE := hid (HE.out.trans hE); replace q1 := HE.out.cellS HC1.out; replace q2 := HE.out.cellS HC2.out; clear hE)
    | (go_at_call_of 187 r2; refine (show Calls Try.prog 187 #[.agg #[.iface 159 (.map (some r2))]] _ fun e w' => e = .returned (.bool true) ∧ Ext _ w' from is_IsMap Any (.map m2) _ _ (HT2.out.ext HE.out)).mono ?_; rintro e wn ⟨rfl, hE⟩; replace HE := hid (HE.out.trans hE); replace q1 := HE.out.cellS HC1.out; replace q2 := HE.out.cellS HC2.out; clear hE)
    | (go_at_call_of 181 r1; refine (asmapu_any r1 _ _).mono ?_; rintro e wn ⟨rfl, hE⟩; replace HE := hid (HE.out.trans hE); replace q1 := HE.out.cellS HC1.out; replace q2 := HE.out.cellS HC2.out; clear hE)
    | (go_at_call_of 181 r2; refine (asmapu_any r2 _ _).mono ?_; rintro e wn ⟨rfl, hE⟩; replace HE := hid (HE.out.trans hE); replace q1 := HE.out.cellS HC1.out; replace q2 := HE.out.cellS HC2.out; clear hE)
    | (go_at_call 143; refine (mcu_any z m1 m2 r1 r2 al _ (HM1.out.ext HE.out) (HM2.out.ext HE.out) HZ.out).mono ?_; rintro e wn ⟨rfl, hE⟩; replace HE := hid (HE.out.trans hE); replace q1 := HE.out.cellS HC1.out; replace q2 := HE.out.cellS HC2.out; clear hE))
  refine leaves_cons (f := 174) (args := #[.pointer (some al), .iface 316 (.map (some r2))]) (by simp) (by simp [go_sem]) ?_
  refine (free_d al _ _ .returning _).mono ?_
  rintro e u' w'' ⟨rfl, rfl, rfl⟩
  refine leaves_cons (f := 174) (args := #[.pointer (some al), .iface 316 (.map (some r1))]) (by simp [settle]) (by simp [go_sem]) ?_
  refine (free_d al _ _ .returning _).mono ?_
  rintro e u' w'' ⟨rfl, rfl, rfl⟩
  exact ⟨_, results_tmp rfl _ _ _, rfl, HE.out⟩
theorem cmpu_all : ∀ (n : Nat) (t1 t2 : Tree), SizeOf.sizeOf t1 ≤ n → CmpU t1 t2 (cmpT t1 t2)
  | 0, t1, _, h => by have := t1.size_pos; omega
  | n + 1, t1, t2, h => by
    by_cases hr : rankC (kcode t1) = rankC (kcode t2)
    · cases t1 <;> cases t2 <;> (first | (refine absurd hr ?_; simp [rankC, kcode]; done) | skip)
      · rw [cmpT_null_null]; exact cmpu_null
      · rw [cmpT_bool_bool]; exact cmpu_bool _ _
      · rw [cmpT_int_int]; exact cmpu_int _ _
      · rw [cmpT_int_flt]; exact cmpu_if _ _
      · rw [cmpT_flt_int]; exact cmpu_fi _ _
      · rw [cmpT_flt_flt]; exact cmpu_flt _ _
      · rw [cmpT_str_str]; exact cmpu_str _ _
      · rw [cmpT_list]
        exact cmpu_list cmpT _ _ fun a ha b _ => cmpu_all n a b (by have := Tree.mem_list ha; omega)
      · rw [cmpT_map]
        exact cmpu_map cmpT _ _ fun p hp q _ => cmpu_all n p.2 q.2 (by have := Tree.size_map (k := p.1) (t := p.2) hp; omega)
    · rw [cmpT_kinds hr]
      exact fun W al x1 x2 h1 h2 => cmpu_kinds t1 t2 x1 x2 (some al) W h1 h2 hr
theorem cmpU (t1 t2 : Tree) : CmpU t1 t2 (cmpT t1 t2) := cmpu_all _ t1 t2 (Nat.le_refl _)
end Go.Proofs.Ytempfaefopfobaa
