/- CmpOf: value.Compare, Equals, Less and impl's CompareValues, EqualValues, LessValues, of what CompareUsing and EqualsUsing say; two strings. -/
import Derived.Test.YtoodkpaebbopnaaIs
import Derived.Test.YtoodkpaebbopnaaStrCmp
import Derived.Defers
import Derived.Deep.RegionHeld3
namespace Go.Proofs.Ytoodkpaebbopnaa
open Go.ChangeShapes Go.WideShapes Go.ChangeAt Go.RowKit
set_option linter.unusedVariables false
set_option linter.unusedSimpArgs false

/-- what CompareUsing says of two trees -/
def CmpU (t1 t2 : Tree) (z : Int) : Prop := ∀ (W : World) (al : Addr) (x1 x2 : Value), RepVal Any W t1 x1 → RepVal Any W t2 x2 → Calls Try.prog 99 #[.iface 127 (.pointer (some al)), x1, x2] W fun e W' => e = .returned (.int .i64 z) ∧ Ext W W'
def EquU (t1 t2 : Tree) (b : Bool) : Prop := ∀ (W : World) (al : Addr) (x1 x2 : Value), RepVal Any W t1 x1 → RepVal Any W t2 x2 → Calls Try.prog 100 #[.iface 127 (.pointer (some al)), x1, x2] W fun e W' => e = .returned (.bool b) ∧ Ext W W'
set_option maxRecDepth 100000 in
theorem Compare_of (t1 t2 : Tree) (z : Int) (hC : CmpU t1 t2 z) (x1 x2 : Value) (w : World) (h1 : RepVal Any w t1 x1) (h2 : RepVal Any w t2 x2) :
    Calls Try.prog 57 #[x1, x2] w fun e w' => e = .returned (.int .i64 z) ∧ Ext w w' := by
  have HC := hid (fun (W : World) (al : Addr) (E : Ext w W) => hC W al x1 x2 (h1.ext E) (h2.ext E))
  obtain ⟨b1, v1, rfl, -⟩ := h1
  obtain ⟨b2, v2, rfl, -⟩ := h2
  clear hC
  go_enter Try.func57, Try.ntmps57
  go_wp2_with (go_at_call 99; refine (HC.out _ _ ((Ext.refl w).alloc _)).mono ?_; rintro e w2 ⟨rfl, hE⟩)
  go_ret
  exact ⟨rfl, ((Ext.refl w).alloc _).trans hE⟩
set_option maxRecDepth 100000 in
theorem Equals_of (t1 t2 : Tree) (z : Bool) (hC : EquU t1 t2 z) (x1 x2 : Value) (w : World) (h1 : RepVal Any w t1 x1) (h2 : RepVal Any w t2 x2) :
    Calls Try.prog 58 #[x1, x2] w fun e w' => e = .returned (.bool z) ∧ Ext w w' := by
  have HC := hid (fun (W : World) (al : Addr) (E : Ext w W) => hC W al x1 x2 (h1.ext E) (h2.ext E))
  obtain ⟨b1, v1, rfl, -⟩ := h1
  obtain ⟨b2, v2, rfl, -⟩ := h2
  clear hC
  go_enter Try.func58, Try.ntmps58
  go_wp2_with (go_at_call 100; refine (HC.out _ _ ((Ext.refl w).alloc _)).mono ?_; rintro e w2 ⟨rfl, hE⟩)
  go_ret
  exact ⟨rfl, ((Ext.refl w).alloc _).trans hE⟩
set_option maxRecDepth 100000 in
theorem Less_of (t1 t2 : Tree) (z : Int) (hC : CmpU t1 t2 z) (x1 x2 : Value) (w : World) (h1 : RepVal Any w t1 x1) (h2 : RepVal Any w t2 x2) :
    Calls Try.prog 53 #[x1, x2] w fun e w' => e = .returned (.bool (z == -1)) ∧ Ext w w' := by
  have HC := hid (Compare_of t1 t2 z hC x1 x2 w h1 h2)
  obtain ⟨b1, v1, rfl, -⟩ := h1
  obtain ⟨b2, v2, rfl, -⟩ := h2
  clear hC
  go_enter Try.func53, Try.ntmps53
  go_wp2_with (go_at_call 57; refine HC.out.mono ?_; rintro e w2 ⟨rfl, hE⟩)
  go_ret
  exact ⟨rfl, hE⟩
set_option maxRecDepth 100000 in
set_option maxHeartbeats 2000000 in
theorem CompareValues_of (ga gb : GV) (z : Int) (hC : CmpU (plainT ga) (plainT gb) z) (w : World) (ca cb : List Value) (hA : RepGV Any w ga ca) (hB : RepGV Any w gb cb) :
    Calls Try.prog 19 #[.agg ca.toArray, .agg cb.toArray] w fun e w' => e = .returned (.int .i64 z) ∧ Ext w w' := by
  have HA := hid hA
  have HB := hid hB
  have HN := hid hC
  obtain ⟨k, n, f, s, a1, b1, c1, a2, b2, c2, rfl⟩ := hA.form
  obtain ⟨k', n', f', s', a1', b1', c1', a2', b2', c2', rfl⟩ := hB.form
  clear hA hB hC
  go_enter Try.func19, Try.ntmps19
  go_upto_region 1 with fail
  obtain ⟨x1, x2, hEE⟩ := boxes2 w (.cells #[.int .i64 k, .int .i64 n, .float .f64 f, .string s, .slice a1 b1 c1, .slice a2 b2 c2] 26) (.cells #[.int .i64 k', .int .i64 n', .float .f64 f', .string s', .slice a1' b1' c1', .slice a2' b2' c2'] 26) _ (Below.refl _ _)
  generalize (w.alloc (.cells #[.int .i64 k, .int .i64 n, .float .f64 f, .string s, .slice a1 b1 c1, .slice a2 b2 c2] 26)).alloc (.cells #[.int .i64 k', .int .i64 n', .float .f64 f', .string s', .slice a1' b1' c1', .slice a2' b2' c2'] 26) = w1 at *
  have HE1 := hid hEE
  have K := hid (show ∀ w' : World, Ext w1 w' → (fun w' : World => w'.cell? ⟨w.heap.size, 0, none⟩ = some (.int .i64 k) ∧ w'.cell? ⟨w.heap.size, 1, none⟩ = some (.int .i64 n) ∧ w'.cell? ⟨w.heap.size, 2, none⟩ = some (.float .f64 f) ∧ w'.cell? ⟨w.heap.size, 3, none⟩ = some (.string s) ∧ w'.cell? ⟨w.heap.size, 4, none⟩ = some (.slice a1 b1 c1) ∧ w'.cell? ⟨w.heap.size, 5, none⟩ = some (.slice a2 b2 c2) ∧ w'.cell? ⟨w.heap.size + 1, 0, none⟩ = some (.int .i64 k') ∧ w'.cell? ⟨w.heap.size + 1, 1, none⟩ = some (.int .i64 n') ∧ w'.cell? ⟨w.heap.size + 1, 2, none⟩ = some (.float .f64 f') ∧ w'.cell? ⟨w.heap.size + 1, 3, none⟩ = some (.string s') ∧ w'.cell? ⟨w.heap.size + 1, 4, none⟩ = some (.slice a1' b1' c1') ∧ w'.cell? ⟨w.heap.size + 1, 5, none⟩ = some (.slice a2' b2' c2')) w' from fun w' h => by
    obtain ⟨⟨z0, z1, z2, z3, z4, z5⟩, -⟩ := slot6 (h.block x1)
    obtain ⟨⟨y0, y1, y2, y3, y4, y5⟩, -⟩ := slot6 (h.block x2)
    exact ⟨z0, z1, z2, z3, z4, z5, y0, y1, y2, y3, y4, y5⟩)
  clear x1 x2 hEE
  go_region_held3 (fun w' : World => w'.cell? ⟨w.heap.size, 0, none⟩ = some (.int .i64 k) ∧ w'.cell? ⟨w.heap.size, 1, none⟩ = some (.int .i64 n) ∧ w'.cell? ⟨w.heap.size, 2, none⟩ = some (.float .f64 f) ∧ w'.cell? ⟨w.heap.size, 3, none⟩ = some (.string s) ∧ w'.cell? ⟨w.heap.size, 4, none⟩ = some (.slice a1 b1 c1) ∧ w'.cell? ⟨w.heap.size, 5, none⟩ = some (.slice a2 b2 c2) ∧ w'.cell? ⟨w.heap.size + 1, 0, none⟩ = some (.int .i64 k') ∧ w'.cell? ⟨w.heap.size + 1, 1, none⟩ = some (.int .i64 n') ∧ w'.cell? ⟨w.heap.size + 1, 2, none⟩ = some (.float .f64 f') ∧ w'.cell? ⟨w.heap.size + 1, 3, none⟩ = some (.string s') ∧ w'.cell? ⟨w.heap.size + 1, 4, none⟩ = some (.slice a1' b1' c1') ∧ w'.cell? ⟨w.heap.size + 1, 5, none⟩ = some (.slice a2' b2' c2'))
    (first | with_reducible exact K.out _ HE7.out | with_reducible exact K.out _ HE6.out | with_reducible exact K.out _ HE5.out | with_reducible exact K.out _ (Ext.refl w1).drew)
    (first
      | (go_at_call_of 54 k; refine (toValue_any ga _ _ (HA.out.ext HE1.out.drew)).mono ?_; rintro e w5 ⟨x, rfl, hV, hE⟩; have HE5 := hid ((Ext.refl w1).drew.trans hE); have HV1 := hid (hV.weak (S' := Any) (fun _ _ _ => trivial)); obtain ⟨bb1, vv1, rfl, -⟩ := hV; clear hE)
      | (go_at_call_of 54 k'; refine (toValue_any gb _ _ (HB.out.ext (HE1.out.trans HE5.out))).mono ?_; rintro e w6 ⟨x, rfl, hV, hE⟩; have HE56 := hid hE; have HE6 := hid (HE5.out.trans hE); have HV2 := hid (hV.weak (S' := Any) (fun _ _ _ => trivial)); obtain ⟨bb2, vv2, rfl, -⟩ := hV; clear hE)
      | (go_at_call 57; refine (Compare_of _ _ z HN.out _ _ _ (HV1.out.ext HE56.out) HV2.out).mono ?_; rintro e w7 ⟨rfl, hE⟩; have HE7 := hid (HE6.out.trans hE); clear hE))
  all_goals
    go_wp2_with fail
    go_ret
    exact ⟨rfl, HE1.out.trans HE7.out⟩
set_option maxRecDepth 100000 in
set_option maxHeartbeats 2000000 in
theorem EqualValues_of (ga gb : GV) (z : Bool) (hC : EquU (plainT ga) (plainT gb) z) (w : World) (ca cb : List Value) (hA : RepGV Any w ga ca) (hB : RepGV Any w gb cb) :
    Calls Try.prog 21 #[.agg ca.toArray, .agg cb.toArray] w fun e w' => e = .returned (.bool z) ∧ Ext w w' := by
  have HA := hid hA
  have HB := hid hB
  have HN := hid hC
  obtain ⟨k, n, f, s, a1, b1, c1, a2, b2, c2, rfl⟩ := hA.form
  obtain ⟨k', n', f', s', a1', b1', c1', a2', b2', c2', rfl⟩ := hB.form
  clear hA hB hC
  go_enter Try.func21, Try.ntmps21
  go_upto_region 1 with fail
  obtain ⟨x1, x2, hEE⟩ := boxes2 w (.cells #[.int .i64 k, .int .i64 n, .float .f64 f, .string s, .slice a1 b1 c1, .slice a2 b2 c2] 26) (.cells #[.int .i64 k', .int .i64 n', .float .f64 f', .string s', .slice a1' b1' c1', .slice a2' b2' c2'] 26) _ (Below.refl _ _)
  generalize (w.alloc (.cells #[.int .i64 k, .int .i64 n, .float .f64 f, .string s, .slice a1 b1 c1, .slice a2 b2 c2] 26)).alloc (.cells #[.int .i64 k', .int .i64 n', .float .f64 f', .string s', .slice a1' b1' c1', .slice a2' b2' c2'] 26) = w1 at *
  have HE1 := hid hEE
  have K := hid (show ∀ w' : World, Ext w1 w' → (fun w' : World => w'.cell? ⟨w.heap.size, 0, none⟩ = some (.int .i64 k) ∧ w'.cell? ⟨w.heap.size, 1, none⟩ = some (.int .i64 n) ∧ w'.cell? ⟨w.heap.size, 2, none⟩ = some (.float .f64 f) ∧ w'.cell? ⟨w.heap.size, 3, none⟩ = some (.string s) ∧ w'.cell? ⟨w.heap.size, 4, none⟩ = some (.slice a1 b1 c1) ∧ w'.cell? ⟨w.heap.size, 5, none⟩ = some (.slice a2 b2 c2) ∧ w'.cell? ⟨w.heap.size + 1, 0, none⟩ = some (.int .i64 k') ∧ w'.cell? ⟨w.heap.size + 1, 1, none⟩ = some (.int .i64 n') ∧ w'.cell? ⟨w.heap.size + 1, 2, none⟩ = some (.float .f64 f') ∧ w'.cell? ⟨w.heap.size + 1, 3, none⟩ = some (.string s') ∧ w'.cell? ⟨w.heap.size + 1, 4, none⟩ = some (.slice a1' b1' c1') ∧ w'.cell? ⟨w.heap.size + 1, 5, none⟩ = some (.slice a2' b2' c2')) w' from fun w' h => by
    obtain ⟨⟨z0, z1, z2, z3, z4, z5⟩, -⟩ := slot6 (h.block x1)
    obtain ⟨⟨y0, y1, y2, y3, y4, y5⟩, -⟩ := slot6 (h.block x2)
    exact ⟨z0, z1, z2, z3, z4, z5, y0, y1, y2, y3, y4, y5⟩)
  clear x1 x2 hEE
  go_region_held3 (fun w' : World => w'.cell? ⟨w.heap.size, 0, none⟩ = some (.int .i64 k) ∧ w'.cell? ⟨w.heap.size, 1, none⟩ = some (.int .i64 n) ∧ w'.cell? ⟨w.heap.size, 2, none⟩ = some (.float .f64 f) ∧ w'.cell? ⟨w.heap.size, 3, none⟩ = some (.string s) ∧ w'.cell? ⟨w.heap.size, 4, none⟩ = some (.slice a1 b1 c1) ∧ w'.cell? ⟨w.heap.size, 5, none⟩ = some (.slice a2 b2 c2) ∧ w'.cell? ⟨w.heap.size + 1, 0, none⟩ = some (.int .i64 k') ∧ w'.cell? ⟨w.heap.size + 1, 1, none⟩ = some (.int .i64 n') ∧ w'.cell? ⟨w.heap.size + 1, 2, none⟩ = some (.float .f64 f') ∧ w'.cell? ⟨w.heap.size + 1, 3, none⟩ = some (.string s') ∧ w'.cell? ⟨w.heap.size + 1, 4, none⟩ = some (.slice a1' b1' c1') ∧ w'.cell? ⟨w.heap.size + 1, 5, none⟩ = some (.slice a2' b2' c2'))
    (first | with_reducible exact K.out _ HE7.out | with_reducible exact K.out _ HE6.out | with_reducible exact K.out _ HE5.out | with_reducible exact K.out _ (Ext.refl w1).drew)
    (first
      | (go_at_call_of 54 k; refine (toValue_any ga _ _ (HA.out.ext HE1.out.drew)).mono ?_; rintro e w5 ⟨x, rfl, hV, hE⟩; have HE5 := hid ((Ext.refl w1).drew.trans hE); have HV1 := hid (hV.weak (S' := Any) (fun _ _ _ => trivial)); obtain ⟨bb1, vv1, rfl, -⟩ := hV; clear hE)
      | (go_at_call_of 54 k'; refine (toValue_any gb _ _ (HB.out.ext (HE1.out.trans HE5.out))).mono ?_; rintro e w6 ⟨x, rfl, hV, hE⟩; have HE56 := hid hE; have HE6 := hid (HE5.out.trans hE); have HV2 := hid (hV.weak (S' := Any) (fun _ _ _ => trivial)); obtain ⟨bb2, vv2, rfl, -⟩ := hV; clear hE)
      | (go_at_call 58; refine (Equals_of _ _ z HN.out _ _ _ (HV1.out.ext HE56.out) HV2.out).mono ?_; rintro e w7 ⟨rfl, hE⟩; have HE7 := hid (HE6.out.trans hE); clear hE))
  all_goals
    go_wp2_with fail
    go_ret
    exact ⟨rfl, HE1.out.trans HE7.out⟩
set_option maxRecDepth 100000 in
set_option maxHeartbeats 2000000 in
theorem LessValues_of (ga gb : GV) (z : Int) (hC : CmpU (plainT ga) (plainT gb) z) (w : World) (ca cb : List Value) (hA : RepGV Any w ga ca) (hB : RepGV Any w gb cb) :
    Calls Try.prog 16 #[.agg ca.toArray, .agg cb.toArray] w fun e w' => e = .returned (.bool (z == -1)) ∧ Ext w w' := by
  have HA := hid hA
  have HB := hid hB
  have HN := hid hC
  obtain ⟨k, n, f, s, a1, b1, c1, a2, b2, c2, rfl⟩ := hA.form
  obtain ⟨k', n', f', s', a1', b1', c1', a2', b2', c2', rfl⟩ := hB.form
  clear hA hB hC
  go_enter Try.func16, Try.ntmps16
  go_upto_region 1 with fail
  obtain ⟨x1, x2, hEE⟩ := boxes2 w (.cells #[.int .i64 k, .int .i64 n, .float .f64 f, .string s, .slice a1 b1 c1, .slice a2 b2 c2] 26) (.cells #[.int .i64 k', .int .i64 n', .float .f64 f', .string s', .slice a1' b1' c1', .slice a2' b2' c2'] 26) _ (Below.refl _ _)
  generalize (w.alloc (.cells #[.int .i64 k, .int .i64 n, .float .f64 f, .string s, .slice a1 b1 c1, .slice a2 b2 c2] 26)).alloc (.cells #[.int .i64 k', .int .i64 n', .float .f64 f', .string s', .slice a1' b1' c1', .slice a2' b2' c2'] 26) = w1 at *
  have HE1 := hid hEE
  have K := hid (show ∀ w' : World, Ext w1 w' → (fun w' : World => w'.cell? ⟨w.heap.size, 0, none⟩ = some (.int .i64 k) ∧ w'.cell? ⟨w.heap.size, 1, none⟩ = some (.int .i64 n) ∧ w'.cell? ⟨w.heap.size, 2, none⟩ = some (.float .f64 f) ∧ w'.cell? ⟨w.heap.size, 3, none⟩ = some (.string s) ∧ w'.cell? ⟨w.heap.size, 4, none⟩ = some (.slice a1 b1 c1) ∧ w'.cell? ⟨w.heap.size, 5, none⟩ = some (.slice a2 b2 c2) ∧ w'.cell? ⟨w.heap.size + 1, 0, none⟩ = some (.int .i64 k') ∧ w'.cell? ⟨w.heap.size + 1, 1, none⟩ = some (.int .i64 n') ∧ w'.cell? ⟨w.heap.size + 1, 2, none⟩ = some (.float .f64 f') ∧ w'.cell? ⟨w.heap.size + 1, 3, none⟩ = some (.string s') ∧ w'.cell? ⟨w.heap.size + 1, 4, none⟩ = some (.slice a1' b1' c1') ∧ w'.cell? ⟨w.heap.size + 1, 5, none⟩ = some (.slice a2' b2' c2')) w' from fun w' h => by
    obtain ⟨⟨z0, z1, z2, z3, z4, z5⟩, -⟩ := slot6 (h.block x1)
    obtain ⟨⟨y0, y1, y2, y3, y4, y5⟩, -⟩ := slot6 (h.block x2)
    exact ⟨z0, z1, z2, z3, z4, z5, y0, y1, y2, y3, y4, y5⟩)
  clear x1 x2 hEE
  go_region_held3 (fun w' : World => w'.cell? ⟨w.heap.size, 0, none⟩ = some (.int .i64 k) ∧ w'.cell? ⟨w.heap.size, 1, none⟩ = some (.int .i64 n) ∧ w'.cell? ⟨w.heap.size, 2, none⟩ = some (.float .f64 f) ∧ w'.cell? ⟨w.heap.size, 3, none⟩ = some (.string s) ∧ w'.cell? ⟨w.heap.size, 4, none⟩ = some (.slice a1 b1 c1) ∧ w'.cell? ⟨w.heap.size, 5, none⟩ = some (.slice a2 b2 c2) ∧ w'.cell? ⟨w.heap.size + 1, 0, none⟩ = some (.int .i64 k') ∧ w'.cell? ⟨w.heap.size + 1, 1, none⟩ = some (.int .i64 n') ∧ w'.cell? ⟨w.heap.size + 1, 2, none⟩ = some (.float .f64 f') ∧ w'.cell? ⟨w.heap.size + 1, 3, none⟩ = some (.string s') ∧ w'.cell? ⟨w.heap.size + 1, 4, none⟩ = some (.slice a1' b1' c1') ∧ w'.cell? ⟨w.heap.size + 1, 5, none⟩ = some (.slice a2' b2' c2'))
    (first | with_reducible exact K.out _ HE7.out | with_reducible exact K.out _ HE6.out | with_reducible exact K.out _ HE5.out | with_reducible exact K.out _ (Ext.refl w1).drew)
    (first
      | (go_at_call_of 54 k; refine (toValue_any ga _ _ (HA.out.ext HE1.out.drew)).mono ?_; rintro e w5 ⟨x, rfl, hV, hE⟩; have HE5 := hid ((Ext.refl w1).drew.trans hE); have HV1 := hid (hV.weak (S' := Any) (fun _ _ _ => trivial)); obtain ⟨bb1, vv1, rfl, -⟩ := hV; clear hE)
      | (go_at_call_of 54 k'; refine (toValue_any gb _ _ (HB.out.ext (HE1.out.trans HE5.out))).mono ?_; rintro e w6 ⟨x, rfl, hV, hE⟩; have HE56 := hid hE; have HE6 := hid (HE5.out.trans hE); have HV2 := hid (hV.weak (S' := Any) (fun _ _ _ => trivial)); obtain ⟨bb2, vv2, rfl, -⟩ := hV; clear hE)
      | (go_at_call 53; refine (Less_of _ _ z HN.out _ _ _ (HV1.out.ext HE56.out) HV2.out).mono ?_; rintro e w7 ⟨rfl, hE⟩; have HE7 := hid (HE6.out.trans hE); clear hE))
  all_goals
    go_wp2_with fail
    go_ret
    exact ⟨rfl, HE1.out.trans HE7.out⟩
set_option maxRecDepth 100000 in
set_option maxHeartbeats 2000000 in
theorem cmpu_str (a b : ByteArray) : CmpU (.str a) (.str b) (scmp a b) := by
  intro w al x1 x2 h1 h2
  obtain ⟨b1, v1, rfl, -, hb1, hT1⟩ := h1
  obtain ⟨b2, v2, rfl, -, hb2, hT2⟩ := h2
  cases hT1
  cases hT2
  have HC1 := hid (show w.cell? ⟨b1, 0, none⟩ = some (.iface 9 (.string a)) from (cell_of_heap hb1 0).trans rfl)
  have HC2 := hid (show w.cell? ⟨b2, 0, none⟩ = some (.iface 9 (.string b)) from (cell_of_heap hb2 0).trans rfl)
  have q1 := HC1.out
  have q2 := HC2.out
  have HE := hid (Ext.refl w)
  have FS := hid (fun (W : World) (s : ByteArray) (h : s.size ≤ 140737488351232) => RepT.str (S := Any) (w := W) s h)
  have hsa : a.size ≤ 140737488351232 := by assumption
  have hsb : b.size ≤ 140737488351232 := by assumption
  clear hb1 hb2
  go_enter_defers Try.func99, Try.ntmps99
  go_wp2_with (first
    | (go_at_call_of 157 a; refine (show Calls Try.prog 157 #[.agg #[.iface 9 (.string a)]] _ fun e w' => e = .returned (.bool false) ∧ Ext _ w' from is_IsInt Any (.str a) _ _ (FS.out _ a hsa)).mono ?_; rintro e wn ⟨rfl, hE⟩; replace HE := hid (HE.out.trans hE); replace q1 := HE.out.cellS HC1.out; replace q2 := HE.out.cellS HC2.out; clear hE)
    | (go_at_call_of 157 b; refine (show Calls Try.prog 157 #[.agg #[.iface 9 (.string b)]] _ fun e w' => e = .returned (.bool false) ∧ Ext _ w' from is_IsInt Any (.str b) _ _ (FS.out _ b hsb)).mono ?_; rintro e wn ⟨rfl, hE⟩; replace HE := hid (HE.out.trans hE); replace q1 := HE.out.cellS HC1.out; replace q2 := HE.out.cellS HC2.out; clear hE)
    | (go_at_call_of 156 a; refine (show Calls Try.prog 156 #[.agg #[.iface 9 (.string a)]] _ fun e w' => e = .returned (.bool false) ∧ Ext _ w' from is_IsFloat Any (.str a) _ _ (FS.out _ a hsa)).mono ?_; rintro e wn ⟨rfl, hE⟩; replace HE := hid (HE.out.trans hE); replace q1 := HE.out.cellS HC1.out; replace q2 := HE.out.cellS HC2.out; clear hE)
    | (go_at_call_of 156 b; refine (show Calls Try.prog 156 #[.agg #[.iface 9 (.string b)]] _ fun e w' => e = .returned (.bool false) ∧ Ext _ w' from is_IsFloat Any (.str b) _ _ (FS.out _ b hsb)).mono ?_; rintro e wn ⟨rfl, hE⟩; replace HE := hid (HE.out.trans hE); replace q1 := HE.out.cellS HC1.out; replace q2 := HE.out.cellS HC2.out; clear hE)
    | (go_at_call_of 161 a; refine (show Calls Try.prog 161 #[.agg #[.iface 9 (.string a)]] _ fun e w' => e = .returned (.bool true) ∧ Ext _ w' from is_IsString Any (.str a) _ _ (FS.out _ a hsa)).mono ?_; rintro e wn ⟨rfl, hE⟩; replace HE := hid (HE.out.trans hE); replace q1 := HE.out.cellS HC1.out; replace q2 := HE.out.cellS HC2.out; clear hE)
    | (go_at_call_of 161 b; refine (show Calls Try.prog 161 #[.agg #[.iface 9 (.string b)]] _ fun e w' => e = .returned (.bool true) ∧ Ext _ w' from is_IsString Any (.str b) _ _ (FS.out _ b hsb)).mono ?_; rintro e wn ⟨rfl, hE⟩; replace HE := hid (HE.out.trans hE); replace q1 := HE.out.cellS HC1.out; replace q2 := HE.out.cellS HC2.out; clear hE)
    | (go_at_call_of 154 a; refine (as_AsString a _).mono ?_; rintro e wn ⟨rfl, hE⟩; replace HE := hid (HE.out.trans hE); replace q1 := HE.out.cellS HC1.out; replace q2 := HE.out.cellS HC2.out; clear hE)
    | (go_at_call_of 154 b; refine (as_AsString b _).mono ?_; rintro e wn ⟨rfl, hE⟩; replace HE := hid (HE.out.trans hE); replace q1 := HE.out.cellS HC1.out; replace q2 := HE.out.cellS HC2.out; clear hE)
    | (go_at_call 109; refine (strcmp_any _ _ _).mono ?_; rintro e wn ⟨rfl, rfl⟩))
  all_goals exact ⟨_, results_tmp rfl _ _ _, rfl, HE.out⟩
set_option maxRecDepth 100000 in
set_option maxHeartbeats 2000000 in
theorem equ_str (a b : ByteArray) : EquU (.str a) (.str b) (a.toList == b.toList) := by
  intro w al x1 x2 h1 h2
  obtain ⟨b1, v1, rfl, -, hb1, hT1⟩ := h1
  obtain ⟨b2, v2, rfl, -, hb2, hT2⟩ := h2
  cases hT1
  cases hT2
  have HC1 := hid (show w.cell? ⟨b1, 0, none⟩ = some (.iface 9 (.string a)) from (cell_of_heap hb1 0).trans rfl)
  have HC2 := hid (show w.cell? ⟨b2, 0, none⟩ = some (.iface 9 (.string b)) from (cell_of_heap hb2 0).trans rfl)
  have q1 := HC1.out
  have q2 := HC2.out
  have HE := hid (Ext.refl w)
  have FS := hid (fun (W : World) (s : ByteArray) (h : s.size ≤ 140737488351232) => RepT.str (S := Any) (w := W) s h)
  have hsa : a.size ≤ 140737488351232 := by assumption
  have hsb : b.size ≤ 140737488351232 := by assumption
  clear hb1 hb2
  go_enter_defers Try.func100, Try.ntmps100
  go_wp2_with (first
    | (go_at_call_of 157 a; refine (show Calls Try.prog 157 #[.agg #[.iface 9 (.string a)]] _ fun e w' => e = .returned (.bool false) ∧ Ext _ w' from is_IsInt Any (.str a) _ _ (FS.out _ a hsa)).mono ?_; rintro e wn ⟨rfl, hE⟩; replace HE := hid (HE.out.trans hE); replace q1 := HE.out.cellS HC1.out; replace q2 := HE.out.cellS HC2.out; clear hE)
    | (go_at_call_of 157 b; refine (show Calls Try.prog 157 #[.agg #[.iface 9 (.string b)]] _ fun e w' => e = .returned (.bool false) ∧ Ext _ w' from is_IsInt Any (.str b) _ _ (FS.out _ b hsb)).mono ?_; rintro e wn ⟨rfl, hE⟩; replace HE := hid (HE.out.trans hE); replace q1 := HE.out.cellS HC1.out; replace q2 := HE.out.cellS HC2.out; clear hE)
    | (go_at_call_of 156 a; refine (show Calls Try.prog 156 #[.agg #[.iface 9 (.string a)]] _ fun e w' => e = .returned (.bool false) ∧ Ext _ w' from is_IsFloat Any (.str a) _ _ (FS.out _ a hsa)).mono ?_; rintro e wn ⟨rfl, hE⟩; replace HE := hid (HE.out.trans hE); replace q1 := HE.out.cellS HC1.out; replace q2 := HE.out.cellS HC2.out; clear hE)
    | (go_at_call_of 156 b; refine (show Calls Try.prog 156 #[.agg #[.iface 9 (.string b)]] _ fun e w' => e = .returned (.bool false) ∧ Ext _ w' from is_IsFloat Any (.str b) _ _ (FS.out _ b hsb)).mono ?_; rintro e wn ⟨rfl, hE⟩; replace HE := hid (HE.out.trans hE); replace q1 := HE.out.cellS HC1.out; replace q2 := HE.out.cellS HC2.out; clear hE)
    | (go_at_call_of 161 a; refine (show Calls Try.prog 161 #[.agg #[.iface 9 (.string a)]] _ fun e w' => e = .returned (.bool true) ∧ Ext _ w' from is_IsString Any (.str a) _ _ (FS.out _ a hsa)).mono ?_; rintro e wn ⟨rfl, hE⟩; replace HE := hid (HE.out.trans hE); replace q1 := HE.out.cellS HC1.out; replace q2 := HE.out.cellS HC2.out; clear hE)
    | (go_at_call_of 161 b; refine (show Calls Try.prog 161 #[.agg #[.iface 9 (.string b)]] _ fun e w' => e = .returned (.bool true) ∧ Ext _ w' from is_IsString Any (.str b) _ _ (FS.out _ b hsb)).mono ?_; rintro e wn ⟨rfl, hE⟩; replace HE := hid (HE.out.trans hE); replace q1 := HE.out.cellS HC1.out; replace q2 := HE.out.cellS HC2.out; clear hE)
    | (go_at_call_of 154 a; refine (as_AsString a _).mono ?_; rintro e wn ⟨rfl, hE⟩; replace HE := hid (HE.out.trans hE); replace q1 := HE.out.cellS HC1.out; replace q2 := HE.out.cellS HC2.out; clear hE)
    | (go_at_call_of 154 b; refine (as_AsString b _).mono ?_; rintro e wn ⟨rfl, hE⟩; replace HE := hid (HE.out.trans hE); replace q1 := HE.out.cellS HC1.out; replace q2 := HE.out.cellS HC2.out; clear hE))
  all_goals exact ⟨_, results_tmp rfl _ _ _, rfl, HE.out⟩
end Go.Proofs.Ytoodkpaebbopnaa
