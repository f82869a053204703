/- FnKindsInOrder: two values of different kinds compare as their kinds do, whatever they hold: numbers come before strings, strings before bools, bools before lists, lists before maps and maps before null; they are never equal; for every input. -/
import Derived.Test.YtoodkpaebbopnaaCmpKinds
import Derived.Test.YtoodkpaebbopnaaFits
import Derived.Test.YtoodkpaebbopnaaRel
import Derived.ChangeMaps5
namespace Go.Proofs.Ytoodkpaebbopnaa.fnKinds
open Go.ChangeShapes Go.WideShapes Go.ChangeAt Go.RowKit
set_option linter.unusedSimpArgs false
set_option linter.unusedVariables false

/-- the kind of a value, in its order -/
def kindG (k : Int) : Int := if (k == 2) = true then 0 else if (k == 3) = true then 0 else if (k == 4) = true then 1 else if (k == 1) = true then 2 else if (k == 5) = true then 3 else if (k == 6) = true then 4 else 5
theorem kind_rank (g : GV) : kindG g.kind = (rankC (kcode (plainT g)) : Int) := by
  obtain ⟨k, n, f, s, ks, l⟩ := g
  simp only [GV.kind, plainT, kindG]
  by_cases h1 : k = 1
  · subst h1; rfl
  · by_cases h2 : k = 2
    · subst h2; rfl
    · by_cases h3 : k = 3
      · subst h3; rfl
      · by_cases h4 : k = 4
        · subst h4; rfl
        · by_cases h5 : k = 5
          · subst h5; rfl
          · by_cases h6 : k = 6
            · subst h6; rfl
            · simp [h1, h2, h3, h4, h5, h6, kcode, rankC]

set_option maxRecDepth 100000 in
theorem Compare_kinds (t1 t2 : Tree) (x1 x2 : Value) (w : World) (h1 : RepVal Any w t1 x1) (h2 : RepVal Any w t2 x2) (hne : rankC (kcode t1) ≠ rankC (kcode t2)) :
    Calls Try.prog 57 #[x1, x2] w fun e w' => e = .returned (.int .i64 (cmpC (kcode t1) (kcode t2))) ∧ Ext w w' := by
  have HC := hid (fun (W : World) (al : Option Addr) (E : Ext w W) => cmpu_kinds t1 t2 x1 x2 al W (h1.ext E) (h2.ext E) hne)
  obtain ⟨b1, v1, rfl, -⟩ := h1
  obtain ⟨b2, v2, rfl, -⟩ := h2
  clear hne
  go_enter Try.func57, Try.ntmps57
  go_wp2_with (go_at_call 99; refine (HC.out _ _ ((Ext.refl w).alloc _)).mono ?_; rintro e w2 ⟨rfl, hE⟩)
  go_ret
  exact ⟨rfl, ((Ext.refl w).alloc _).trans hE⟩
set_option maxRecDepth 100000 in
theorem Equals_kinds (t1 t2 : Tree) (x1 x2 : Value) (w : World) (h1 : RepVal Any w t1 x1) (h2 : RepVal Any w t2 x2) (hne : rankC (kcode t1) ≠ rankC (kcode t2)) :
    Calls Try.prog 58 #[x1, x2] w fun e w' => e = .returned (.bool false) ∧ Ext w w' := by
  have HC := hid (fun (W : World) (al : Option Addr) (E : Ext w W) => equ_kinds t1 t2 x1 x2 al W (h1.ext E) (h2.ext E) hne)
  obtain ⟨b1, v1, rfl, -⟩ := h1
  obtain ⟨b2, v2, rfl, -⟩ := h2
  clear hne
  go_enter Try.func58, Try.ntmps58
  go_wp2_with (go_at_call 100; refine (HC.out _ _ ((Ext.refl w).alloc _)).mono ?_; rintro e w2 ⟨rfl, hE⟩)
  go_ret
  exact ⟨rfl, ((Ext.refl w).alloc _).trans hE⟩
set_option maxRecDepth 100000 in
theorem Less_kinds (t1 t2 : Tree) (x1 x2 : Value) (w : World) (h1 : RepVal Any w t1 x1) (h2 : RepVal Any w t2 x2) (hne : rankC (kcode t1) ≠ rankC (kcode t2)) :
    Calls Try.prog 53 #[x1, x2] w fun e w' => e = .returned (.bool (cmpC (kcode t1) (kcode t2) == -1)) ∧ Ext w w' := by
  have HC := hid (Compare_kinds t1 t2 x1 x2 w h1 h2 hne)
  obtain ⟨b1, v1, rfl, -⟩ := h1
  obtain ⟨b2, v2, rfl, -⟩ := h2
  clear hne
  generalize cmpC (kcode t1) (kcode t2) = z at *
  go_enter Try.func53, Try.ntmps53
  go_wp2_with (go_at_call 57; refine HC.out.mono ?_; rintro e w2 ⟨rfl, hE⟩)
  go_ret
  exact ⟨rfl, hE⟩

set_option maxRecDepth 100000 in
set_option maxHeartbeats 2000000 in
theorem CompareValues_kinds (ga gb : GV) (w : World) (ca cb : List Value) (hA : RepGV Any w ga ca) (hB : RepGV Any w gb cb) (hne : rankC (kcode (plainT ga)) ≠ rankC (kcode (plainT gb))) :
    Calls Try.prog 19 #[.agg ca.toArray, .agg cb.toArray] w fun e w' => e = .returned (.int .i64 (cmpC (kcode (plainT ga)) (kcode (plainT gb)))) ∧ Ext w w' := by
  have HA := hid hA
  have HB := hid hB
  have HN := hid hne
  obtain ⟨k, n, f, s, a1, b1, c1, a2, b2, c2, rfl⟩ := hA.form
  obtain ⟨k', n', f', s', a1', b1', c1', a2', b2', c2', rfl⟩ := hB.form
  clear hA hB hne
  go_enter Try.func19, Try.ntmps19
  go_upto_region 1 with fail
  obtain ⟨x1, x2, hEE⟩ := boxes2 w (.cells #[.int .i64 k, .int .i64 n, .float .f64 f, .string s, .slice a1 b1 c1, .slice a2 b2 c2] 26) (.cells #[.int .i64 k', .int .i64 n', .float .f64 f', .string s', .slice a1' b1' c1', .slice a2' b2' c2'] 26) _ (Below.refl _ _)
  generalize (w.alloc (.cells #[.int .i64 k, .int .i64 n, .float .f64 f, .string s, .slice a1 b1 c1, .slice a2 b2 c2] 26)).alloc (.cells #[.int .i64 k', .int .i64 n', .float .f64 f', .string s', .slice a1' b1' c1', .slice a2' b2' c2'] 26) = w1 at *
  have HE1 := hid hEE
  have K := hid (show ∀ w' : World, Ext w1 w' → (fun w' : World => w'.cell? ⟨w.heap.size, 0, none⟩ = some (.int .i64 k) ∧ w'.cell? ⟨w.heap.size, 1, none⟩ = some (.int .i64 n) ∧ w'.cell? ⟨w.heap.size, 2, none⟩ = some (.float .f64 f) ∧ w'.cell? ⟨w.heap.size, 3, none⟩ = some (.string s) ∧ w'.cell? ⟨w.heap.size, 4, none⟩ = some (.slice a1 b1 c1) ∧ w'.cell? ⟨w.heap.size, 5, none⟩ = some (.slice a2 b2 c2) ∧ w'.cell? ⟨w.heap.size + 1, 0, none⟩ = some (.int .i64 k') ∧ w'.cell? ⟨w.heap.size + 1, 1, none⟩ = some (.int .i64 n') ∧ w'.cell? ⟨w.heap.size + 1, 2, none⟩ = some (.float .f64 f') ∧ w'.cell? ⟨w.heap.size + 1, 3, none⟩ = some (.string s') ∧ w'.cell? ⟨w.heap.size + 1, 4, none⟩ = some (.slice a1' b1' c1') ∧ w'.cell? ⟨w.heap.size + 1, 5, none⟩ = some (.slice a2' b2' c2')) w' from fun w' h => by
    obtain ⟨⟨z0, z1, z2, z3, z4, z5⟩, -⟩ := slot6 (h.block x1)
    obtain ⟨⟨y0, y1, y2, y3, y4, y5⟩, -⟩ := slot6 (h.block x2)
    exact ⟨z0, z1, z2, z3, z4, z5, y0, y1, y2, y3, y4, y5⟩)
  clear x1 x2 hEE
  go_region_held3 (fun w' : World => w'.cell? ⟨w.heap.size, 0, none⟩ = some (.int .i64 k) ∧ w'.cell? ⟨w.heap.size, 1, none⟩ = some (.int .i64 n) ∧ w'.cell? ⟨w.heap.size, 2, none⟩ = some (.float .f64 f) ∧ w'.cell? ⟨w.heap.size, 3, none⟩ = some (.string s) ∧ w'.cell? ⟨w.heap.size, 4, none⟩ = some (.slice a1 b1 c1) ∧ w'.cell? ⟨w.heap.size, 5, none⟩ = some (.slice a2 b2 c2) ∧ w'.cell? ⟨w.heap.size + 1, 0, none⟩ = some (.int .i64 k') ∧ w'.cell? ⟨w.heap.size + 1, 1, none⟩ = some (.int .i64 n') ∧ w'.cell? ⟨w.heap.size + 1, 2, none⟩ = some (.float .f64 f') ∧ w'.cell? ⟨w.heap.size + 1, 3, none⟩ = some (.string s') ∧ w'.cell? ⟨w.heap.size + 1, 4, none⟩ = some (.slice a1' b1' c1') ∧ w'.cell? ⟨w.heap.size + 1, 5, none⟩ = some (.slice a2' b2' c2'))
    (first | with_reducible exact K.out _ HE7.out | with_reducible exact K.out _ HE6.out | with_reducible exact K.out _ HE5.out | with_reducible exact K.out _ (Ext.refl w1).drew)
    (first
      | (go_at_call_of 54 k; refine (toValue_any ga _ _ (HA.out.ext HE1.out.drew)).mono ?_; rintro e w5 ⟨x, rfl, hV, hE⟩; have HE5 := hid ((Ext.refl w1).drew.trans hE); have HV1 := hid (hV.weak (S' := Any) (fun _ _ _ => trivial)); obtain ⟨bb1, vv1, rfl, -⟩ := hV; clear hE)
      | (go_at_call_of 54 k'; refine (toValue_any gb _ _ (HB.out.ext (HE1.out.trans HE5.out))).mono ?_; rintro e w6 ⟨x, rfl, hV, hE⟩; have HE56 := hid hE; have HE6 := hid (HE5.out.trans hE); have HV2 := hid (hV.weak (S' := Any) (fun _ _ _ => trivial)); obtain ⟨bb2, vv2, rfl, -⟩ := hV; clear hE)
      | (go_at_call 57; refine (Compare_kinds _ _ _ _ _ (HV1.out.ext HE56.out) HV2.out HN.out).mono ?_; rintro e w7 ⟨rfl, hE⟩; have HE7 := hid (HE6.out.trans hE); clear hE))
  all_goals
    go_wp2_with fail
    go_ret
    exact ⟨rfl, HE1.out.trans HE7.out⟩

set_option maxRecDepth 100000 in
set_option maxHeartbeats 2000000 in
theorem EqualValues_kinds (ga gb : GV) (w : World) (ca cb : List Value) (hA : RepGV Any w ga ca) (hB : RepGV Any w gb cb) (hne : rankC (kcode (plainT ga)) ≠ rankC (kcode (plainT gb))) :
    Calls Try.prog 21 #[.agg ca.toArray, .agg cb.toArray] w fun e w' => e = .returned (.bool false) ∧ Ext w w' := by
  have HA := hid hA
  have HB := hid hB
  have HN := hid hne
  obtain ⟨k, n, f, s, a1, b1, c1, a2, b2, c2, rfl⟩ := hA.form
  obtain ⟨k', n', f', s', a1', b1', c1', a2', b2', c2', rfl⟩ := hB.form
  clear hA hB hne
  go_enter Try.func21, Try.ntmps21
  go_upto_region 1 with fail
  obtain ⟨x1, x2, hEE⟩ := boxes2 w (.cells #[.int .i64 k, .int .i64 n, .float .f64 f, .string s, .slice a1 b1 c1, .slice a2 b2 c2] 26) (.cells #[.int .i64 k', .int .i64 n', .float .f64 f', .string s', .slice a1' b1' c1', .slice a2' b2' c2'] 26) _ (Below.refl _ _)
  generalize (w.alloc (.cells #[.int .i64 k, .int .i64 n, .float .f64 f, .string s, .slice a1 b1 c1, .slice a2 b2 c2] 26)).alloc (.cells #[.int .i64 k', .int .i64 n', .float .f64 f', .string s', .slice a1' b1' c1', .slice a2' b2' c2'] 26) = w1 at *
  have HE1 := hid hEE
  have K := hid (show ∀ w' : World, Ext w1 w' → (fun w' : World => w'.cell? ⟨w.heap.size, 0, none⟩ = some (.int .i64 k) ∧ w'.cell? ⟨w.heap.size, 1, none⟩ = some (.int .i64 n) ∧ w'.cell? ⟨w.heap.size, 2, none⟩ = some (.float .f64 f) ∧ w'.cell? ⟨w.heap.size, 3, none⟩ = some (.string s) ∧ w'.cell? ⟨w.heap.size, 4, none⟩ = some (.slice a1 b1 c1) ∧ w'.cell? ⟨w.heap.size, 5, none⟩ = some (.slice a2 b2 c2) ∧ w'.cell? ⟨w.heap.size + 1, 0, none⟩ = some (.int .i64 k') ∧ w'.cell? ⟨w.heap.size + 1, 1, none⟩ = some (.int .i64 n') ∧ w'.cell? ⟨w.heap.size + 1, 2, none⟩ = some (.float .f64 f') ∧ w'.cell? ⟨w.heap.size + 1, 3, none⟩ = some (.string s') ∧ w'.cell? ⟨w.heap.size + 1, 4, none⟩ = some (.slice a1' b1' c1') ∧ w'.cell? ⟨w.heap.size + 1, 5, none⟩ = some (.slice a2' b2' c2')) w' from fun w' h => by
    obtain ⟨⟨z0, z1, z2, z3, z4, z5⟩, -⟩ := slot6 (h.block x1)
    obtain ⟨⟨y0, y1, y2, y3, y4, y5⟩, -⟩ := slot6 (h.block x2)
    exact ⟨z0, z1, z2, z3, z4, z5, y0, y1, y2, y3, y4, y5⟩)
  clear x1 x2 hEE
  go_region_held3 (fun w' : World => w'.cell? ⟨w.heap.size, 0, none⟩ = some (.int .i64 k) ∧ w'.cell? ⟨w.heap.size, 1, none⟩ = some (.int .i64 n) ∧ w'.cell? ⟨w.heap.size, 2, none⟩ = some (.float .f64 f) ∧ w'.cell? ⟨w.heap.size, 3, none⟩ = some (.string s) ∧ w'.cell? ⟨w.heap.size, 4, none⟩ = some (.slice a1 b1 c1) ∧ w'.cell? ⟨w.heap.size, 5, none⟩ = some (.slice a2 b2 c2) ∧ w'.cell? ⟨w.heap.size + 1, 0, none⟩ = some (.int .i64 k') ∧ w'.cell? ⟨w.heap.size + 1, 1, none⟩ = some (.int .i64 n') ∧ w'.cell? ⟨w.heap.size + 1, 2, none⟩ = some (.float .f64 f') ∧ w'.cell? ⟨w.heap.size + 1, 3, none⟩ = some (.string s') ∧ w'.cell? ⟨w.heap.size + 1, 4, none⟩ = some (.slice a1' b1' c1') ∧ w'.cell? ⟨w.heap.size + 1, 5, none⟩ = some (.slice a2' b2' c2'))
    (first | with_reducible exact K.out _ HE7.out | with_reducible exact K.out _ HE6.out | with_reducible exact K.out _ HE5.out | with_reducible exact K.out _ (Ext.refl w1).drew)
    (first
      | (go_at_call_of 54 k; refine (toValue_any ga _ _ (HA.out.ext HE1.out.drew)).mono ?_; rintro e w5 ⟨x, rfl, hV, hE⟩; have HE5 := hid ((Ext.refl w1).drew.trans hE); have HV1 := hid (hV.weak (S' := Any) (fun _ _ _ => trivial)); obtain ⟨bb1, vv1, rfl, -⟩ := hV; clear hE)
      | (go_at_call_of 54 k'; refine (toValue_any gb _ _ (HB.out.ext (HE1.out.trans HE5.out))).mono ?_; rintro e w6 ⟨x, rfl, hV, hE⟩; have HE56 := hid hE; have HE6 := hid (HE5.out.trans hE); have HV2 := hid (hV.weak (S' := Any) (fun _ _ _ => trivial)); obtain ⟨bb2, vv2, rfl, -⟩ := hV; clear hE)
      | (go_at_call 58; refine (Equals_kinds _ _ _ _ _ (HV1.out.ext HE56.out) HV2.out HN.out).mono ?_; rintro e w7 ⟨rfl, hE⟩; have HE7 := hid (HE6.out.trans hE); clear hE))
  all_goals
    go_wp2_with fail
    go_ret
    exact ⟨rfl, HE1.out.trans HE7.out⟩

set_option maxRecDepth 100000 in
set_option maxHeartbeats 2000000 in
theorem LessValues_kinds (ga gb : GV) (w : World) (ca cb : List Value) (hA : RepGV Any w ga ca) (hB : RepGV Any w gb cb) (hne : rankC (kcode (plainT ga)) ≠ rankC (kcode (plainT gb))) :
    Calls Try.prog 16 #[.agg ca.toArray, .agg cb.toArray] w fun e w' => e = .returned (.bool (cmpC (kcode (plainT ga)) (kcode (plainT gb)) == -1)) ∧ Ext w w' := by
  have HA := hid hA
  have HB := hid hB
  have HN := hid hne
  obtain ⟨k, n, f, s, a1, b1, c1, a2, b2, c2, rfl⟩ := hA.form
  obtain ⟨k', n', f', s', a1', b1', c1', a2', b2', c2', rfl⟩ := hB.form
  clear hA hB hne
  go_enter Try.func16, Try.ntmps16
  go_upto_region 1 with fail
  obtain ⟨x1, x2, hEE⟩ := boxes2 w (.cells #[.int .i64 k, .int .i64 n, .float .f64 f, .string s, .slice a1 b1 c1, .slice a2 b2 c2] 26) (.cells #[.int .i64 k', .int .i64 n', .float .f64 f', .string s', .slice a1' b1' c1', .slice a2' b2' c2'] 26) _ (Below.refl _ _)
  generalize (w.alloc (.cells #[.int .i64 k, .int .i64 n, .float .f64 f, .string s, .slice a1 b1 c1, .slice a2 b2 c2] 26)).alloc (.cells #[.int .i64 k', .int .i64 n', .float .f64 f', .string s', .slice a1' b1' c1', .slice a2' b2' c2'] 26) = w1 at *
  have HE1 := hid hEE
  have K := hid (show ∀ w' : World, Ext w1 w' → (fun w' : World => w'.cell? ⟨w.heap.size, 0, none⟩ = some (.int .i64 k) ∧ w'.cell? ⟨w.heap.size, 1, none⟩ = some (.int .i64 n) ∧ w'.cell? ⟨w.heap.size, 2, none⟩ = some (.float .f64 f) ∧ w'.cell? ⟨w.heap.size, 3, none⟩ = some (.string s) ∧ w'.cell? ⟨w.heap.size, 4, none⟩ = some (.slice a1 b1 c1) ∧ w'.cell? ⟨w.heap.size, 5, none⟩ = some (.slice a2 b2 c2) ∧ w'.cell? ⟨w.heap.size + 1, 0, none⟩ = some (.int .i64 k') ∧ w'.cell? ⟨w.heap.size + 1, 1, none⟩ = some (.int .i64 n') ∧ w'.cell? ⟨w.heap.size + 1, 2, none⟩ = some (.float .f64 f') ∧ w'.cell? ⟨w.heap.size + 1, 3, none⟩ = some (.string s') ∧ w'.cell? ⟨w.heap.size + 1, 4, none⟩ = some (.slice a1' b1' c1') ∧ w'.cell? ⟨w.heap.size + 1, 5, none⟩ = some (.slice a2' b2' c2')) w' from fun w' h => by
    obtain ⟨⟨z0, z1, z2, z3, z4, z5⟩, -⟩ := slot6 (h.block x1)
    obtain ⟨⟨y0, y1, y2, y3, y4, y5⟩, -⟩ := slot6 (h.block x2)
    exact ⟨z0, z1, z2, z3, z4, z5, y0, y1, y2, y3, y4, y5⟩)
  clear x1 x2 hEE
  go_region_held3 (fun w' : World => w'.cell? ⟨w.heap.size, 0, none⟩ = some (.int .i64 k) ∧ w'.cell? ⟨w.heap.size, 1, none⟩ = some (.int .i64 n) ∧ w'.cell? ⟨w.heap.size, 2, none⟩ = some (.float .f64 f) ∧ w'.cell? ⟨w.heap.size, 3, none⟩ = some (.string s) ∧ w'.cell? ⟨w.heap.size, 4, none⟩ = some (.slice a1 b1 c1) ∧ w'.cell? ⟨w.heap.size, 5, none⟩ = some (.slice a2 b2 c2) ∧ w'.cell? ⟨w.heap.size + 1, 0, none⟩ = some (.int .i64 k') ∧ w'.cell? ⟨w.heap.size + 1, 1, none⟩ = some (.int .i64 n') ∧ w'.cell? ⟨w.heap.size + 1, 2, none⟩ = some (.float .f64 f') ∧ w'.cell? ⟨w.heap.size + 1, 3, none⟩ = some (.string s') ∧ w'.cell? ⟨w.heap.size + 1, 4, none⟩ = some (.slice a1' b1' c1') ∧ w'.cell? ⟨w.heap.size + 1, 5, none⟩ = some (.slice a2' b2' c2'))
    (first | with_reducible exact K.out _ HE7.out | with_reducible exact K.out _ HE6.out | with_reducible exact K.out _ HE5.out | with_reducible exact K.out _ (Ext.refl w1).drew)
    (first
      | (go_at_call_of 54 k; refine (toValue_any ga _ _ (HA.out.ext HE1.out.drew)).mono ?_; rintro e w5 ⟨x, rfl, hV, hE⟩; have HE5 := hid ((Ext.refl w1).drew.trans hE); have HV1 := hid (hV.weak (S' := Any) (fun _ _ _ => trivial)); obtain ⟨bb1, vv1, rfl, -⟩ := hV; clear hE)
      | (go_at_call_of 54 k'; refine (toValue_any gb _ _ (HB.out.ext (HE1.out.trans HE5.out))).mono ?_; rintro e w6 ⟨x, rfl, hV, hE⟩; have HE56 := hid hE; have HE6 := hid (HE5.out.trans hE); have HV2 := hid (hV.weak (S' := Any) (fun _ _ _ => trivial)); obtain ⟨bb2, vv2, rfl, -⟩ := hV; clear hE)
      | (go_at_call 53; refine (Less_kinds _ _ _ _ _ (HV1.out.ext HE56.out) HV2.out HN.out).mono ?_; rintro e w7 ⟨rfl, hE⟩; have HE7 := hid (HE6.out.trans hE); clear hE))
  all_goals
    go_wp2_with fail
    go_ret
    exact ⟨rfl, HE1.out.trans HE7.out⟩

set_option maxRecDepth 100000 in
theorem kindOf_any (g : GV) (w : World) (cs : List Value) (hR : RepGV Any w g cs) : Calls Try.prog 22 #[.agg cs.toArray] w fun e w' => e = .returned (.int .i64 (kindG g.kind)) ∧ Ext w w' := by
  obtain ⟨k, n, f, s, ks, l⟩ := g
  cases hR with
  | @mk _ _ _ _ _ _ kv la lb lo lc hk hn hf hs hks hle hsz ha hcs hl =>
  obtain ⟨a, b, o, cap, rfl, -⟩ := hks
  simp only [GV.kind]
  clear hk hn hf hs hle hsz ha hcs hl
  go_enter Try.func22, Try.ntmps22
  go_wp2_with fail
  all_goals
    go_ret
    refine ⟨congrArg (fun z => Ending.returned (.int .i64 z)) (?_ : (_ : Int) = kindG k), (Ext.refl _).alloc _⟩
    simp only [kindG, *, if_true, if_false, Bool.false_eq_true]
set_option maxRecDepth 100000 in
theorem ints_lt (a b : Int) (h : a < b) (w : World) : Calls Try.prog 23 #[.int .i64 a, .int .i64 b] w fun e w' => e = .returned (.int .i64 (-1)) ∧ Ext w w' := by
  go_enter Try.func23, Try.ntmps23
  go_wp2_with fail
  go_ret
  exact ⟨rfl, Ext.refl _⟩
set_option maxRecDepth 100000 in
theorem ints_gt (a b : Int) (h : b < a) (w : World) : Calls Try.prog 23 #[.int .i64 a, .int .i64 b] w fun e w' => e = .returned (.int .i64 1) ∧ Ext w w' := by
  go_enter Try.func23, Try.ntmps23
  have hd : ¬ a < b := by omega
  go_wp2_with fail
  go_ret
  exact ⟨rfl, Ext.refl _⟩

set_option maxRecDepth 100000 in
set_option maxHeartbeats 1000000 in
theorem law_of (ga gb : GV) (x1 x2 z : Int) (bl be : Bool) (w : World) (ca cb : List Value) (hA : RepGV Any w ga ca) (hB : RepGV Any w gb cb)
    (K1 : Hid (∀ W x, RepGV Any W ga x → Calls Try.prog 22 #[.agg x.toArray] W fun e w' => e = .returned (.int .i64 x1) ∧ Ext W w'))
    (K2 : Hid (∀ W x, RepGV Any W gb x → Calls Try.prog 22 #[.agg x.toArray] W fun e w' => e = .returned (.int .i64 x2) ∧ Ext W w'))
    (HQ : Hid ((x1 == x2) = be)) (HL : Hid (decide (x1 < x2) = bl))
    (M1 : Hid (be = false → ∀ W x y, RepGV Any W ga x → RepGV Any W gb y → Calls Try.prog 19 #[.agg x.toArray, .agg y.toArray] W fun e w' => e = .returned (.int .i64 z) ∧ Ext W w'))
    (M2 : Hid (be = false → ∀ W x y, RepGV Any W ga x → RepGV Any W gb y → Calls Try.prog 21 #[.agg x.toArray, .agg y.toArray] W fun e w' => e = .returned (.bool false) ∧ Ext W w'))
    (M3 : Hid (be = false → ∀ W x y, RepGV Any W ga x → RepGV Any W gb y → Calls Try.prog 16 #[.agg x.toArray, .agg y.toArray] W fun e w' => e = .returned (.bool bl) ∧ Ext W w'))
    (M4 : Hid (be = false → ∀ W, Calls Try.prog 23 #[.int .i64 x1, .int .i64 x2] W fun e w' => e = .returned (.int .i64 z) ∧ Ext W w')) :
    Calls Try.prog 5 #[.agg ca.toArray, .agg cb.toArray] w fun e w' => e = .returned (.bool true) ∧ Ext w w' := by
  have HA := hid hA
  have HB := hid hB
  obtain ⟨k, n, f, s, a1, b1, c1, a2, b2, c2, rfl⟩ := hA.form
  obtain ⟨k', n', f', s', a1', b1', c1', a2', b2', c2', rfl⟩ := hB.form
  clear hA hB
  have HX := hid (boxes2 w (.cells #[.int .i64 k, .int .i64 n, .float .f64 f, .string s, .slice a1 b1 c1, .slice a2 b2 c2] 26) (.cells #[.int .i64 k', .int .i64 n', .float .f64 f', .string s', .slice a1' b1' c1', .slice a2' b2' c2'] 26))
  go_enter Try.func5, Try.ntmps5
  go_wp2_with (first
    | (go_at_call_of 14 k; refine (fits5_any ga _ _ (HA.out.ext (((Ext.refl _).alloc _).alloc _))).mono ?_; rintro e w2 ⟨b, rfl, hE⟩; have HB2 := hid (show Below (w.heap.size + 2) _ w2 from Below.mono hE (by simp)); obtain ⟨x1', x2', hEE⟩ := HX.out w2 HB2.out; obtain ⟨⟨z0, z1, z2, z3, z4, z5⟩, -⟩ := slot6 x1'; obtain ⟨⟨y0, y1, y2, y3, y4, y5⟩, -⟩ := slot6 x2'; have HE2 := hid hEE; cases b <;> clear hE x1' x2' hEE)
    | (go_at_call_of 14 k'; refine (fits5_any gb _ _ (HB.out.ext HE2.out)).mono ?_; rintro e w3 ⟨b, rfl, hE⟩; have HB3 := hid (below_ext HB2.out hE (by have := HB2.out.size; simp at this; omega)); have HE3 := hid (HE2.out.trans hE); cases b <;> clear hE))
  all_goals trace "at"
  all_goals first | (go_ret; first | exact ⟨rfl, HE3.out⟩ | exact ⟨rfl, HE2.out⟩) | skip
  obtain ⟨x1', x2', hEE⟩ := HX.out w3 HB3.out
  have X1 := hid x1'
  have X2 := hid x2'
  clear z0 z1 z2 z3 z4 z5 y0 y1 y2 y3 y4 y5 x1' x2' hEE
  have K := hid (show ∀ w' : World, Ext w3 w' → (fun w' : World => w'.cell? ⟨w.heap.size, 0, none⟩ = some (.int .i64 k) ∧ w'.cell? ⟨w.heap.size, 1, none⟩ = some (.int .i64 n) ∧ w'.cell? ⟨w.heap.size, 2, none⟩ = some (.float .f64 f) ∧ w'.cell? ⟨w.heap.size, 3, none⟩ = some (.string s) ∧ w'.cell? ⟨w.heap.size, 4, none⟩ = some (.slice a1 b1 c1) ∧ w'.cell? ⟨w.heap.size, 5, none⟩ = some (.slice a2 b2 c2) ∧ w'.cell? ⟨w.heap.size + 1, 0, none⟩ = some (.int .i64 k') ∧ w'.cell? ⟨w.heap.size + 1, 1, none⟩ = some (.int .i64 n') ∧ w'.cell? ⟨w.heap.size + 1, 2, none⟩ = some (.float .f64 f') ∧ w'.cell? ⟨w.heap.size + 1, 3, none⟩ = some (.string s') ∧ w'.cell? ⟨w.heap.size + 1, 4, none⟩ = some (.slice a1' b1' c1') ∧ w'.cell? ⟨w.heap.size + 1, 5, none⟩ = some (.slice a2' b2' c2')) w' from fun w' h => by
    obtain ⟨⟨z0, z1, z2, z3, z4, z5⟩, -⟩ := slot6 (h.block X1.out)
    obtain ⟨⟨y0, y1, y2, y3, y4, y5⟩, -⟩ := slot6 (h.block X2.out)
    exact ⟨z0, z1, z2, z3, z4, z5, y0, y1, y2, y3, y4, y5⟩)
  go_region_held3 (fun w' : World => w'.cell? ⟨w.heap.size, 0, none⟩ = some (.int .i64 k) ∧ w'.cell? ⟨w.heap.size, 1, none⟩ = some (.int .i64 n) ∧ w'.cell? ⟨w.heap.size, 2, none⟩ = some (.float .f64 f) ∧ w'.cell? ⟨w.heap.size, 3, none⟩ = some (.string s) ∧ w'.cell? ⟨w.heap.size, 4, none⟩ = some (.slice a1 b1 c1) ∧ w'.cell? ⟨w.heap.size, 5, none⟩ = some (.slice a2 b2 c2) ∧ w'.cell? ⟨w.heap.size + 1, 0, none⟩ = some (.int .i64 k') ∧ w'.cell? ⟨w.heap.size + 1, 1, none⟩ = some (.int .i64 n') ∧ w'.cell? ⟨w.heap.size + 1, 2, none⟩ = some (.float .f64 f') ∧ w'.cell? ⟨w.heap.size + 1, 3, none⟩ = some (.string s') ∧ w'.cell? ⟨w.heap.size + 1, 4, none⟩ = some (.slice a1' b1' c1') ∧ w'.cell? ⟨w.heap.size + 1, 5, none⟩ = some (.slice a2' b2' c2'))
    (first | with_reducible exact K.out _ HE6.out | with_reducible exact K.out _ HE5.out | with_reducible exact K.out _ (Ext.refl w3).drew)
    (first
      | (go_at_call_of 22 k; refine (K1.out _ _ (HA.out.ext HE3.out.drew)).mono ?_; rintro e w5 ⟨rfl, hE⟩; have HE5 := hid ((Ext.refl w3).drew.trans hE); clear hE)
      | (go_at_call_of 22 k'; refine (K2.out _ _ (HB.out.ext (HE3.out.trans HE5.out))).mono ?_; rintro e w6 ⟨rfl, hE⟩; have HE6 := hid (HE5.out.trans hE); clear hE))
  all_goals
    trace "behind"
    have hq := HQ.out
    cases be
    · have N1 := hid (M1.out rfl)
      have N2 := hid (M2.out rfl)
      have N3 := hid (M3.out rfl)
      have N4 := hid (M4.out rfl)
      have hl := HL.out
      clear M1 M2 M3 M4
      obtain ⟨⟨z0, z1, z2, z3, z4, z5⟩, -⟩ := slot6 (HE6.out.block X1.out)
      obtain ⟨⟨y0, y1, y2, y3, y4, y5⟩, -⟩ := slot6 (HE6.out.block X2.out)
      have HE := hid HE6.out
      go_wp2_with (first
        | (go_at_call 19; refine (N1.out _ _ _ (HA.out.ext (HE3.out.trans HE.out)) (HB.out.ext (HE3.out.trans HE.out))).mono ?_; rintro e w7 ⟨rfl, hE⟩; replace HE := hid (HE.out.trans hE); clear hE z0 z1 z2 z3 z4 z5 y0 y1 y2 y3 y4 y5; obtain ⟨⟨z0, z1, z2, z3, z4, z5⟩, -⟩ := slot6 (HE.out.block X1.out); obtain ⟨⟨y0, y1, y2, y3, y4, y5⟩, -⟩ := slot6 (HE.out.block X2.out))
        | (go_at_call 23; refine (N4.out _).mono ?_; rintro e w7 ⟨rfl, hE⟩; replace HE := hid (HE.out.trans hE); clear hE z0 z1 z2 z3 z4 z5 y0 y1 y2 y3 y4 y5; obtain ⟨⟨z0, z1, z2, z3, z4, z5⟩, -⟩ := slot6 (HE.out.block X1.out); obtain ⟨⟨y0, y1, y2, y3, y4, y5⟩, -⟩ := slot6 (HE.out.block X2.out))
        | (go_at_call 21; refine (N2.out _ _ _ (HA.out.ext (HE3.out.trans HE.out)) (HB.out.ext (HE3.out.trans HE.out))).mono ?_; rintro e w7 ⟨rfl, hE⟩; replace HE := hid (HE.out.trans hE); clear hE z0 z1 z2 z3 z4 z5 y0 y1 y2 y3 y4 y5; obtain ⟨⟨z0, z1, z2, z3, z4, z5⟩, -⟩ := slot6 (HE.out.block X1.out); obtain ⟨⟨y0, y1, y2, y3, y4, y5⟩, -⟩ := slot6 (HE.out.block X2.out))
        | (go_at_call 16; refine (N3.out _ _ _ (HA.out.ext (HE3.out.trans HE.out)) (HB.out.ext (HE3.out.trans HE.out))).mono ?_; rintro e w7 ⟨rfl, hE⟩; replace HE := hid (HE.out.trans hE); clear hE))
      go_ret
      exact ⟨by simp [hl], HE3.out.trans HE.out⟩
    · go_wp2_with fail
      go_ret
      exact ⟨rfl, HE3.out.trans HE6.out⟩

theorem walk (ga gb : GV) (w : World) (ca cb : List Value) (hA : RepGV Any w ga ca) (hB : RepGV Any w gb cb) :
    Calls Try.prog 5 #[.agg ca.toArray, .agg cb.toArray] w fun e w' => e = .returned (.bool true) ∧ Ext w w' := by
  have hk1 := kind_rank ga
  have hk2 := kind_rank gb
  have hc1 := kcode_le (plainT ga)
  have hc2 := kcode_le (plainT gb)
  have hne : (kindG ga.kind == kindG gb.kind) = false → rankC (kcode (plainT ga)) ≠ rankC (kcode (plainT gb)) := by
    intro h e
    rw [hk1, hk2, e] at h
    simp at h
  have hz : (kindG ga.kind == kindG gb.kind) = false → (kindG ga.kind < kindG gb.kind ∧ cmpC (kcode (plainT ga)) (kcode (plainT gb)) = -1) ∨ (kindG gb.kind < kindG ga.kind ∧ cmpC (kcode (plainT ga)) (kcode (plainT gb)) = 1) := by
    intro h
    have hn := hne h
    rw [cmpC_rank hc1 hc2 hn, hk1, hk2]
    by_cases hl : rankC (kcode (plainT ga)) < rankC (kcode (plainT gb))
    · exact .inl ⟨by omega, by rw [if_pos hl]⟩
    · exact .inr ⟨by omega, by rw [if_neg hl]⟩
  refine law_of ga gb (kindG ga.kind) (kindG gb.kind) (cmpC (kcode (plainT ga)) (kcode (plainT gb))) (decide (kindG ga.kind < kindG gb.kind)) (kindG ga.kind == kindG gb.kind) w ca cb hA hB
    (hid (fun W x h => kindOf_any ga W x h)) (hid (fun W x h => kindOf_any gb W x h)) (hid rfl) (hid rfl) (hid ?_) (hid ?_) (hid ?_) (hid ?_)
  · exact fun h W x y hx hy => CompareValues_kinds ga gb W x y hx hy (hne h)
  · exact fun h W x y hx hy => EqualValues_kinds ga gb W x y hx hy (hne h)
  · intro h W x y hx hy
    have := LessValues_kinds ga gb W x y hx hy (hne h)
    rcases hz h with ⟨h1, h2⟩ | ⟨h1, h2⟩
    · rw [h2] at this
      rwa [decide_eq_true h1]
    · rw [h2] at this
      rwa [decide_eq_false (by omega)]
  · intro h W
    rcases hz h with ⟨h1, h2⟩ | ⟨h1, h2⟩
    · rw [h2]; exact ints_lt _ _ h1 W
    · rw [h2]; exact ints_gt _ _ h1 W

theorem own : ownKnob Try.prog.godebug = none := by kernel_rfl
set_option maxRecDepth 100000 in
theorem lifted (os : Os) (started : os.Started) (H : Type) (enc : TypeId × Value → H) :
    ReturnsInHanded {} Try.checked os 5 .any (Rows.fnKindsInOrderSpec.pre6 enc Try.prog Try.f5 Rows.fnKindsInOrderRow.domain false) (Rows.fnKindsInOrderSpec.post enc Try.prog Try.f5 false true false false) := by
  refine law_lifted (C := Try.checked) own started (by kernel_rfl) Try.func5 (by kernel_rfl)
    (fun t ht => by rw [Try.params5] at ht; simp at ht; subst ht; exact ⟨by kernel_rfl, of_decide_eq_true (by kernel_rfl)⟩) (by kernel_rfl) rfl
    (fun ds hl => by rw [Try.params5] at hl; match ds, hl with | [d1, d2], _ => exact ⟨rfl, rfl, rfl⟩)
    (ChangeSpec.witness6 (enc := enc) (C := Try.checked) false ⟨#[], #[.agg #[.int .i64 0, .int .i64 0, .float .f64 0, .string ⟨#[]⟩, .slice none 0 0, .slice none 0 0], .agg #[.int .i64 0, .int .i64 0, .float .f64 0, .string ⟨#[]⟩, .slice none 0 0, .slice none 0 0]], []⟩ 8 (by kernel_rfl) (by kernel_rfl) (by kernel_rfl) (by kernel_rfl)) ?_
  intro W base args ds p hval hA hsz
  rw [Try.params5] at hA hval hsz
  obtain ⟨v0, v1, d0, d1, p0, p1, rfl, rfl, rfl, h0, h1⟩ := trodAll_two hA
  obtain ⟨cs, rfl, _⟩ := okWide_struct Try.underlying26 (hval 0 26 v0 rfl rfl)
  obtain ⟨cs2, rfl, _⟩ := okWide_struct Try.underlying26 (hval 1 26 v1 rfl rfl)
  have hw : ∀ n ∈ DataW.weightsEach Try.prog [26, 26] [d0, d1], n ≤ 140737488351232 := by
    intro n hn
    exact of_decide_eq_true (List.all_eq_true.1 hsz n hn)
  obtain ⟨fuel, h0⟩ := h0
  obtain ⟨fuel2, h1⟩ := h1
  obtain ⟨g, hg⟩ := open_gv fuel cs.toList (d0, p0) h0 (weightsEach_mem (j := 0) rfl rfl hw)
  obtain ⟨g2, hg2⟩ := open_gv fuel2 cs2.toList (d1, p1) h1 (weightsEach_mem (j := 1) rfl rfl hw)
  have := walk g g2 W cs.toList cs2.toList hg hg2
  rwa [Array.toArray_toList, Array.toArray_toList] at this

theorem over : Rows.fnKindsInOrderRow.holds Try.pinned (OpenSpec.ofChange Rows.fnKindsInOrderSpec) :=
  OpenClaim.holds_of_wide 5 Try.f5 rfl rfl rfl rfl rfl rfl rfl ⟨rfl, rfl, rfl, rfl, rfl⟩ rfl rfl rfl rfl rfl (by kernel_rfl) Try.func5 (by kernel_rfl)
    (of_decide_eq_true (by kernel_rfl)) (by unfold Func.isWrapper; first | (rw [if_pos (by decide +kernel)]; kernel_rfl) | (rw [if_neg (by decide +kernel)]; exact ⟨rfl, rfl⟩))
    (fun os started H enc _ => lifted os started H enc)

theorem proved : Rows.FnKindsInOrderSaid :=
  over
#print axioms proved
end Go.Proofs.Ytoodkpaebbopnaa.fnKinds
