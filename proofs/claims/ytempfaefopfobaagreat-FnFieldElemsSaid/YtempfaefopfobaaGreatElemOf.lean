/- ElemOf: boxes of path elements; impl.CompareElems, spec.elemRank. -/
import Derived.Test.YtempfaefopfobaaGreatElemIn
import Derived.Test.YtempfaefopfobaaGreatElemCmp

set_option maxRecDepth 100000
namespace Go.Proofs.YtempfaefopfobaaGreat
open Go.ChangeShapes Go.WideShapes Go.ChangeAt Go.RowKit
set_option linter.unusedVariables false
set_option linter.unusedSimpArgs false

set_option maxHeartbeats 4000000 in
theorem cmpElems_any (ea eb : GE) (w : World) (ca cb : List Value) (hA : RepGE Any w ea ca) (hB : RepGE Any w eb cb) :
    Calls Tryz.prog 6 #[.agg ca.toArray, .agg cb.toArray] w fun e w' => e = .returned (.int .i64 (cmpE (toEl ea) (toEl eb))) ∧ Ext w w' := by
  have HA := hid hA
  have HB := hid hB
  obtain ⟨k, s, a1, n1, c1, a2, n2, c2, v0, v1, v2, v3, v4, v5, n, rfl⟩ := hA.form
  obtain ⟨k', s', a1', n1', c1', a2', n2', c2', v0', v1', v2', v3', v4', v5', n', rfl⟩ := hB.form
  clear hA hB
  go_enter Tryz.func6, Tryz.ntmps6
  go_upto_region 1 with fail
  obtain ⟨x1, x2, hEE⟩ := boxes2 w (.cells #[.int .i64 k, .string s, .slice a1 n1 c1, .slice a2 n2 c2, v0, v1, v2, v3, v4, v5, .int .i64 n] 30) (.cells #[.int .i64 k', .string s', .slice a1' n1' c1', .slice a2' n2' c2', v0', v1', v2', v3', v4', v5', .int .i64 n'] 30) _ (Below.refl _ _)
  generalize (w.alloc (.cells #[.int .i64 k, .string s, .slice a1 n1 c1, .slice a2 n2 c2, v0, v1, v2, v3, v4, v5, .int .i64 n] 30)).alloc (.cells #[.int .i64 k', .string s', .slice a1' n1' c1', .slice a2' n2' c2', v0', v1', v2', v3', v4', v5', .int .i64 n'] 30) = w1 at *
  have HE1 := hid hEE
  have K := hid (show ∀ w' : World, Ext w1 w' → (fun w' : World => w'.cell? ⟨w.heap.size, 0, none⟩ = some (.int .i64 k) ∧ w'.cell? ⟨w.heap.size, 1, none⟩ = some (.string s) ∧ w'.cell? ⟨w.heap.size, 2, none⟩ = some (.slice a1 n1 c1) ∧ w'.cell? ⟨w.heap.size, 3, none⟩ = some (.slice a2 n2 c2) ∧ w'.cell? ⟨w.heap.size, 4, none⟩ = some (v0) ∧ w'.cell? ⟨w.heap.size, 5, none⟩ = some (v1) ∧ w'.cell? ⟨w.heap.size, 6, none⟩ = some (v2) ∧ w'.cell? ⟨w.heap.size, 7, none⟩ = some (v3) ∧ w'.cell? ⟨w.heap.size, 8, none⟩ = some (v4) ∧ w'.cell? ⟨w.heap.size, 9, none⟩ = some (v5) ∧ w'.cell? ⟨w.heap.size, 10, none⟩ = some (.int .i64 n) ∧ w'.cell? ⟨w.heap.size + 1, 0, none⟩ = some (.int .i64 k') ∧ w'.cell? ⟨w.heap.size + 1, 1, none⟩ = some (.string s') ∧ w'.cell? ⟨w.heap.size + 1, 2, none⟩ = some (.slice a1' n1' c1') ∧ w'.cell? ⟨w.heap.size + 1, 3, none⟩ = some (.slice a2' n2' c2') ∧ w'.cell? ⟨w.heap.size + 1, 4, none⟩ = some (v0') ∧ w'.cell? ⟨w.heap.size + 1, 5, none⟩ = some (v1') ∧ w'.cell? ⟨w.heap.size + 1, 6, none⟩ = some (v2') ∧ w'.cell? ⟨w.heap.size + 1, 7, none⟩ = some (v3') ∧ w'.cell? ⟨w.heap.size + 1, 8, none⟩ = some (v4') ∧ w'.cell? ⟨w.heap.size + 1, 9, none⟩ = some (v5') ∧ w'.cell? ⟨w.heap.size + 1, 10, none⟩ = some (.int .i64 n')) w' from fun w' h => by
    obtain ⟨⟨z0, z1, z2, z3, z4, z5, z6, z7, z8, z9, z10⟩, -⟩ := slot11 (h.block x1)
    obtain ⟨⟨y0, y1, y2, y3, y4, y5, y6, y7, y8, y9, y10⟩, -⟩ := slot11 (h.block x2)
    exact ⟨z0, z1, z2, z3, z4, z5, z6, z7, z8, z9, z10, y0, y1, y2, y3, y4, y5, y6, y7, y8, y9, y10⟩)
  clear x1 x2 hEE
  go_region_held3 (fun w' : World => w'.cell? ⟨w.heap.size, 0, none⟩ = some (.int .i64 k) ∧ w'.cell? ⟨w.heap.size, 1, none⟩ = some (.string s) ∧ w'.cell? ⟨w.heap.size, 2, none⟩ = some (.slice a1 n1 c1) ∧ w'.cell? ⟨w.heap.size, 3, none⟩ = some (.slice a2 n2 c2) ∧ w'.cell? ⟨w.heap.size, 4, none⟩ = some (v0) ∧ w'.cell? ⟨w.heap.size, 5, none⟩ = some (v1) ∧ w'.cell? ⟨w.heap.size, 6, none⟩ = some (v2) ∧ w'.cell? ⟨w.heap.size, 7, none⟩ = some (v3) ∧ w'.cell? ⟨w.heap.size, 8, none⟩ = some (v4) ∧ w'.cell? ⟨w.heap.size, 9, none⟩ = some (v5) ∧ w'.cell? ⟨w.heap.size, 10, none⟩ = some (.int .i64 n) ∧ w'.cell? ⟨w.heap.size + 1, 0, none⟩ = some (.int .i64 k') ∧ w'.cell? ⟨w.heap.size + 1, 1, none⟩ = some (.string s') ∧ w'.cell? ⟨w.heap.size + 1, 2, none⟩ = some (.slice a1' n1' c1') ∧ w'.cell? ⟨w.heap.size + 1, 3, none⟩ = some (.slice a2' n2' c2') ∧ w'.cell? ⟨w.heap.size + 1, 4, none⟩ = some (v0') ∧ w'.cell? ⟨w.heap.size + 1, 5, none⟩ = some (v1') ∧ w'.cell? ⟨w.heap.size + 1, 6, none⟩ = some (v2') ∧ w'.cell? ⟨w.heap.size + 1, 7, none⟩ = some (v3') ∧ w'.cell? ⟨w.heap.size + 1, 8, none⟩ = some (v4') ∧ w'.cell? ⟨w.heap.size + 1, 9, none⟩ = some (v5') ∧ w'.cell? ⟨w.heap.size + 1, 10, none⟩ = some (.int .i64 n'))
    (first | with_reducible exact K.out _ HE7.out | with_reducible exact K.out _ HE6.out | with_reducible exact K.out _ HE5.out | with_reducible exact K.out _ (Ext.refl w1).drew)
    (first
      | (go_at_call_of 15 k; refine (toElem_any ea _ _ (HA.out.ext HE1.out.drew)).mono ?_; rintro e w5 ⟨cs1, rfl, hV, hE⟩; have HE5 := hid ((Ext.refl w1).drew.trans hE); obtain ⟨p0, p1, p2, p3, rfl⟩ := hV.form; have HV1 := hid (hV.weak (S' := Any) (fun _ _ _ => trivial)); clear hE hV)
      | (go_at_call_of 15 k'; refine (toElem_any eb _ _ (HB.out.ext (HE1.out.trans HE5.out))).mono ?_; rintro e w6 ⟨cs2, rfl, hV, hE⟩; have HE56 := hid hE; have HE6 := hid (HE5.out.trans hE); obtain ⟨p4, p5, p6, p7, rfl⟩ := hV.form; have HV2 := hid (hV.weak (S' := Any) (fun _ _ _ => trivial)); clear hE hV)
      | (go_at_call 16; refine (pec_any _ _ _ _ _ (HV1.out.ext HE56.out) HV2.out).mono ?_; rintro e w7 ⟨rfl, hE⟩; have HE7 := hid (HE6.out.trans hE); clear hE))
  all_goals
    go_wp2_with fail
    go_ret
    exact ⟨rfl, HE1.out.trans HE7.out⟩
end Go.Proofs.YtempfaefopfobaaGreat
