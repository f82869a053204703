/- FnFieldElems: two fields compare as their names, two indexes as their numbers, two values as the values do; for every input. -/
import Derived.Test.YtempfaefopfobaaGreatElemEqu
import Derived.Test.YtempfaefopfobaaGreatStrBig
import Derived.Test.YtempfaefopfobaaGreatSpecAll
import Derived.ChangeMaps5

namespace Go.Proofs.YtempfaefopfobaaGreat.fnFieldE
open Go.ChangeShapes Go.WideShapes Go.ChangeAt Go.RowKit
set_option linter.unusedSimpArgs false
set_option linter.unusedVariables false
set_option maxRecDepth 100000

theorem zeroR (S : Nat → Prop) (w : World) : RepGV S w zeroG [.int .i64 0, .int .i64 0, .float .f64 0, .string ⟨#[]⟩, .slice none 0 0, .slice none 0 0] :=
  repGV_of (by decide) (by decide) (by decide) (by decide) (RepStrs.nil _ _) (RepVals.nil _ _)
def gF (s : ByteArray) : GE := ⟨0, s, [], [], zeroG, 0⟩
def gI (n : Int) : GE := ⟨3, ByteArray.empty, [], [], zeroG, n⟩
def gV (g : GV) : GE := ⟨2, ByteArray.empty, [], [], g, 0⟩
theorem cmp_fld (s t : ByteArray) : cmpE (toEl (gF s)) (toEl (gF t)) = scmp s t := by simp [gF, toEl, cmpE]
theorem cmp_idx (n m : Int) : cmpE (toEl (gI n)) (toEl (gI m)) = icmp n m := by simp [gI, toEl, cmpE]
theorem cmp_val (g h : GV) : cmpE (toEl (gV g)) (toEl (gV h)) = cmpT (plainT g) (plainT h) := by simp [gV, toEl, cmpE]
theorem eq_fld (s : ByteArray) : eqE (toEl (gF s)) (toEl (gF s)) = true := by simp [gF, toEl, eqE]
theorem form19 {S : Nat → Prop} {w : World} {e : GE} {cs : List Value} (h : RepGE S w e cs) : ∃ q0 q1 q2 q3 q4 q5 q6 q7 q8 q9 q10 q11 q12 q13 q14 q15 q16 q17 q18, cs = [.int .i64 q0, .string q1, .slice q2 q3 q4, .slice q5 q6 q7, .int .i64 q8, .int .i64 q9, .float .f64 q10, .string q11, .slice q12 q13 q14, .slice q15 q16 q17, .int .i64 q18] := by
  obtain ⟨ka, kc, la, lc, v0, v1, v2, v3, v4, v5, h, -, -, -, -, -, hv⟩ := h
  obtain ⟨u1, u2, u3, u4, u5, u6, u7, u8, u9, u10, h2⟩ := hv.form
  simp only [List.cons.injEq, and_true] at h2
  obtain ⟨rfl, rfl, rfl, rfl, rfl, rfl⟩ := h2
  exact ⟨_, _, _, _, _, _, _, _, _, _, _, _, _, _, _, _, _, _, _, h⟩
set_option maxHeartbeats 1000000 in
theorem fieldElem_any (s : ByteArray) (hs : s.size ≤ 140737488351232) (w : World) : Calls Tryz.prog 7 #[.string s] w fun en w' => ∃ cs', en = .returned (.agg cs'.toArray) ∧ RepGE Any w' (gF s) cs' ∧ Ext w w' := by
  go_enter Tryz.func7, Tryz.ntmps7
  go_wp2_with fail
  have hE := (Ext.refl w).alloc (.cells #[.int .i64 0, .string s, .slice none 0 0, .slice none 0 0, .int .i64 0, .int .i64 0, .float .f64 0, .string ⟨#[]⟩, .slice none 0 0, .slice none 0 0, .int .i64 0] 30)
  obtain ⟨⟨y0, y1, y2, y3, y4, y5, y6, y7, y8, y9, y10⟩, -⟩ := slot11 (heap_alloc_new w (.cells #[.int .i64 0, .string s, .slice none 0 0, .slice none 0 0, .int .i64 0, .int .i64 0, .float .f64 0, .string ⟨#[]⟩, .slice none 0 0, .slice none 0 0, .int .i64 0] 30))
  exact bodyPost_ret (v := .agg #[.int .i64 0, .string s, .slice none 0 0, .slice none 0 0, .int .i64 0, .int .i64 0, .float .f64 0, .string ⟨#[]⟩, .slice none 0 0, .slice none 0 0, .int .i64 0]) (by simp [results, Tryz.results7, go_sem, y0, y1, y2, y3, y4, y5, y6, y7, y8, y9, y10]) rfl ⟨[.int .i64 0, .string s, .slice none 0 0, .slice none 0 0, .int .i64 0, .int .i64 0, .float .f64 0, .string ⟨#[]⟩, .slice none 0 0, .slice none 0 0, .int .i64 0], rfl, ⟨none, 0, none, 0, _, _, _, _, _, _, rfl, (show (Lit.int .i64 0).wf = true by decide), (show (Lit.int .i64 0).wf = true by decide), hs, RepStrs.nil _ _, RepVals.nil _ _, zeroR _ _⟩, hE⟩
set_option maxHeartbeats 1000000 in
theorem indexElem_any (n : Int) (hn : (Lit.int .i64 n).wf = true) (w : World) : Calls Tryz.prog 9 #[.int .i64 n] w fun en w' => ∃ cs', en = .returned (.agg cs'.toArray) ∧ RepGE Any w' (gI n) cs' ∧ Ext w w' := by
  go_enter Tryz.func9, Tryz.ntmps9
  go_wp2_with fail
  have hE := (Ext.refl w).alloc (.cells #[.int .i64 3, .string ⟨#[]⟩, .slice none 0 0, .slice none 0 0, .int .i64 0, .int .i64 0, .float .f64 0, .string ⟨#[]⟩, .slice none 0 0, .slice none 0 0, .int .i64 n] 30)
  obtain ⟨⟨y0, y1, y2, y3, y4, y5, y6, y7, y8, y9, y10⟩, -⟩ := slot11 (heap_alloc_new w (.cells #[.int .i64 3, .string ⟨#[]⟩, .slice none 0 0, .slice none 0 0, .int .i64 0, .int .i64 0, .float .f64 0, .string ⟨#[]⟩, .slice none 0 0, .slice none 0 0, .int .i64 n] 30))
  exact bodyPost_ret (v := .agg #[.int .i64 3, .string ⟨#[]⟩, .slice none 0 0, .slice none 0 0, .int .i64 0, .int .i64 0, .float .f64 0, .string ⟨#[]⟩, .slice none 0 0, .slice none 0 0, .int .i64 n]) (by simp [results, Tryz.results9, go_sem, y0, y1, y2, y3, y4, y5, y6, y7, y8, y9, y10]) rfl ⟨[.int .i64 3, .string ⟨#[]⟩, .slice none 0 0, .slice none 0 0, .int .i64 0, .int .i64 0, .float .f64 0, .string ⟨#[]⟩, .slice none 0 0, .slice none 0 0, .int .i64 n], rfl, ⟨none, 0, none, 0, _, _, _, _, _, _, rfl, (show (Lit.int .i64 3).wf = true by decide), hn, (show ByteArray.empty.size ≤ 140737488351232 by decide), RepStrs.nil _ _, RepVals.nil _ _, zeroR _ _⟩, hE⟩
set_option maxHeartbeats 1000000 in
theorem valueElem_any (g : GV) (cs : List Value) (w : World) (hR : RepGV Any w g cs) : Calls Tryz.prog 11 #[.agg cs.toArray] w fun en w' => ∃ cs', en = .returned (.agg cs'.toArray) ∧ RepGE Any w' (gV g) cs' ∧ Ext w w' := by
  obtain ⟨k, n, f, s, a1, b1, c1, a2, b2, c2, rfl⟩ := hR.form
  have HR := hid hR
  clear hR
  go_enter Tryz.func11, Tryz.ntmps11
  go_wp2_with fail
  have hE := ((Ext.refl w).alloc (.cells #[.int .i64 k, .int .i64 n, .float .f64 f, .string s, .slice a1 b1 c1, .slice a2 b2 c2] 26)).alloc (.cells #[.int .i64 2, .string ⟨#[]⟩, .slice none 0 0, .slice none 0 0, .int .i64 k, .int .i64 n, .float .f64 f, .string s, .slice a1 b1 c1, .slice a2 b2 c2, .int .i64 0] 30)
  obtain ⟨⟨y0, y1, y2, y3, y4, y5, y6, y7, y8, y9, y10⟩, -⟩ := slot11 (second_heap w (.cells #[.int .i64 k, .int .i64 n, .float .f64 f, .string s, .slice a1 b1 c1, .slice a2 b2 c2] 26) (.cells #[.int .i64 2, .string ⟨#[]⟩, .slice none 0 0, .slice none 0 0, .int .i64 k, .int .i64 n, .float .f64 f, .string s, .slice a1 b1 c1, .slice a2 b2 c2, .int .i64 0] 30))
  exact bodyPost_ret (v := .agg #[.int .i64 2, .string ⟨#[]⟩, .slice none 0 0, .slice none 0 0, .int .i64 k, .int .i64 n, .float .f64 f, .string s, .slice a1 b1 c1, .slice a2 b2 c2, .int .i64 0]) (by simp [results, Tryz.results11, go_sem, y0, y1, y2, y3, y4, y5, y6, y7, y8, y9, y10]) rfl ⟨[.int .i64 2, .string ⟨#[]⟩, .slice none 0 0, .slice none 0 0, .int .i64 k, .int .i64 n, .float .f64 f, .string s, .slice a1 b1 c1, .slice a2 b2 c2, .int .i64 0], rfl, ⟨none, 0, none, 0, _, _, _, _, _, _, rfl, (show (Lit.int .i64 2).wf = true by decide), (show (Lit.int .i64 0).wf = true by decide), (show ByteArray.empty.size ≤ 140737488351232 by decide), RepStrs.nil _ _, RepVals.nil _ _, HR.out.ext hE⟩, hE⟩
set_option maxHeartbeats 8000000 in
theorem walk (x1 x2 : ByteArray) (i1 i2 : Int) (ga gb : GV) (w : World) (ca cb : List Value) (hx1 : x1.size ≤ 140737488351232) (hx2 : x2.size ≤ 140737488351232) (hi1 : (Lit.int .i64 i1).wf = true) (hi2 : (Lit.int .i64 i2).wf = true) (hA : RepGV Any w ga ca) (hB : RepGV Any w gb cb) :
    Calls Tryz.prog 3 #[.string x1, .string x2, .int .i64 i1, .int .i64 i2, .agg ca.toArray, .agg cb.toArray] w fun e w' => e = .returned (.bool true) ∧ Ext w w' := by
  have HA := hid hA
  have HB := hid hB
  obtain ⟨k, n, f, s, a1, b1, c1, a2, b2, c2, rfl⟩ := hA.form
  obtain ⟨k', n', f', s', a1', b1', c1', a2', b2', c2', rfl⟩ := hB.form
  have H1 := hid (fun W x y hx hy => cmpElems_any (gF x1) (gF x2) W x y hx hy)
  have H2 := hid (fun W x y hx hy => cmpElems_any (gI i1) (gI i2) W x y hx hy)
  have H3 := hid (fun W x y hx hy => cmpElems_any (gV ga) (gV gb) W x y hx hy)
  have H4 := hid (fun W x y hx hy => eqElems_any (gF x1) (gF x1) W x y hx hy)
  have N1 := hid (fun W => specStr_big x1 x2 W hx1)
  have N2 := hid (show ∀ W, Calls Tryz.prog 10 #[.int .i64 i1, .int .i64 i2] W fun en w' => en = .returned (.int .i64 (icmp i1 i2)) ∧ Ext W w' from fun W => (ints_any i1 i2 W).mono (fun _ _ h => ⟨h.1, by rw [← h.2]; exact Ext.refl _⟩))
  have N3 := hid (fun W x y hx hy => specCV_any ga gb W x y hx hy)
  rw [cmp_fld] at H1
  rw [cmp_idx] at H2
  rw [cmp_val] at H3
  rw [eq_fld] at H4
  generalize scmp x1 x2 = r1 at H1 N1
  generalize icmp i1 i2 = r2 at H2 N2
  generalize cmpT (plainT ga) (plainT gb) = r3 at H3 N3
  have F1 := hid (fun W => fieldElem_any x1 hx1 W)
  have F2 := hid (fun W => fieldElem_any x2 hx2 W)
  have F3 := hid (fun W => indexElem_any i1 hi1 W)
  have F4 := hid (fun W => indexElem_any i2 hi2 W)
  clear hA hB hx1 hx2 hi1 hi2
  go_enter Tryz.func3, Tryz.ntmps3
  go_upto_region 1 with fail
  obtain ⟨u1, u2, hEE⟩ := boxes2 w (.cells #[.int .i64 k, .int .i64 n, .float .f64 f, .string s, .slice a1 b1 c1, .slice a2 b2 c2] 26) (.cells #[.int .i64 k', .int .i64 n', .float .f64 f', .string s', .slice a1' b1' c1', .slice a2' b2' c2'] 26) _ (Below.refl _ _)
  generalize (w.alloc (.cells #[.int .i64 k, .int .i64 n, .float .f64 f, .string s, .slice a1 b1 c1, .slice a2 b2 c2] 26)).alloc (.cells #[.int .i64 k', .int .i64 n', .float .f64 f', .string s', .slice a1' b1' c1', .slice a2' b2' c2'] 26) = w1 at *
  have HE1 := hid hEE
  have K := hid (show ∀ w' : World, Ext w1 w' → (fun w' : World => w'.cell? ⟨w.heap.size, 0, none⟩ = some (.int .i64 k) ∧ w'.cell? ⟨w.heap.size, 1, none⟩ = some (.int .i64 n) ∧ w'.cell? ⟨w.heap.size, 2, none⟩ = some (.float .f64 f) ∧ w'.cell? ⟨w.heap.size, 3, none⟩ = some (.string s) ∧ w'.cell? ⟨w.heap.size, 4, none⟩ = some (.slice a1 b1 c1) ∧ w'.cell? ⟨w.heap.size, 5, none⟩ = some (.slice a2 b2 c2) ∧ w'.cell? ⟨w.heap.size + 1, 0, none⟩ = some (.int .i64 k') ∧ w'.cell? ⟨w.heap.size + 1, 1, none⟩ = some (.int .i64 n') ∧ w'.cell? ⟨w.heap.size + 1, 2, none⟩ = some (.float .f64 f') ∧ w'.cell? ⟨w.heap.size + 1, 3, none⟩ = some (.string s') ∧ w'.cell? ⟨w.heap.size + 1, 4, none⟩ = some (.slice a1' b1' c1') ∧ w'.cell? ⟨w.heap.size + 1, 5, none⟩ = some (.slice a2' b2' c2')) w' from fun w' h => by
    obtain ⟨⟨z0, z1, z2, z3, z4, z5⟩, -⟩ := slot6 (h.block u1)
    obtain ⟨⟨y0, y1, y2, y3, y4, y5⟩, -⟩ := slot6 (h.block u2)
    exact ⟨z0, z1, z2, z3, z4, z5, y0, y1, y2, y3, y4, y5⟩)
  clear u1 u2 hEE
  obtain ⟨z0, z1, z2, z3, z4, z5, y0, y1, y2, y3, y4, y5⟩ := K.out _ (Ext.refl w1)
  by_cases h1 : x1.size > 2147483647
  · go_wp2_with fail
    go_ret
    exact ⟨rfl, HE1.out⟩
  by_cases h2 : x2.size > 2147483647
  · go_wp2_with fail
    go_ret
    exact ⟨rfl, HE1.out⟩
  go_upto_region 5 with (first
    | (go_at_call_of 4 k; refine (fits5_any ga _ _ (HA.out.ext HE1.out)).mono ?_; rintro e w2 ⟨b, rfl, hE⟩; have HE2 := hid hE; clear z0 z1 z2 z3 z4 z5 y0 y1 y2 y3 y4 y5; obtain ⟨z0, z1, z2, z3, z4, z5, y0, y1, y2, y3, y4, y5⟩ := K.out _ HE2.out; cases b <;> clear hE)
    | (go_at_call_of 4 k'; refine (fits5_any gb _ _ (HB.out.ext (HE1.out.trans HE2.out))).mono ?_; rintro e w3 ⟨b, rfl, hE⟩; have HE3 := hid (HE2.out.trans hE); clear z0 z1 z2 z3 z4 z5 y0 y1 y2 y3 y4 y5; obtain ⟨z0, z1, z2, z3, z4, z5, y0, y1, y2, y3, y4, y5⟩ := K.out _ HE3.out; cases b <;> clear hE)
    | (go_at_call_of 5 k; refine (ord_any ga _ _ (HA.out.ext (HE1.out.trans HE3.out))).mono ?_; rintro e w4 ⟨rfl, hE⟩; have HE4 := hid (HE3.out.trans hE); clear z0 z1 z2 z3 z4 z5 y0 y1 y2 y3 y4 y5; obtain ⟨z0, z1, z2, z3, z4, z5, y0, y1, y2, y3, y4, y5⟩ := K.out _ HE4.out; cases ho : ordG ga <;> clear hE ho)
    | (go_at_call_of 5 k'; refine (ord_any gb _ _ (HB.out.ext (HE1.out.trans HE4.out))).mono ?_; rintro e w5 ⟨rfl, hE⟩; have HE5 := hid (HE4.out.trans hE); clear z0 z1 z2 z3 z4 z5 y0 y1 y2 y3 y4 y5; obtain ⟨z0, z1, z2, z3, z4, z5, y0, y1, y2, y3, y4, y5⟩ := K.out _ HE5.out; cases ho : ordG gb <;> clear hE ho))
  all_goals first
    | (go_ret; first | exact ⟨rfl, HE1.out.trans HE5.out⟩ | exact ⟨rfl, HE1.out.trans HE4.out⟩ | exact ⟨rfl, HE1.out.trans HE3.out⟩ | exact ⟨rfl, HE1.out.trans HE2.out⟩)
    | skip
  clear z0 z1 z2 z3 z4 z5 y0 y1 y2 y3 y4 y5
  have HC := hid (show Ext w1 w5.drew from HE5.out.drew)
  go_region_held3 (fun w' : World => w'.cell? ⟨w.heap.size, 0, none⟩ = some (.int .i64 k) ∧ w'.cell? ⟨w.heap.size, 1, none⟩ = some (.int .i64 n) ∧ w'.cell? ⟨w.heap.size, 2, none⟩ = some (.float .f64 f) ∧ w'.cell? ⟨w.heap.size, 3, none⟩ = some (.string s) ∧ w'.cell? ⟨w.heap.size, 4, none⟩ = some (.slice a1 b1 c1) ∧ w'.cell? ⟨w.heap.size, 5, none⟩ = some (.slice a2 b2 c2) ∧ w'.cell? ⟨w.heap.size + 1, 0, none⟩ = some (.int .i64 k') ∧ w'.cell? ⟨w.heap.size + 1, 1, none⟩ = some (.int .i64 n') ∧ w'.cell? ⟨w.heap.size + 1, 2, none⟩ = some (.float .f64 f') ∧ w'.cell? ⟨w.heap.size + 1, 3, none⟩ = some (.string s') ∧ w'.cell? ⟨w.heap.size + 1, 4, none⟩ = some (.slice a1' b1' c1') ∧ w'.cell? ⟨w.heap.size + 1, 5, none⟩ = some (.slice a2' b2' c2'))
    (with_reducible exact K.out _ HC.out)
    (first
      | (go_at_call 7; (first | (with_reducible refine (F1.out _).mono ?_) | (with_reducible refine (F2.out _).mono ?_)); rintro en w9 ⟨cs9, rfl, hG, hE⟩; obtain ⟨q0, q1, q2, q3, q4, q5, q6, q7, q8, q9, q10, q11, q12, q13, q14, q15, q16, q17, q18, rfl⟩ := form19 hG; (try (have HY := hid (HX.out.ext hE); clear HX)); have HX := hid hG; replace HC := hid (HC.out.trans hE); clear hE hG)
      | (go_at_call 9; (first | (with_reducible refine (F3.out _).mono ?_) | (with_reducible refine (F4.out _).mono ?_)); rintro en w9 ⟨cs9, rfl, hG, hE⟩; obtain ⟨q0, q1, q2, q3, q4, q5, q6, q7, q8, q9, q10, q11, q12, q13, q14, q15, q16, q17, q18, rfl⟩ := form19 hG; (try (have HY := hid (HX.out.ext hE); clear HX)); have HX := hid hG; replace HC := hid (HC.out.trans hE); clear hE hG)
      | (go_at_call_of 11 k; refine (valueElem_any ga _ _ (HA.out.ext (HE1.out.trans HC.out))).mono ?_; rintro en w9 ⟨cs9, rfl, hG, hE⟩; obtain ⟨q0, q1, q2, q3, q4, q5, q6, q7, q8, q9, q10, q11, q12, q13, q14, q15, q16, q17, q18, rfl⟩ := form19 hG; (try (have HY := hid (HX.out.ext hE); clear HX)); have HX := hid hG; replace HC := hid (HC.out.trans hE); clear hE hG)
      | (go_at_call_of 11 k'; refine (valueElem_any gb _ _ (HB.out.ext (HE1.out.trans HC.out))).mono ?_; rintro en w9 ⟨cs9, rfl, hG, hE⟩; obtain ⟨q0, q1, q2, q3, q4, q5, q6, q7, q8, q9, q10, q11, q12, q13, q14, q15, q16, q17, q18, rfl⟩ := form19 hG; (try (have HY := hid (HX.out.ext hE); clear HX)); have HX := hid hG; replace HC := hid (HC.out.trans hE); clear hE hG)
      | (go_at_call 6; (first | (with_reducible refine (H1.out _ _ _ HY.out HX.out).mono ?_) | (with_reducible refine (H2.out _ _ _ HY.out HX.out).mono ?_) | (with_reducible refine (H3.out _ _ _ HY.out HX.out).mono ?_)); rintro en w9 ⟨rfl, hE⟩; replace HC := hid (HC.out.trans hE); clear hE HX HY)
      | (go_at_call 13; with_reducible refine (H4.out _ _ _ HY.out HX.out).mono ?_; rintro en w9 ⟨rfl, hE⟩; replace HC := hid (HC.out.trans hE); clear hE HX HY)
      | (go_at_call 8; refine (N1.out _).mono ?_; rintro en w9 ⟨rfl, hE⟩; replace HC := hid (HC.out.trans hE); clear hE)
      | (go_at_call 10; refine (N2.out _).mono ?_; rintro en w9 ⟨rfl, hE⟩; replace HC := hid (HC.out.trans hE); clear hE)
      | (go_at_call 12; refine (N3.out _ _ _ (HA.out.ext (HE1.out.trans HC.out)) (HB.out.ext (HE1.out.trans HC.out))).mono ?_; rintro en w9 ⟨rfl, hE⟩; replace HC := hid (HC.out.trans hE); clear hE))
  all_goals
    go_wp2_with fail
    go_ret
    exact ⟨rfl, HE1.out.trans HC.out⟩
section
variable {H : Type} {enc : TypeId × Value → H} {P : Program} {w : World} {base : Nat} {spare : Nat → Bool} {held : Bool}
theorem trodAll_args {t0 t1 t2 t3 t4 t5 : TypeId} {args : Array Value} {ds : List (DataW H)} {ps : List MemPlace} (h : DataW.TrodAll enc P w base spare held [t0, t1, t2, t3, t4, t5] args.toList ds ps) :
    ∃ v0 v1 v2 v3 v4 v5 d0 d1 d2 d3 d4 d5 p0 p1 p2 p3 p4 p5, args = #[v0, v1, v2, v3, v4, v5] ∧ ds = [d0, d1, d2, d3, d4, d5] ∧ DataW.Trod enc P w base spare held t0 v0 d0 p0 ∧ DataW.Trod enc P w base spare held t1 v1 d1 p1 ∧ DataW.Trod enc P w base spare held t2 v2 d2 p2 ∧ DataW.Trod enc P w base spare held t3 v3 d3 p3 ∧ DataW.Trod enc P w base spare held t4 v4 d4 p4 ∧ DataW.Trod enc P w base spare held t5 v5 d5 p5 := by
  obtain ⟨v0, vs0, d0, ds0, p0, q0, hargs, rfl, rfl, hd0, hr0⟩ := trodAll_cons h
  obtain ⟨v1, vs1, d1, ds1, p1, q1, rfl, rfl, rfl, hd1, hr1⟩ := trodAll_cons hr0
  obtain ⟨v2, vs2, d2, ds2, p2, q2, rfl, rfl, rfl, hd2, hr2⟩ := trodAll_cons hr1
  obtain ⟨v3, vs3, d3, ds3, p3, q3, rfl, rfl, rfl, hd3, hr3⟩ := trodAll_cons hr2
  obtain ⟨v4, vs4, d4, ds4, p4, q4, rfl, rfl, rfl, hd4, hr4⟩ := trodAll_cons hr3
  obtain ⟨v5, vs5, d5, ds5, p5, q5, rfl, rfl, rfl, hd5, hr5⟩ := trodAll_cons hr4
  obtain ⟨rfl, rfl, rfl⟩ := trodAll_nil hr5
  exact ⟨v0, v1, v2, v3, v4, v5, d0, d1, d2, d3, d4, d5, p0, p1, p2, p3, p4, p5, by cases args; simp_all, rfl, hd0, hd1, hd2, hd3, hd4, hd5⟩
end
theorem own : ownKnob Tryz.prog.godebug = none := by kernel_rfl
set_option maxRecDepth 100000 in
theorem lifted (os : Os) (started : os.Started) (H : Type) (enc : TypeId × Value → H) :
    ReturnsInHanded {} Tryz.checked os 3 .any (Rows.fnFieldElemsSpec.pre6 enc Tryz.prog Tryz.f3 Rows.fnFieldElemsRow.domain false) (Rows.fnFieldElemsSpec.post enc Tryz.prog Tryz.f3 false true false false) := by
  refine law_lifted (C := Tryz.checked) own started (by kernel_rfl) Tryz.func3 (by kernel_rfl)
    (fun t ht => by
      have ht' : t ∈ ([9, 9, 3, 3, 26, 26] : List TypeId) := by rwa [Tryz.params3] at ht
      simp only [List.mem_cons, List.not_mem_nil, or_false] at ht'
      rcases ht' with rfl | rfl | rfl | rfl | rfl | rfl <;> exact ⟨by kernel_rfl, of_decide_eq_true (by kernel_rfl)⟩) (by kernel_rfl) rfl
    (fun ds hl => by rw [Tryz.params3] at hl; match ds, hl with | [d0, d1, d2, d3, d4, d5], _ => exact ⟨rfl, rfl, rfl⟩)
    (ChangeSpec.witness6 (enc := enc) (C := Tryz.checked) false ⟨#[], #[.string ⟨#[]⟩, .string ⟨#[]⟩, .int .i64 0, .int .i64 0, .agg #[.int .i64 0, .int .i64 0, .float .f64 0, .string ⟨#[]⟩, .slice none 0 0, .slice none 0 0], .agg #[.int .i64 0, .int .i64 0, .float .f64 0, .string ⟨#[]⟩, .slice none 0 0, .slice none 0 0]], []⟩ 8 (by kernel_rfl) (by kernel_rfl) (by kernel_rfl) (by kernel_rfl)) ?_
  intro W base args ds p hval hA hsz
  rw [Tryz.params3] at hA hval hsz
  obtain ⟨v0, v1, v2, v3, v4, v5, d0, d1, d2, d3, d4, d5, p0, p1, p2, p3, p4, p5, rfl, rfl, h0, h1, h2, h3, h4, h5⟩ := trodAll_args hA
  have hw : ∀ n ∈ DataW.weightsEach Tryz.prog [9, 9, 3, 3, 26, 26] [d0, d1, d2, d3, d4, d5], n ≤ 140737488351232 := by
    intro n hn
    exact of_decide_eq_true (List.all_eq_true.1 hsz n hn)
  obtain ⟨s0, rfl⟩ := okWide_string Tryz.underlying9 (hval 0 9 v0 rfl rfl)
  obtain ⟨fu0, h0⟩ := h0
  obtain ⟨x0, e0, hg0⟩ := open_str Tryz.underlying9 h0 (weightsEach_mem (j := 0) rfl rfl hw)
  simp only [Value.cells, List.cons.injEq, and_true, Value.string.injEq] at e0
  subst e0
  obtain ⟨s1, rfl⟩ := okWide_string Tryz.underlying9 (hval 1 9 v1 rfl rfl)
  obtain ⟨fu1, h1⟩ := h1
  obtain ⟨x1, e1, hg1⟩ := open_str Tryz.underlying9 h1 (weightsEach_mem (j := 1) rfl rfl hw)
  simp only [Value.cells, List.cons.injEq, and_true, Value.string.injEq] at e1
  subst e1
  obtain ⟨a2, rfl⟩ := okWide_int Tryz.underlying3 (hval 2 3 v2 rfl rfl)
  obtain ⟨fu2, h2⟩ := h2
  obtain ⟨x2, e2, _, hg2⟩ := DataW.trod_int Tryz.underlying3 h2
  simp only [Value.cells, List.cons.injEq, and_true, Value.int.injEq, true_and] at e2
  subst e2
  obtain ⟨a3, rfl⟩ := okWide_int Tryz.underlying3 (hval 3 3 v3 rfl rfl)
  obtain ⟨fu3, h3⟩ := h3
  obtain ⟨x3, e3, _, hg3⟩ := DataW.trod_int Tryz.underlying3 h3
  simp only [Value.cells, List.cons.injEq, and_true, Value.int.injEq, true_and] at e3
  subst e3
  obtain ⟨cs4, rfl, _⟩ := okWide_struct Tryz.underlying26 (hval 4 26 v4 rfl rfl)
  obtain ⟨fu4, h4⟩ := h4
  obtain ⟨g4, hg4⟩ := open_gv fu4 cs4.toList (d4, p4) h4 (weightsEach_mem (j := 4) rfl rfl hw)
  obtain ⟨cs5, rfl, _⟩ := okWide_struct Tryz.underlying26 (hval 5 26 v5 rfl rfl)
  obtain ⟨fu5, h5⟩ := h5
  obtain ⟨g5, hg5⟩ := open_gv fu5 cs5.toList (d5, p5) h5 (weightsEach_mem (j := 5) rfl rfl hw)
  have := walk s0 s1 a2 a3 g4 g5 W cs4.toList cs5.toList hg0 hg1 hg2 hg3 hg4 hg5
  rwa [Array.toArray_toList, Array.toArray_toList] at this

theorem over : Rows.fnFieldElemsRow.holds Tryz.pinned (OpenSpec.ofChange Rows.fnFieldElemsSpec) :=
  OpenClaim.holds_of_wide 3 Tryz.f3 rfl rfl rfl rfl rfl rfl rfl ⟨rfl, rfl, rfl, rfl, rfl⟩ rfl rfl rfl rfl rfl (by kernel_rfl) Tryz.func3 (by kernel_rfl)
    (of_decide_eq_true (by kernel_rfl)) (by unfold Func.isWrapper; first | (rw [if_pos (by decide +kernel)]; kernel_rfl) | (rw [if_neg (by decide +kernel)]; exact ⟨rfl, rfl⟩))
    (fun os started H enc _ => lifted os started H enc)

theorem proved : Rows.FnFieldElemsSaid :=
  over
#print axioms proved
end Go.Proofs.YtempfaefopfobaaGreat.fnFieldE
