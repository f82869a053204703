/- SpecZip: spec.Zip: the keys of two maps with what each has under them. -/
import Derived.Test.YtempfaefopfobaaZipRow
import Derived.Test.YtempfaefopfobaaField
import Derived.Test.YtempfaefopfobaaOrd

set_option maxRecDepth 100000
namespace Go.Proofs.Ytempfaefopfobaa
open Go.ChangeShapes Go.WideShapes Go.ChangeAt Go.RowKit
set_option linter.unusedVariables false
set_option linter.unusedSimpArgs false
/-- what is told of each of the keys -/
def toldG (A B : GV) (ks : List ByteArray) : List (ByteArray × List GV × List GV) := ks.map fun k => (k, (fieldG A k).toList, (fieldG B k).toList)
def zsSpec (ga gb : GV) : List (ByteArray × List GV × List GV) := toldG (cleanM ga) (cleanM gb) (foldW ((cleanM gb).keys.zip (cleanM gb).l) (cleanM ga)).keys
theorem foldW_snoc (l : List (ByteArray × GV)) (p : ByteArray × GV) (m : GV) : foldW (l ++ [p]) m = withF (foldW l m) p.1 p.2 := by
  induction l generalizing m with
  | nil => rfl
  | cons q l ih => exact ih _
theorem gv_parts {S : Nat → Prop} {w : World} {g : GV} {a b : Int} {c : Nat} {d : ByteArray} {x y : Value} (h : RepGV S w g [.int .i64 a, .int .i64 b, .float .f64 c, .string d, x, y]) : RepStrs S w x g.keys ∧ RepVals S w y g.l := by
  obtain ⟨_, _, _, _, _, _, e, h1, h2, -⟩ := h.inv
  simp only [List.cons.injEq, and_true] at e
  obtain ⟨-, -, -, -, rfl, rfl⟩ := e
  exact ⟨h1, h2⟩
set_option maxHeartbeats 4000000 in
theorem specZip_any (ga gb : GV) (w : World) (ca cb : List Value) (hA : RepGV Any w ga ca) (hB : RepGV Any w gb cb) (hla : ga.keys.length ≤ 2147483647) (hlb : gb.keys.length ≤ 2147483647) :
    Calls Try.prog 25 #[.agg ca.toArray, .agg cb.toArray] w fun en w' => ∃ v, en = .returned v ∧ RepZs w' v (zsSpec ga gb) ∧ Ext w w' := by
  obtain ⟨i0, hi, hz0, hz1, hz2⟩ := info_parts info_z
  have HA := hid hA
  have HB := hid hB
  obtain ⟨p1, p2, p3, p4, p5, p6, p7, p8, p9, p10, rfl⟩ := hA.form
  obtain ⟨q1, q2, q3, q4, q5, q6, q7, q8, q9, q10, rfl⟩ := hB.form
  clear hA hB
  go_enter Try.func25, Try.ntmps25
  go_upto_region 1 with fail
  have HEd := hid (show Ext w ((w.alloc (.cells #[.int .i64 p1, .int .i64 p2, .float .f64 p3, .string p4, .slice p5 p6 p7, .slice p8 p9 p10] 32)).alloc (.cells #[.int .i64 q1, .int .i64 q2, .float .f64 q3, .string q4, .slice q5 q6 q7, .slice q8 q9 q10] 32)).drew from (((Ext.refl w).alloc _).alloc _).drew)
  have HXd := hid (show ((w.alloc (.cells #[.int .i64 p1, .int .i64 p2, .float .f64 p3, .string p4, .slice p5 p6 p7, .slice p8 p9 p10] 32)).alloc (.cells #[.int .i64 q1, .int .i64 q2, .float .f64 q3, .string q4, .slice q5 q6 q7, .slice q8 q9 q10] 32)).drew.heap[w.heap.size]? = some (.cells #[.int .i64 p1, .int .i64 p2, .float .f64 p3, .string p4, .slice p5 p6 p7, .slice p8 p9 p10] 32) ∧ ((w.alloc (.cells #[.int .i64 p1, .int .i64 p2, .float .f64 p3, .string p4, .slice p5 p6 p7, .slice p8 p9 p10] 32)).alloc (.cells #[.int .i64 q1, .int .i64 q2, .float .f64 q3, .string q4, .slice q5 q6 q7, .slice q8 q9 q10] 32)).drew.heap[w.heap.size + 1]? = some (.cells #[.int .i64 q1, .int .i64 q2, .float .f64 q3, .string q4, .slice q5 q6 q7, .slice q8 q9 q10] 32) from ⟨first_heap w _ _, second_heap w _ _⟩)
  have HSd := hid (show ((w.alloc (.cells #[.int .i64 p1, .int .i64 p2, .float .f64 p3, .string p4, .slice p5 p6 p7, .slice p8 p9 p10] 32)).alloc (.cells #[.int .i64 q1, .int .i64 q2, .float .f64 q3, .string q4, .slice q5 q6 q7, .slice q8 q9 q10] 32)).drew.heap.size = w.heap.size + 2 by simp)
  generalize ((w.alloc (.cells #[.int .i64 p1, .int .i64 p2, .float .f64 p3, .string p4, .slice p5 p6 p7, .slice p8 p9 p10] 32)).alloc (.cells #[.int .i64 q1, .int .i64 q2, .float .f64 q3, .string q4, .slice q5 q6 q7, .slice q8 q9 q10] 32)) = w1 at *
  refine wp_region_late (fun w' : World => w'.cell? ⟨w.heap.size, 0, none⟩ = some (.int .i64 p1) ∧ w'.cell? ⟨w.heap.size, 1, none⟩ = some (.int .i64 p2) ∧ w'.cell? ⟨w.heap.size, 2, none⟩ = some (.float .f64 p3) ∧ w'.cell? ⟨w.heap.size, 3, none⟩ = some (.string p4) ∧ w'.cell? ⟨w.heap.size, 4, none⟩ = some (.slice p5 p6 p7) ∧ w'.cell? ⟨w.heap.size, 5, none⟩ = some (.slice p8 p9 p10) ∧ w'.cell? ⟨w.heap.size + 1, 0, none⟩ = some (.int .i64 q1) ∧ w'.cell? ⟨w.heap.size + 1, 1, none⟩ = some (.int .i64 q2) ∧ w'.cell? ⟨w.heap.size + 1, 2, none⟩ = some (.float .f64 q3) ∧ w'.cell? ⟨w.heap.size + 1, 3, none⟩ = some (.string q4) ∧ w'.cell? ⟨w.heap.size + 1, 4, none⟩ = some (.slice q5 q6 q7) ∧ w'.cell? ⟨w.heap.size + 1, 5, none⟩ = some (.slice q8 q9 q10)) [4, 5] (by kernel_rfl) ?hS7 (fun hHeld => ?_)
  case hS7 => (obtain ⟨⟨z0, z1, z2, z3, z4, z5⟩, -⟩ := slot6 HXd.out.1; obtain ⟨⟨y0, y1, y2, y3, y4, y5⟩, -⟩ := slot6 HXd.out.2; exact ⟨z0, z1, z2, z3, z4, z5, y0, y1, y2, y3, y4, y5⟩)
  generalize w1.drew = wd at *
  change wpAnyM _ _ _ _ _ _ 6 #[false, false, false, false, false, false] _ _
  refine wpAnyM_take (i := 0) (oi := { dst := some 16, op := Go.Op.load 32 (Go.Operand.tmp 2), type := 32, pos := "filter.go:115", after := #[], guard := none }) (v := ?v8) rfl (by kernel_rfl) (fun _ _ _ h => h) (Or.inl ⟨by rfl, ?hy8⟩) (by assumption) ?rest8
  case hy8 => (intro wz hSw; (try dsimp only at hSw); go_simp; try with_reducible rfl)
  (try simp only [Act.put, List.setIfInBounds_toArray, List.set_cons_zero, List.set_cons_succ])
  refine wpAnyM_take (i := 2) (oi := { dst := some 18, op := Go.Op.load 32 (Go.Operand.tmp 3), type := 32, pos := "filter.go:115", after := #[], guard := none }) (v := ?v9) rfl (by kernel_rfl) (fun _ _ _ h => h) (Or.inl ⟨by rfl, ?hy9⟩) (by assumption) ?rest9
  case hy9 => (intro wz hSw; (try dsimp only at hSw); go_simp; try with_reducible rfl)
  (try simp only [Act.put, List.setIfInBounds_toArray, List.set_cons_zero, List.set_cons_succ])
  refine wpAnyM_ready (rs := [1]) (by kernel_rfl) (by simp) ?_
  refine AllReadyM.cons (o := { dst := some 17, op := Go.Op.call { callee := Go.Callee.value (Go.Operand.func 66), args := #[Go.Operand.tmp 16], argTypes := #[32] }, type := 32, pos := "filter.go:115", after := #[{ on := 0, ground := Go.Ground.data }], guard := none }) rfl (fun K hK => ?_) AllReadyM.nil
  refine step_call _ rfl 66 [.tmp 16] #[32] rfl (by kernel_rfl) [_] rfl (cleanMap_any ga _ _ (HA.out.ext HEd.out)) ?_
  rintro en w3 ⟨cs, rfl, hT, hE⟩
  obtain ⟨r1, r2, r3, r4, r5, r6, r7, r8, r9, r10, rfl⟩ := hT.form
  refine ⟨_, rfl, ?_⟩
  have HT1 := hid (hT.weak (S' := fun b => w.heap.size + 2 ≤ b) (fun b h _ => by have := HSd.out; omega))
  have HE3 := hid (HEd.out.trans hE)
  have HL3 := hid hE.size
  have HX3 := hid (And.intro (hE.block HXd.out.1) (hE.block HXd.out.2))
  clear hT hE
  refine hK.out _ _ ?hS10 (fun hHeld => ?_)
  case hS10 => (obtain ⟨⟨z0, z1, z2, z3, z4, z5⟩, -⟩ := slot6 HX3.out.1; obtain ⟨⟨y0, y1, y2, y3, y4, y5⟩, -⟩ := slot6 HX3.out.2; exact ⟨z0, z1, z2, z3, z4, z5, y0, y1, y2, y3, y4, y5⟩)
  clear hK K
  (try simp only [Act.put, List.setIfInBounds_toArray, List.set_cons_zero, List.set_cons_succ])
  refine wpAnyM_ready (rs := [3]) (by kernel_rfl) (by simp) ?_
  refine AllReadyM.cons (o := { dst := some 19, op := Go.Op.call { callee := Go.Callee.value (Go.Operand.func 66), args := #[Go.Operand.tmp 18], argTypes := #[32] }, type := 32, pos := "filter.go:115", after := #[{ on := 2, ground := Go.Ground.data }, { on := 1, ground := Go.Ground.chain }], guard := none }) rfl (fun K hK => ?_) AllReadyM.nil
  refine step_call _ rfl 66 [.tmp 18] #[32] rfl (by kernel_rfl) [_] rfl (cleanMap_any gb _ _ (HB.out.ext HE3.out)) ?_
  rintro en w4 ⟨cs, rfl, hT, hE⟩
  obtain ⟨m1, m2, m3, m4, m5, m6, m7, m8, m9, m10, rfl⟩ := hT.form
  refine ⟨_, rfl, ?_⟩
  have HT2 := hid (hT.weak (S' := fun b => w.heap.size + 2 ≤ b) (fun b h _ => by have := HSd.out; have := HEd.out.size; have h3 : wd.heap.size ≤ w3.heap.size := HL3.out; omega))
  have HT1' := hid (HT1.out.ext hE)
  have HE4 := hid (HE3.out.trans hE)
  have HX4 := hid (And.intro (hE.block HX3.out.1) (hE.block HX3.out.2))
  clear hT hE
  obtain ⟨⟨z0, z1, z2, z3, z4, z5⟩, f0, f1, f2, f3, f4, f5⟩ := slot6 HX4.out.1
  refine hK.out _ _ ?hS11 (fun hHeld => ?_)
  case hS11 => (obtain ⟨⟨z0, z1, z2, z3, z4, z5⟩, -⟩ := slot6 HX4.out.1; obtain ⟨⟨y0, y1, y2, y3, y4, y5⟩, -⟩ := slot6 HX4.out.2; exact ⟨z0, z1, z2, z3, z4, z5, y0, y1, y2, y3, y4, y5⟩)
  clear hK K
  (try simp only [Act.put, List.setIfInBounds_toArray, List.set_cons_zero, List.set_cons_succ])
  refine wpAnyM_ready (rs := [4]) (by kernel_rfl) (by simp) ?_
  refine AllReadyM.behind (o := { dst := none, op := Go.Op.store 32 (Go.Operand.tmp 2) (Go.Operand.tmp 17), type := 0, pos := "filter.go:115", after := #[{ on := 1, ground := Go.Ground.data }, { on := 3, ground := Go.Ground.chain }, { on := 0, ground := Go.Ground.phase }, { on := 1, ground := Go.Ground.phase }, { on := 2, ground := Go.Ground.textOnly Go.Departure.lateStores }, { on := 3, ground := Go.Ground.textOnly Go.Departure.lateStoresUnsure }], guard := none }) rfl (by kernel_rfl) (fun K hK => ?_) AllReadyM.nil
  go_simp
  obtain ⟨w5, hw5⟩ : ∃ x, x = set6 w4 w.heap.size (.int .i64 r1) (.int .i64 r2) (.float .f64 r3) (.string r4) (.slice r5 r6 r7) (.slice r8 r9 r10) := ⟨_, rfl⟩
  change K _ (set6 w4 w.heap.size (.int .i64 r1) (.int .i64 r2) (.float .f64 r3) (.string r4) (.slice r5 r6 r7) (.slice r8 r9 r10))
  rw [← hw5]
  have HX5 := hid (show w5.heap[w.heap.size]? = some (.cells #[.int .i64 r1, .int .i64 r2, .float .f64 r3, .string r4, .slice r5 r6 r7, .slice r8 r9 r10] 32) ∧ w5.heap[w.heap.size + 1]? = some (.cells #[.int .i64 q1, .int .i64 q2, .float .f64 q3, .string q4, .slice q5 q6 q7, .slice q8 q9 q10] 32) from ⟨by rw [hw5]; exact set6_heap HX4.out.1 (.int .i64 r1) (.int .i64 r2) (.float .f64 r3) (.string r4) (.slice r5 r6 r7) (.slice r8 r9 r10), by rw [hw5]; exact (set6_other (by omega) (.int .i64 r1) (.int .i64 r2) (.float .f64 r3) (.string r4) (.slice r5 r6 r7) (.slice r8 r9 r10)).trans HX4.out.2⟩)
  have HE5 := hid (show Ext w w5 by rw [hw5]; exact set6_below HE4.out (Nat.le_refl _) (.int .i64 r1) (.int .i64 r2) (.float .f64 r3) (.string r4) (.slice r5 r6 r7) (.slice r8 r9 r10))
  have hs5 : Same (fun b => w.heap.size + 2 ≤ b) w4 w5 := fun b o hb hob => by rw [hw5]; exact (set6_other (by omega) (.int .i64 r1) (.int .i64 r2) (.float .f64 r3) (.string r4) (.slice r5 r6 r7) (.slice r8 r9 r10)).trans hob
  have HT15 := hid (HT1'.out.mono hs5 (fun b h _ => h))
  have HT25 := hid (HT2.out.mono hs5 (fun b h _ => h))
  clear hs5 hw5 z0 z1 z2 z3 z4 z5 f0 f1 f2 f3 f4 f5
  obtain ⟨⟨z0, z1, z2, z3, z4, z5⟩, f0, f1, f2, f3, f4, f5⟩ := slot6 HX5.out.2
  refine hK.out _ _ ?_
  clear hK K
  (try simp only [Act.put, List.setIfInBounds_toArray, List.set_cons_zero, List.set_cons_succ])
  refine wpAnyM_ready (rs := [5]) (by kernel_rfl) (by simp) ?_
  refine AllReadyM.behind (o := { dst := none, op := Go.Op.store 32 (Go.Operand.tmp 3) (Go.Operand.tmp 19), type := 0, pos := "filter.go:115", after := #[{ on := 3, ground := Go.Ground.data }, { on := 4, ground := Go.Ground.chain }, { on := 0, ground := Go.Ground.phase }, { on := 1, ground := Go.Ground.phase }, { on := 2, ground := Go.Ground.phase }, { on := 3, ground := Go.Ground.phase }, { on := 4, ground := Go.Ground.phase }], guard := none }) rfl (by kernel_rfl) (fun K hK => ?_) AllReadyM.nil
  go_simp
  obtain ⟨w6, hw6⟩ : ∃ x, x = set6 w5 (w.heap.size + 1) (.int .i64 m1) (.int .i64 m2) (.float .f64 m3) (.string m4) (.slice m5 m6 m7) (.slice m8 m9 m10) := ⟨_, rfl⟩
  change K _ (set6 w5 (w.heap.size + 1) (.int .i64 m1) (.int .i64 m2) (.float .f64 m3) (.string m4) (.slice m5 m6 m7) (.slice m8 m9 m10))
  rw [← hw6]
  have HX6 := hid (show w6.heap[w.heap.size]? = some (.cells #[.int .i64 r1, .int .i64 r2, .float .f64 r3, .string r4, .slice r5 r6 r7, .slice r8 r9 r10] 32) ∧ w6.heap[w.heap.size + 1]? = some (.cells #[.int .i64 m1, .int .i64 m2, .float .f64 m3, .string m4, .slice m5 m6 m7, .slice m8 m9 m10] 32) from ⟨by rw [hw6]; exact (set6_other (by omega) (.int .i64 m1) (.int .i64 m2) (.float .f64 m3) (.string m4) (.slice m5 m6 m7) (.slice m8 m9 m10)).trans HX5.out.1, by rw [hw6]; exact set6_heap HX5.out.2 (.int .i64 m1) (.int .i64 m2) (.float .f64 m3) (.string m4) (.slice m5 m6 m7) (.slice m8 m9 m10)⟩)
  have HE6 := hid (show Ext w w6 by rw [hw6]; exact set6_below HE5.out (by omega) (.int .i64 m1) (.int .i64 m2) (.float .f64 m3) (.string m4) (.slice m5 m6 m7) (.slice m8 m9 m10))
  have hs6 : Same (fun b => w.heap.size + 2 ≤ b) w5 w6 := fun b o hb hob => by rw [hw6]; exact (set6_other (by omega) (.int .i64 m1) (.int .i64 m2) (.float .f64 m3) (.string m4) (.slice m5 m6 m7) (.slice m8 m9 m10)).trans hob
  have HT16 := hid (HT15.out.mono hs6 (fun b h _ => h))
  have HT26 := hid (HT25.out.mono hs6 (fun b h _ => h))
  clear hs6 hw6 z0 z1 z2 z3 z4 z5 f0 f1 f2 f3 f4 f5
  refine hK.out _ _ ?_
  clear hK K
  (try simp only [Act.put, List.setIfInBounds_toArray, List.set_cons_zero, List.set_cons_succ])
  refine wpAnyM_done (by kernel_rfl) ?_ _
  obtain ⟨A, hA⟩ : ∃ A, A = cleanM ga := ⟨_, rfl⟩
  obtain ⟨B, hB⟩ : ∃ B, B = cleanM gb := ⟨_, rfl⟩
  have HMA := hid (show MapG A by rw [hA]; exact MapG.empty.foldW _)
  have HMB := hid (show MapG B by rw [hB]; exact MapG.empty.foldW _)
  have hlA : A.l.length ≤ 2147483647 := by
    rw [hA]
    exact Nat.le_trans (foldW_length MapG.empty _) (by show 0 + _ ≤ _; rw [List.length_zip]; omega)
  have hlB : B.l.length ≤ 2147483647 := by
    rw [hB]
    exact Nat.le_trans (foldW_length MapG.empty _) (by show 0 + _ ≤ _; rw [List.length_zip]; omega)
  have HKB := hid (show B.keys.length = B.l.length from HMB.out.2)
  rw [← hA] at HT16
  rw [← hB] at HT26
  have HAB := hid (And.intro hA hB)
  have HK6 := hid (show A.kind = 6 ∧ B.kind = 6 by rw [hA, hB]; exact ⟨(rel_clean ga).head ▸ rfl, (rel_clean gb).head ▸ rfl⟩)
  have HS6 := hid (show w.heap.size + 2 ≤ w6.heap.size from (Array.getElem?_eq_some_iff.1 HX6.out.2).1)
  obtain ⟨hbk, hbv⟩ := gv_parts HT26.out
  obtain ⟨ka, kb, ko, kc, hke, -, kat⟩ := hbk.at'
  obtain ⟨va, vb, vo, vc, hve, -, vat⟩ := hbv.at'
  simp only [Value.slice.injEq] at hke hve
  obtain ⟨rfl, rfl, rfl⟩ := hke
  obtain ⟨rfl, rfl, rfl⟩ := hve
  have HKA := hid kat
  have HVA := hid vat
  clear hA hB hbk hbv kat vat hla hlb
  obtain ⟨⟨z0, z1, z2, z3, z4, z5⟩, -⟩ := slot6 HX6.out.1
  go_upto_region 3 with fail
  clear z0 z1 z2 z3 z4 z5
  have HX7 := hid (show (w6.alloc (.cells #[.int .i64 r1, .int .i64 r2, .float .f64 r3, .string r4, .slice r5 r6 r7, .slice r8 r9 r10] 32)).heap[w.heap.size + 1]? = some (.cells #[.int .i64 m1, .int .i64 m2, .float .f64 m3, .string m4, .slice m5 B.keys.length m7, .slice m8 B.l.length m10] 32) ∧ (w6.alloc (.cells #[.int .i64 r1, .int .i64 r2, .float .f64 r3, .string r4, .slice r5 r6 r7, .slice r8 r9 r10] 32)).heap[w6.heap.size]? = some (.cells #[.int .i64 r1, .int .i64 r2, .float .f64 r3, .string r4, .slice r5 r6 r7, .slice r8 r9 r10] 32) from ⟨((Ext.refl w6).alloc _).block HX6.out.2, heap_alloc_new w6 _⟩)
  have HE7 := hid ((Ext.refl w6).alloc (.cells #[.int .i64 r1, .int .i64 r2, .float .f64 r3, .string r4, .slice r5 r6 r7, .slice r8 r9 r10] 32))
  have HS7 := hid (show (w6.alloc (.cells #[.int .i64 r1, .int .i64 r2, .float .f64 r3, .string r4, .slice r5 r6 r7, .slice r8 r9 r10] 32)).heap.size = w6.heap.size + 1 by simp)
  generalize w6.alloc (.cells #[.int .i64 r1, .int .i64 r2, .float .f64 r3, .string r4, .slice r5 r6 r7, .slice r8 r9 r10] 32) = w7 at *
  obtain ⟨⟨y0, y1, y2, y3, y4, y5⟩, -⟩ := slot6 HX7.out.1
  go_wp2_with fail
  clear y0 y1 y2 y3 y4 y5
  go_loopw [24] (fun i wr => ∃ j : Nat, i = .int .i64 j ∧ j ≤ B.keys.length ∧ Hid (∃ (n1 n2 : Int) (n6 n7 n9 n10 n3 : Nat) (n4 : ByteArray) (n5 n8 : Option Addr), wr.heap[w6.heap.size]? = some (.cells #[.int .i64 n1, .int .i64 n2, .float .f64 n3, .string n4, .slice n5 n6 n7, .slice n8 n9 n10] 32) ∧ RepGV (fun b => w.heap.size + 2 ≤ b ∧ b ≠ w6.heap.size) wr (foldW ((B.keys.zip B.l).take j) A) [.int .i64 n1, .int .i64 n2, .float .f64 n3, .string n4, .slice n5 n6 n7, .slice n8 n9 n10] ∧ Ext w6 wr)) (fun i _ => B.keys.length - (intOf i).toNat)
  case atStart => exact ⟨0, rfl, Nat.zero_le _, hid ⟨_, _, _, _, _, _, _, _, _, _, HX7.out.2, (HT16.out.weak (S' := fun b => w.heap.size + 2 ≤ b ∧ b ≠ w6.heap.size) (fun b h1 h2 => ⟨h1, by omega⟩)).ext HE7.out, HE7.out⟩⟩
  case round =>
    obtain ⟨j, rfl, hj, HREL⟩ := hrel
    obtain ⟨n1, n2, n6, n7, n9, n10, n3, n4, n5, n8, hx0, hc0, he0⟩ := HREL.out
    have HX := hid hx0
    have HC := hid hc0
    have HE := hid he0
    clear hx0 hc0 he0 HREL
    by_cases h1 : j < B.keys.length
    · obtain ⟨key, hkey⟩ : ∃ key, B.keys[j]? = some key := ⟨_, List.getElem?_eq_getElem h1⟩
      obtain ⟨g, hg⟩ : ∃ g, B.l[j]? = some g := ⟨_, List.getElem?_eq_getElem (by have := HKB.out; omega)⟩
      obtain ⟨rfl, kc1, hks⟩ := HKA.out j key hkey
      obtain ⟨rfl, u1, u2, u3, u4, u5, u6, u7, u8, u9, u10, uc, hR⟩ := HVA.out j g hg
      have q0 := HE.out.cellS kc1
      have HTK := hid (show foldW ((B.keys.zip B.l).take (j + 1)) A = withF (foldW ((B.keys.zip B.l).take j) A) key g by
        rw [take_snoc' (p := (key, g)) (by rw [List.getElem?_zip_eq_some]; exact ⟨hkey, hg⟩), foldW_snoc])
      have HG := hid (show RepGV (fun b => w.heap.size + 2 ≤ b ∧ b ≠ w6.heap.size) w6 g [.int .i64 u1, .int .i64 u2, .float .f64 u3, .string u4, .slice u5 u6 u7, .slice u8 u9 u10] from hR.weak (fun b h1 h2 => ⟨h1, by omega⟩))
      have HMG := hid (show MapG (foldW ((B.keys.zip B.l).take j) A) from HMA.out.foldW _)
      have HSZ := hid (show ((foldW ((B.keys.zip B.l).take j) A).l.length + 1) * 88 ≤ 140737488351232 by
        have := foldW_length HMA.out ((B.keys.zip B.l).take j)
        simp only [List.length_take, List.length_zip] at this
        omega)
      have HKZ := hid hks
      have KB := hid (show ∀ W : World, Ext w6 W → W.heap[w6.heap.size]? = some (.cells #[.int .i64 n1, .int .i64 n2, .float .f64 n3, .string n4, .slice n5 n6 n7, .slice n8 n9 n10] 32) → (fun w' : World => w'.cell? ⟨w6.heap.size, 0, none⟩ = some (.int .i64 n1) ∧ w'.cell? ⟨w6.heap.size, 1, none⟩ = some (.int .i64 n2) ∧ w'.cell? ⟨w6.heap.size, 2, none⟩ = some (.float .f64 n3) ∧ w'.cell? ⟨w6.heap.size, 3, none⟩ = some (.string n4) ∧ w'.cell? ⟨w6.heap.size, 4, none⟩ = some (.slice n5 n6 n7) ∧ w'.cell? ⟨w6.heap.size, 5, none⟩ = some (.slice n8 n9 n10) ∧ w'.cell? ⟨w.heap.size + 1, 5, none⟩ = some (.slice (some ⟨vb, vo, none⟩) B.l.length m10) ∧ w'.cell? ⟨vb, vo + j * 6, none⟩ = some (.int .i64 u1) ∧ w'.cell? ⟨vb, vo + j * 6 + 1, none⟩ = some (.int .i64 u2) ∧ w'.cell? ⟨vb, vo + j * 6 + 2, none⟩ = some (.float .f64 u3) ∧ w'.cell? ⟨vb, vo + j * 6 + 3, none⟩ = some (.string u4) ∧ w'.cell? ⟨vb, vo + j * 6 + 4, none⟩ = some (.slice u5 u6 u7) ∧ w'.cell? ⟨vb, vo + j * 6 + 5, none⟩ = some (.slice u8 u9 u10)) W from fun W hE hx => by
        obtain ⟨⟨z0, z1, z2, z3, z4, z5⟩, -⟩ := slot6 hx
        obtain ⟨⟨-, -, -, -, -, y5⟩, -⟩ := slot6 (hE.block HX6.out.2)
        obtain ⟨c0, c1, c2, c3, c4, c5⟩ := cells6 (cellsAt_ext hE uc)
        exact ⟨z0, z1, z2, z3, z4, z5, y5, c0, c1, c2, c3, c4, c5⟩)
      have p0 : (0 : Int) ≤ (j : Int) := by omega
      have p1 : (j : Int) < (B.keys.length : Int) := by omega
      have p2 : (j : Int) < (B.l.length : Int) := by have := HKB.out; omega
      clear hkey hg kc1 uc hR hks
      go_upto_region 6 with fail
      have HEd6 := hid (HE.out.drew)
      have HXd6 := hid (show wr.drew.heap[w6.heap.size]? = some (.cells #[.int .i64 n1, .int .i64 n2, .float .f64 n3, .string n4, .slice n5 n6 n7, .slice n8 n9 n10] 32) from HX.out)
      have HRd := hid (Ext.refl wr).drew
      have HLd := hid (show w6.heap.size < wr.drew.heap.size from (Array.getElem?_eq_some_iff.1 HXd6.out).1)
      refine wp_region_late (fun w' : World => w'.cell? ⟨w6.heap.size, 0, none⟩ = some (.int .i64 n1) ∧ w'.cell? ⟨w6.heap.size, 1, none⟩ = some (.int .i64 n2) ∧ w'.cell? ⟨w6.heap.size, 2, none⟩ = some (.float .f64 n3) ∧ w'.cell? ⟨w6.heap.size, 3, none⟩ = some (.string n4) ∧ w'.cell? ⟨w6.heap.size, 4, none⟩ = some (.slice n5 n6 n7) ∧ w'.cell? ⟨w6.heap.size, 5, none⟩ = some (.slice n8 n9 n10) ∧ w'.cell? ⟨w.heap.size + 1, 5, none⟩ = some (.slice (some ⟨vb, vo, none⟩) B.l.length m10) ∧ w'.cell? ⟨vb, vo + j * 6, none⟩ = some (.int .i64 u1) ∧ w'.cell? ⟨vb, vo + j * 6 + 1, none⟩ = some (.int .i64 u2) ∧ w'.cell? ⟨vb, vo + j * 6 + 2, none⟩ = some (.float .f64 u3) ∧ w'.cell? ⟨vb, vo + j * 6 + 3, none⟩ = some (.string u4) ∧ w'.cell? ⟨vb, vo + j * 6 + 4, none⟩ = some (.slice u5 u6 u7) ∧ w'.cell? ⟨vb, vo + j * 6 + 5, none⟩ = some (.slice u8 u9 u10)) [8] (by kernel_rfl) ?hS12 (fun hHeld => ?_)
      case hS12 => (exact KB.out _ HEd6.out HXd6.out)
      generalize wr.drew = wd at *
      change wpAnyM _ _ _ _ _ _ 9 #[false, false, false, false, false, false, false, false, false] _ _
      refine wpAnyM_take (i := 0) (oi := { dst := some 29, op := Go.Op.load 32 (Go.Operand.tmp 5), type := 32, pos := "filter.go:118", after := #[], guard := none }) (v := ?v13) rfl (by kernel_rfl) (fun _ _ _ h => h) (Or.inl ⟨by rfl, ?hy13⟩) (by assumption) ?rest13
      case hy13 => (intro wz hSw; (try dsimp only at hSw); go_simp; try with_reducible rfl)
      (try simp only [Act.put, List.setIfInBounds_toArray, List.set_cons_zero, List.set_cons_succ])
      refine wpAnyM_take (i := 1) (oi := { dst := some 30, op := Go.Op.move (Go.Operand.tmp 7), type := 9, pos := "filter.go:118", after := #[], guard := none }) (v := ?v14) rfl (by kernel_rfl) (fun _ _ _ h => h) (Or.inl ⟨by rfl, ?hy14⟩) (by assumption) ?rest14
      case hy14 => (intro wz hSw; (try dsimp only at hSw); go_simp; try with_reducible rfl)
      (try simp only [Act.put, List.setIfInBounds_toArray, List.set_cons_zero, List.set_cons_succ])
      refine wpAnyM_take (i := 2) (oi := { dst := some 31, op := Go.Op.fieldAddr 32 (Go.Operand.tmp 3) 5, type := 0, pos := "filter.go:118", after := #[], guard := none }) (v := ?v15) rfl (by kernel_rfl) (fun _ _ _ h => h) (Or.inl ⟨by rfl, ?hy15⟩) (by assumption) ?rest15
      case hy15 => (intro wz hSw; (try dsimp only at hSw); go_simp; try with_reducible rfl)
      (try simp only [Act.put, List.setIfInBounds_toArray, List.set_cons_zero, List.set_cons_succ])
      refine wpAnyM_take (i := 3) (oi := { dst := some 32, op := Go.Op.load 27 (Go.Operand.tmp 31), type := 27, pos := "filter.go:118", after := #[{ on := 2, ground := Go.Ground.data }], guard := none }) (v := ?v16) rfl (by kernel_rfl) (fun _ _ _ h => h) (Or.inl ⟨by rfl, ?hy16⟩) (by assumption) ?rest16
      case hy16 => (intro wz hSw; (try dsimp only at hSw); go_simp; try with_reducible rfl)
      (try simp only [Act.put, List.setIfInBounds_toArray, List.set_cons_zero, List.set_cons_succ])
      refine wpAnyM_take (i := 4) (oi := { dst := some 33, op := Go.Op.move (Go.Operand.tmp 6), type := 3, pos := "filter.go:118", after := #[], guard := none }) (v := ?v17) rfl (by kernel_rfl) (fun _ _ _ h => h) (Or.inl ⟨by rfl, ?hy17⟩) (by assumption) ?rest17
      case hy17 => (intro wz hSw; (try dsimp only at hSw); go_simp; try with_reducible rfl)
      (try simp only [Act.put, List.setIfInBounds_toArray, List.set_cons_zero, List.set_cons_succ])
      refine wpAnyM_take (i := 5) (oi := { dst := some 34, op := Go.Op.indexAddr 27 (Go.Operand.tmp 32) (Go.Operand.tmp 33), type := 0, pos := "filter.go:118", after := #[{ on := 3, ground := Go.Ground.data }, { on := 4, ground := Go.Ground.data }], guard := none }) (v := ?v18) rfl (by kernel_rfl) (fun _ _ _ h => h) (Or.inl ⟨by rfl, ?hy18⟩) (by assumption) ?rest18
      case hy18 => (intro wz hSw; (try dsimp only at hSw); go_simp; try with_reducible rfl)
      (try simp only [Act.put, List.setIfInBounds_toArray, List.set_cons_zero, List.set_cons_succ])
      refine wpAnyM_take (i := 6) (oi := { dst := some 35, op := Go.Op.load 32 (Go.Operand.tmp 34), type := 32, pos := "filter.go:118", after := #[{ on := 5, ground := Go.Ground.data }], guard := none }) (v := ?v19) rfl (by kernel_rfl) (fun _ _ _ h => h) (Or.inl ⟨by rfl, ?hy19⟩) (by assumption) ?rest19
      case hy19 => (intro wz hSw; (try dsimp only at hSw); go_simp; try with_reducible rfl)
      (try simp only [Act.put, List.setIfInBounds_toArray, List.set_cons_zero, List.set_cons_succ])
      refine wpAnyM_ready (rs := [7]) (by kernel_rfl) (by simp) ?_
      refine AllReadyM.cons (o := { dst := some 36, op := Go.Op.call { callee := Go.Callee.value (Go.Operand.func 67), args := #[Go.Operand.tmp 29, Go.Operand.tmp 30, Go.Operand.tmp 35], argTypes := #[32, 9, 32] }, type := 32, pos := "filter.go:118", after := #[{ on := 0, ground := Go.Ground.data }, { on := 1, ground := Go.Ground.data }, { on := 6, ground := Go.Ground.data }], guard := none }) rfl (fun K hK => ?_) AllReadyM.nil
      refine step_call _ rfl 67 [.tmp 29, .tmp 30, .tmp 35] #[32, 9, 32] rfl (by kernel_rfl) [_, _, _] rfl (withField_any (fun b => w.heap.size + 2 ≤ b ∧ b ≠ w6.heap.size) (foldW ((B.keys.zip B.l).take j) A) g _ _ key wd (fun b hb => by have := HLd.out; have := HS6.out; omega) (HC.out.ext HRd.out) (HG.out.ext HEd6.out) HMG.out.1 HMG.out.2 HSZ.out HKZ.out) ?_
      rintro en w8 ⟨cs, rfl, hT, hE⟩
      obtain ⟨k1, k2, k3, k4, k5, k6, k7, k8, k9, k10, rfl⟩ := hT.form
      refine ⟨_, rfl, ?_⟩
      have HT8 := hid hT
      have HE8 := hid (HEd6.out.trans hE)
      have HX8 := hid (hE.block HXd6.out)
      clear hT hE
      obtain ⟨⟨z0, z1, z2, z3, z4, z5⟩, f0, f1, f2, f3, f4, f5⟩ := slot6 HX8.out
      refine hK.out _ _ ?hS20 (fun hHeld => ?_)
      case hS20 => (exact KB.out _ HE8.out HX8.out)
      clear hK K
      (try simp only [Act.put, List.setIfInBounds_toArray, List.set_cons_zero, List.set_cons_succ])
      refine wpAnyM_ready (rs := [8]) (by kernel_rfl) (by simp) ?_
      refine AllReadyM.behind (o := { dst := none, op := Go.Op.store 32 (Go.Operand.tmp 5) (Go.Operand.tmp 36), type := 0, pos := "filter.go:118", after := #[{ on := 7, ground := Go.Ground.data }, { on := 7, ground := Go.Ground.chain }, { on := 0, ground := Go.Ground.phase }, { on := 1, ground := Go.Ground.phase }, { on := 2, ground := Go.Ground.phase }, { on := 3, ground := Go.Ground.phase }, { on := 4, ground := Go.Ground.phase }, { on := 5, ground := Go.Ground.phase }, { on := 6, ground := Go.Ground.phase }, { on := 7, ground := Go.Ground.phase }], guard := none }) rfl (by kernel_rfl) (fun K hK => ?_) AllReadyM.nil
      go_simp
      obtain ⟨w9, hw9⟩ : ∃ x, x = set6 w8 w6.heap.size (.int .i64 k1) (.int .i64 k2) (.float .f64 k3) (.string k4) (.slice k5 k6 k7) (.slice k8 k9 k10) := ⟨_, rfl⟩
      change K _ (set6 w8 w6.heap.size (.int .i64 k1) (.int .i64 k2) (.float .f64 k3) (.string k4) (.slice k5 k6 k7) (.slice k8 k9 k10))
      rw [← hw9]
      have HX9 := hid (show w9.heap[w6.heap.size]? = some (.cells #[.int .i64 k1, .int .i64 k2, .float .f64 k3, .string k4, .slice k5 k6 k7, .slice k8 k9 k10] 32) by rw [hw9]; exact set6_heap HX8.out (.int .i64 k1) (.int .i64 k2) (.float .f64 k3) (.string k4) (.slice k5 k6 k7) (.slice k8 k9 k10))
      have HE9 := hid (show Ext w6 w9 by rw [hw9]; exact set6_below HE8.out (Nat.le_refl _) (.int .i64 k1) (.int .i64 k2) (.float .f64 k3) (.string k4) (.slice k5 k6 k7) (.slice k8 k9 k10))
      have HT9 := hid (HT8.out.mono (w' := w9) (S' := fun b => w.heap.size + 2 ≤ b ∧ b ≠ w6.heap.size) (fun b o hb hob => by rw [hw9]; exact (set6_other hb.2 (.int .i64 k1) (.int .i64 k2) (.float .f64 k3) (.string k4) (.slice k5 k6 k7) (.slice k8 k9 k10)).trans hob) (fun b h _ => h))
      clear hw9 z0 z1 z2 z3 z4 z5 f0 f1 f2 f3 f4 f5
      refine hK.out _ _ ?_
      clear hK K
      (try simp only [Act.put, List.setIfInBounds_toArray, List.set_cons_zero, List.set_cons_succ])
      refine wpAnyM_done (by kernel_rfl) ?_ _
      go_wp2_with fail
      exact ⟨⟨j + 1, by go_num, by omega, hid ⟨_, _, _, _, _, _, _, _, _, _, HX9.out, by rw [HTK.out]; exact HT9.out, HE9.out⟩⟩, by simp [intOf]; omega⟩
    · generalize wr = wl at *
      have hjj : j = B.keys.length := by omega
      subst hjj
      obtain ⟨C, hC⟩ : ∃ C, C = foldW (B.keys.zip B.l) A := ⟨_, rfl⟩
      have HCC := hid (show RepGV (fun b => w.heap.size + 2 ≤ b ∧ b ≠ w6.heap.size) wl C [.int .i64 n1, .int .i64 n2, .float .f64 n3, .string n4, .slice n5 n6 n7, .slice n8 n9 n10] by have h := HC.out; rw [List.take_of_length_le (by rw [List.length_zip, HKB.out]; omega)] at h; rw [hC]; exact h)
      have HCD := hid hC
      have HLC := hid (show C.keys.length ≤ 4294967294 by
        have h0 : MapG C := by rw [hC]; exact HMA.out.foldW _
        have h1 := foldW_length HMA.out (B.keys.zip B.l)
        rw [List.length_zip] at h1
        rw [h0.2, hC]
        omega)
      clear hC
      obtain ⟨hck, -⟩ := gv_parts HCC.out
      obtain ⟨ca, cb, co, cc, hce, hcsz, cat⟩ := hck.at'
      simp only [Value.slice.injEq] at hce
      obtain ⟨rfl, rfl, rfl⟩ := hce
      have HCA := hid cat
      clear hck cat
      obtain ⟨⟨z0, z1, z2, z3, z4, z5⟩, -⟩ := slot6 HX.out
      go_wp2_with fail
      clear z0 z1 z2 z3 z4 z5
      go_loopw [8, 41] (fun s8 i w2 => ∃ j : Nat, i = .int .i64 j ∧ j ≤ C.keys.length ∧ Hid (∃ xs, w2.ownsRow wl.heap.size 45 3 s8 j xs ∧ RowZ (fun b => w.heap.size + 2 ≤ b ∧ some b ≠ s8.ownBlock) w2 xs ((toldG A B C.keys).take j)) ∧ Hid (Ext wl w2)) (fun _ i _ => C.keys.length - (intOf i).toNat)
      case atStart => exact ⟨0, rfl, Nat.zero_le _, hid ⟨[], World.ownsRow_nil _ _ _ _, RowZ.nil _ _⟩, hid (Ext.refl _)⟩
      case round =>
        generalize wr = w2 at *
        obtain ⟨j, rfl, hj, HR, HE2⟩ := hrel
        by_cases h2 : j < C.keys.length
        · obtain ⟨key, hkey⟩ : ∃ key, C.keys[j]? = some key := ⟨_, List.getElem?_eq_getElem h2⟩
          obtain ⟨rfl, kc1, hks⟩ := HCA.out j key hkey
          have q0 := HE2.out.cellS kc1
          have HK := hid hks
          obtain ⟨xs, hown, hrow⟩ := HR.out
          obtain ⟨sa, sc, rfl⟩ := own_form hown
          have HO := hid hown
          have HRW := hid hrow
          have HSR := hid HE2.out.size
          have HSL := hid (show w.heap.size + 2 ≤ wl.heap.size from Nat.le_trans HS6.out HE.out.size)
          have HTK := hid (show (toldG A B C.keys).take (j + 1) = (toldG A B C.keys).take j ++ [(key, (fieldG A key).toList, (fieldG B key).toList)] from take_snoc' (by unfold toldG; rw [List.getElem?_map, hkey]; rfl))
          have HBX := hid (And.intro (HE.out.block HX6.out.1) (HE.out.block HX6.out.2))
          have HTA := hid ((HT16.out.weak (S' := fun b => w.heap.size + 2 ≤ b ∧ b < wl.heap.size) (fun b h1 h2 => ⟨h1, Nat.lt_of_lt_of_le h2 HE.out.size⟩)).ext HE.out)
          have HTB := hid ((HT26.out.weak (S' := fun b => w.heap.size + 2 ≤ b ∧ b < wl.heap.size) (fun b h1 h2 => ⟨h1, Nat.lt_of_lt_of_le h2 HE.out.size⟩)).ext HE.out)
          have HFA := hid (fun (W : World) (E : Ext wl W) => field_S _ A key W _ (HTA.out.ext E) HK6.out.1 HMA.out)
          have HFB := hid (fun (W : World) (E : Ext wl W) => field_S _ B key W _ (HTB.out.ext E) HK6.out.2 HMB.out)
          have i0' : (0 : Int) ≤ (j : Int) := by omega
          have i1' : (j : Int) < (C.keys.length : Int) := by omega
          clear hown hrow HR hkey kc1 hks
          go_upto_region 13 with fail
          have HE10 := hid (HE2.out.alloc (.cells #[.string key, .slice none 0 0, .slice none 0 0] 45))
          have HB10 := hid (heap_alloc_new w2 (.cells #[.string key, .slice none 0 0, .slice none 0 0] 45))
          have HW10 := hid ((Ext.refl w2).alloc (.cells #[.string key, .slice none 0 0, .slice none 0 0] 45))
          have HS10 := hid (show (w2.alloc (.cells #[.string key, .slice none 0 0, .slice none 0 0] 45)).heap.size = w2.heap.size + 1 by simp)
          have HO10 := hid (HO.out.alloc (.cells #[.string key, .slice none 0 0, .slice none 0 0] 45))
          generalize w2.alloc (.cells #[.string key, .slice none 0 0, .slice none 0 0] 45) = w10 at *
          cases hfa : fieldG A key with
          | none =>
            rw [hfa] at HFA HTK
            cases hfb : fieldG B key with
            | none =>
              rw [hfb] at HFB HTK
              obtain ⟨⟨z0, z1, z2, z3, z4, z5⟩, -⟩ := slot6 ((HE10.out).block HBX.out.1)
              go_upto_region 14 with (go_at_call 68; refine (HFA.out _ HE10.out).mono ?_; rintro en v1 ⟨cs, rfl, hT, hE⟩; obtain ⟨e1, e2, e3, e4, e5, e6, e7, e8, e9, e10, rfl⟩ := hT.form; have HG1 := hid hT; have HV1 := hid hE; clear hT hE)
              clear z0 z1 z2 z3 z4 z5
              have HCx1w := hid (heap_alloc_new v1 (.cells #[.int .i64 e1, .int .i64 e2, .float .f64 e3, .string e4, .slice e5 e6 e7, .slice e8 e9 e10] 32))
              have HEx1w := hid ((HE10.out.trans HV1.out).alloc (.cells #[.int .i64 e1, .int .i64 e2, .float .f64 e3, .string e4, .slice e5 e6 e7, .slice e8 e9 e10] 32))
              have HWx1w := hid ((HW10.out.trans HV1.out).alloc (.cells #[.int .i64 e1, .int .i64 e2, .float .f64 e3, .string e4, .slice e5 e6 e7, .slice e8 e9 e10] 32))
              have HBx1w := hid (((Ext.refl v1).alloc (.cells #[.int .i64 e1, .int .i64 e2, .float .f64 e3, .string e4, .slice e5 e6 e7, .slice e8 e9 e10] 32)).block (HV1.out.block HB10.out))
              have HSv1 := hid HV1.out.size
              have HSx1w := hid (show (v1.alloc (.cells #[.int .i64 e1, .int .i64 e2, .float .f64 e3, .string e4, .slice e5 e6 e7, .slice e8 e9 e10] 32)).heap.size = v1.heap.size + 1 by simp)
              have HG1x := hid (HG1.out.ext ((Ext.refl v1).alloc (.cells #[.int .i64 e1, .int .i64 e2, .float .f64 e3, .string e4, .slice e5 e6 e7, .slice e8 e9 e10] 32)))
              generalize v1.alloc (.cells #[.int .i64 e1, .int .i64 e2, .float .f64 e3, .string e4, .slice e5 e6 e7, .slice e8 e9 e10] 32) = x1w at *
              go_upto_region 16 with fail
              obtain ⟨⟨z0, z1, z2, z3, z4, z5⟩, -⟩ := slot6 ((HEx1w.out).block HBX.out.2)
              go_upto_region 17 with (go_at_call 68; refine (HFB.out _ HEx1w.out).mono ?_; rintro en v2 ⟨cs, rfl, hT, hE⟩; obtain ⟨d1, d2, d3, d4, d5, d6, d7, d8, d9, d10, rfl⟩ := hT.form; have HG2 := hid hT; have HV2 := hid hE; clear hT hE)
              clear z0 z1 z2 z3 z4 z5
              have HCx2w := hid (heap_alloc_new v2 (.cells #[.int .i64 d1, .int .i64 d2, .float .f64 d3, .string d4, .slice d5 d6 d7, .slice d8 d9 d10] 32))
              have HEx2w := hid ((HEx1w.out.trans HV2.out).alloc (.cells #[.int .i64 d1, .int .i64 d2, .float .f64 d3, .string d4, .slice d5 d6 d7, .slice d8 d9 d10] 32))
              have HWx2w := hid ((HWx1w.out.trans HV2.out).alloc (.cells #[.int .i64 d1, .int .i64 d2, .float .f64 d3, .string d4, .slice d5 d6 d7, .slice d8 d9 d10] 32))
              have HBx2w := hid (((Ext.refl v2).alloc (.cells #[.int .i64 d1, .int .i64 d2, .float .f64 d3, .string d4, .slice d5 d6 d7, .slice d8 d9 d10] 32)).block (HV2.out.block HBx1w.out))
              have HSv2 := hid HV2.out.size
              have HSx2w := hid (show (v2.alloc (.cells #[.int .i64 d1, .int .i64 d2, .float .f64 d3, .string d4, .slice d5 d6 d7, .slice d8 d9 d10] 32)).heap.size = v2.heap.size + 1 by simp)
              have HG2x := hid (HG2.out.ext ((Ext.refl v2).alloc (.cells #[.int .i64 d1, .int .i64 d2, .float .f64 d3, .string d4, .slice d5 d6 d7, .slice d8 d9 d10] 32)))
              generalize v2.alloc (.cells #[.int .i64 d1, .int .i64 d2, .float .f64 d3, .string d4, .slice d5 d6 d7, .slice d8 d9 d10] 32) = x2w at *
              go_upto_region 19 with fail
              obtain ⟨b0, b1, b2⟩ : x2w.cell? ⟨w2.heap.size, 0, none⟩ = some (.string key) ∧ x2w.cell? ⟨w2.heap.size, 1, none⟩ = some (.slice none 0 0) ∧ x2w.cell? ⟨w2.heap.size, 2, none⟩ = some (.slice none 0 0) := ⟨(cell_of_heap HBx2w.out 0).trans rfl, (cell_of_heap HBx2w.out 1).trans rfl, (cell_of_heap HBx2w.out 2).trans rfl⟩
              have tok := trivial
              go_wp2_with (at_builtin; refine wpList_append_lies _ rfl (.tmp 67) (.tmp 69) 42 rfl wl.heap.size 45 i0 _ 3 64 Try.underlying42 hi hz0 hz1 hz2 rfl (by decide) _ j xs rfl ((ownsRow_ext HO.out HWx2w.out).alloc _) ⟨x2w.heap.size, 0, none⟩ 1 1 [.string key, .slice none 0 0, .slice none 0 0] rfl rfl (cells_new x2w [.string key, .slice none 0 0, .slice none 0 0] _) (by simp [Value.oneCell']) (by decide) (by have := HLC.out; unfold maxLen; omega) (by have := HLC.out; omega) (by have := HEx2w.out.size; simp; omega) (x2w.heap.size + 1) (by simp) ?_; intro g6 cap6 wz hown6 hg6 hat6 hlt6; have HM := hid (rowz_more HSR.out HO.out HRW.out HWx2w.out hown6 hg6 hat6 HK.out (vals_none _ _) (vals_none _ _)); have HO6 := hid hown6; clear hown6 hg6 hat6 hlt6)
              exact ⟨⟨j + 1, by go_num, by omega, hid ⟨_, HO6.out, by rw [HTK.out]; exact HM.out.1⟩, hid (Below.trans (B := wl.heap.size) HE2.out HM.out.2)⟩, by simp [intOf]; omega⟩
            | some fB =>
              rw [hfb] at HFB HTK
              obtain ⟨⟨z0, z1, z2, z3, z4, z5⟩, -⟩ := slot6 ((HE10.out).block HBX.out.1)
              go_upto_region 14 with (go_at_call 68; refine (HFA.out _ HE10.out).mono ?_; rintro en v1 ⟨cs, rfl, hT, hE⟩; obtain ⟨e1, e2, e3, e4, e5, e6, e7, e8, e9, e10, rfl⟩ := hT.form; have HG1 := hid hT; have HV1 := hid hE; clear hT hE)
              clear z0 z1 z2 z3 z4 z5
              have HCx1w := hid (heap_alloc_new v1 (.cells #[.int .i64 e1, .int .i64 e2, .float .f64 e3, .string e4, .slice e5 e6 e7, .slice e8 e9 e10] 32))
              have HEx1w := hid ((HE10.out.trans HV1.out).alloc (.cells #[.int .i64 e1, .int .i64 e2, .float .f64 e3, .string e4, .slice e5 e6 e7, .slice e8 e9 e10] 32))
              have HWx1w := hid ((HW10.out.trans HV1.out).alloc (.cells #[.int .i64 e1, .int .i64 e2, .float .f64 e3, .string e4, .slice e5 e6 e7, .slice e8 e9 e10] 32))
              have HBx1w := hid (((Ext.refl v1).alloc (.cells #[.int .i64 e1, .int .i64 e2, .float .f64 e3, .string e4, .slice e5 e6 e7, .slice e8 e9 e10] 32)).block (HV1.out.block HB10.out))
              have HSv1 := hid HV1.out.size
              have HSx1w := hid (show (v1.alloc (.cells #[.int .i64 e1, .int .i64 e2, .float .f64 e3, .string e4, .slice e5 e6 e7, .slice e8 e9 e10] 32)).heap.size = v1.heap.size + 1 by simp)
              have HG1x := hid (HG1.out.ext ((Ext.refl v1).alloc (.cells #[.int .i64 e1, .int .i64 e2, .float .f64 e3, .string e4, .slice e5 e6 e7, .slice e8 e9 e10] 32)))
              generalize v1.alloc (.cells #[.int .i64 e1, .int .i64 e2, .float .f64 e3, .string e4, .slice e5 e6 e7, .slice e8 e9 e10] 32) = x1w at *
              go_upto_region 16 with fail
              obtain ⟨⟨z0, z1, z2, z3, z4, z5⟩, -⟩ := slot6 ((HEx1w.out).block HBX.out.2)
              go_upto_region 17 with (go_at_call 68; refine (HFB.out _ HEx1w.out).mono ?_; rintro en v2 ⟨cs, rfl, hT, hE⟩; obtain ⟨d1, d2, d3, d4, d5, d6, d7, d8, d9, d10, rfl⟩ := hT.form; have HG2 := hid hT; have HV2 := hid hE; clear hT hE)
              clear z0 z1 z2 z3 z4 z5
              have HCx2w := hid (heap_alloc_new v2 (.cells #[.int .i64 d1, .int .i64 d2, .float .f64 d3, .string d4, .slice d5 d6 d7, .slice d8 d9 d10] 32))
              have HEx2w := hid ((HEx1w.out.trans HV2.out).alloc (.cells #[.int .i64 d1, .int .i64 d2, .float .f64 d3, .string d4, .slice d5 d6 d7, .slice d8 d9 d10] 32))
              have HWx2w := hid ((HWx1w.out.trans HV2.out).alloc (.cells #[.int .i64 d1, .int .i64 d2, .float .f64 d3, .string d4, .slice d5 d6 d7, .slice d8 d9 d10] 32))
              have HBx2w := hid (((Ext.refl v2).alloc (.cells #[.int .i64 d1, .int .i64 d2, .float .f64 d3, .string d4, .slice d5 d6 d7, .slice d8 d9 d10] 32)).block (HV2.out.block HBx1w.out))
              have HSv2 := hid HV2.out.size
              have HSx2w := hid (show (v2.alloc (.cells #[.int .i64 d1, .int .i64 d2, .float .f64 d3, .string d4, .slice d5 d6 d7, .slice d8 d9 d10] 32)).heap.size = v2.heap.size + 1 by simp)
              have HG2x := hid (HG2.out.ext ((Ext.refl v2).alloc (.cells #[.int .i64 d1, .int .i64 d2, .float .f64 d3, .string d4, .slice d5 d6 d7, .slice d8 d9 d10] 32)))
              generalize v2.alloc (.cells #[.int .i64 d1, .int .i64 d2, .float .f64 d3, .string d4, .slice d5 d6 d7, .slice d8 d9 d10] 32) = x2w at *
              obtain ⟨⟨z0, z1, z2, z3, z4, z5⟩, -⟩ := slot6 HCx2w.out
              have b1 := fun o => (cell_of_heap (((Ext.refl x2w).alloc o).block HBx2w.out) 2).trans rfl
              have b2 := fun o => free_of_heap (((Ext.refl x2w).alloc o).block HBx2w.out) 2
              go_upto_region 19 with fail
              clear z0 z1 z2 z3 z4 z5 b1 b2
              have HBy2w : Hid (((x2w.alloc (.cells #[.int .i64 d1, .int .i64 d2, .float .f64 d3, .string d4, .slice d5 d6 d7, .slice d8 d9 d10] 32)).setCell ⟨w2.heap.size, 2, none⟩ (.slice (some ⟨x2w.heap.size, 0, none⟩) 1 1)).heap[w2.heap.size]? = some (.cells #[.string key, .slice none 0 0, .slice (some ⟨x2w.heap.size, 0, none⟩) 1 1] 45)) := hid ((setCell_heap (((Ext.refl x2w).alloc (.cells #[.int .i64 d1, .int .i64 d2, .float .f64 d3, .string d4, .slice d5 d6 d7, .slice d8 d9 d10] 32)).block HBx2w.out) 2 _).trans rfl)
              have hoth : ∀ b, b ≠ w2.heap.size → ((x2w.alloc (.cells #[.int .i64 d1, .int .i64 d2, .float .f64 d3, .string d4, .slice d5 d6 d7, .slice d8 d9 d10] 32)).setCell ⟨w2.heap.size, 2, none⟩ (.slice (some ⟨x2w.heap.size, 0, none⟩) 1 1)).heap[b]? = (x2w.alloc (.cells #[.int .i64 d1, .int .i64 d2, .float .f64 d3, .string d4, .slice d5 d6 d7, .slice d8 d9 d10] 32)).heap[b]? := fun b hb => Below.heap_setCell _ _ _ _ hb
              have HCy2w : Hid (((x2w.alloc (.cells #[.int .i64 d1, .int .i64 d2, .float .f64 d3, .string d4, .slice d5 d6 d7, .slice d8 d9 d10] 32)).setCell ⟨w2.heap.size, 2, none⟩ (.slice (some ⟨x2w.heap.size, 0, none⟩) 1 1)).heap[x2w.heap.size]? = some (.cells #[.int .i64 d1, .int .i64 d2, .float .f64 d3, .string d4, .slice d5 d6 d7, .slice d8 d9 d10] 32)) := hid ((hoth _ (by have := HS10.out; have := HSv1.out; have := HSx1w.out; have := HSv2.out; have := HSx2w.out; omega)).trans (heap_alloc_new x2w _))
              have HSy2w := hid (show ((x2w.alloc (.cells #[.int .i64 d1, .int .i64 d2, .float .f64 d3, .string d4, .slice d5 d6 d7, .slice d8 d9 d10] 32)).setCell ⟨w2.heap.size, 2, none⟩ (.slice (some ⟨x2w.heap.size, 0, none⟩) 1 1)).heap.size = x2w.heap.size + 1 by simp)
              have HEy2w : Hid (Ext wl ((x2w.alloc (.cells #[.int .i64 d1, .int .i64 d2, .float .f64 d3, .string d4, .slice d5 d6 d7, .slice d8 d9 d10] 32)).setCell ⟨w2.heap.size, 2, none⟩ (.slice (some ⟨x2w.heap.size, 0, none⟩) 1 1))) := hid (Below.setCell (HEx2w.out.alloc _) (by have := HSR.out; omega) _)
              have HWy2w : Hid (Ext w2 ((x2w.alloc (.cells #[.int .i64 d1, .int .i64 d2, .float .f64 d3, .string d4, .slice d5 d6 d7, .slice d8 d9 d10] 32)).setCell ⟨w2.heap.size, 2, none⟩ (.slice (some ⟨x2w.heap.size, 0, none⟩) 1 1))) := hid (Below.setCell (HWx2w.out.alloc _) (Nat.le_refl _) _)
              have HSM2 : Hid (Same (fun b => w.heap.size + 2 ≤ b ∧ (b < wl.heap.size ∨ w2.heap.size < b)) x2w ((x2w.alloc (.cells #[.int .i64 d1, .int .i64 d2, .float .f64 d3, .string d4, .slice d5 d6 d7, .slice d8 d9 d10] 32)).setCell ⟨w2.heap.size, 2, none⟩ (.slice (some ⟨x2w.heap.size, 0, none⟩) 1 1))) := hid (fun b o hb hob => (hoth b (by have := hb.2; have := HSR.out; omega)).trans (((Ext.refl x2w).alloc _).block hob))
              clear hoth
              generalize ((x2w.alloc (.cells #[.int .i64 d1, .int .i64 d2, .float .f64 d3, .string d4, .slice d5 d6 d7, .slice d8 d9 d10] 32)).setCell ⟨w2.heap.size, 2, none⟩ (.slice (some ⟨x2w.heap.size, 0, none⟩) 1 1)) = y2w at *
              have HG2y := hid (HG2x.out.mono (S' := (fun b => w.heap.size + 2 ≤ b ∧ (b < wl.heap.size ∨ w2.heap.size < b))) (fun b o hb hob => HSM2.out b o ⟨hb.1, .inl hb.2⟩ hob) (fun b hb _ => ⟨hb.1, .inl hb.2⟩))
              have HR2y := hid (vals_one (S := (fun b => w.heap.size + 2 ≤ b ∧ (b < wl.heap.size ∨ w2.heap.size < b))) HCy2w.out rfl (by have := HS10.out; have := HSv1.out; have := HSx1w.out; have := HSv2.out; have := HSx2w.out; have := HSR.out; have := HSL.out; constructor <;> omega) HG2y.out)
              obtain ⟨b0, b1, b2⟩ : y2w.cell? ⟨w2.heap.size, 0, none⟩ = some (.string key) ∧ y2w.cell? ⟨w2.heap.size, 1, none⟩ = some (.slice none 0 0) ∧ y2w.cell? ⟨w2.heap.size, 2, none⟩ = some (.slice (some ⟨x2w.heap.size, 0, none⟩) 1 1) := ⟨(cell_of_heap HBy2w.out 0).trans rfl, (cell_of_heap HBy2w.out 1).trans rfl, (cell_of_heap HBy2w.out 2).trans rfl⟩
              have tok := trivial
              go_wp2_with (at_builtin; refine wpList_append_lies _ rfl (.tmp 67) (.tmp 69) 42 rfl wl.heap.size 45 i0 _ 3 64 Try.underlying42 hi hz0 hz1 hz2 rfl (by decide) _ j xs rfl ((ownsRow_ext HO.out HWy2w.out).alloc _) ⟨y2w.heap.size, 0, none⟩ 1 1 [.string key, .slice none 0 0, .slice (some ⟨x2w.heap.size, 0, none⟩) 1 1] rfl rfl (cells_new y2w [.string key, .slice none 0 0, .slice (some ⟨x2w.heap.size, 0, none⟩) 1 1] _) (by simp [Value.oneCell']) (by decide) (by have := HLC.out; unfold maxLen; omega) (by have := HLC.out; omega) (by have := HEy2w.out.size; simp; omega) (y2w.heap.size + 1) (by simp) ?_; intro g6 cap6 wz hown6 hg6 hat6 hlt6; have HM := hid (rowz_more HSR.out HO.out HRW.out HWy2w.out hown6 hg6 hat6 HK.out (vals_none _ _) (HR2y.out)); have HO6 := hid hown6; clear hown6 hg6 hat6 hlt6)
              exact ⟨⟨j + 1, by go_num, by omega, hid ⟨_, HO6.out, by rw [HTK.out]; exact HM.out.1⟩, hid (Below.trans (B := wl.heap.size) HE2.out HM.out.2)⟩, by simp [intOf]; omega⟩
          | some fA =>
            rw [hfa] at HFA HTK
            cases hfb : fieldG B key with
            | none =>
              rw [hfb] at HFB HTK
              obtain ⟨⟨z0, z1, z2, z3, z4, z5⟩, -⟩ := slot6 ((HE10.out).block HBX.out.1)
              go_upto_region 14 with (go_at_call 68; refine (HFA.out _ HE10.out).mono ?_; rintro en v1 ⟨cs, rfl, hT, hE⟩; obtain ⟨e1, e2, e3, e4, e5, e6, e7, e8, e9, e10, rfl⟩ := hT.form; have HG1 := hid hT; have HV1 := hid hE; clear hT hE)
              clear z0 z1 z2 z3 z4 z5
              have HCx1w := hid (heap_alloc_new v1 (.cells #[.int .i64 e1, .int .i64 e2, .float .f64 e3, .string e4, .slice e5 e6 e7, .slice e8 e9 e10] 32))
              have HEx1w := hid ((HE10.out.trans HV1.out).alloc (.cells #[.int .i64 e1, .int .i64 e2, .float .f64 e3, .string e4, .slice e5 e6 e7, .slice e8 e9 e10] 32))
              have HWx1w := hid ((HW10.out.trans HV1.out).alloc (.cells #[.int .i64 e1, .int .i64 e2, .float .f64 e3, .string e4, .slice e5 e6 e7, .slice e8 e9 e10] 32))
              have HBx1w := hid (((Ext.refl v1).alloc (.cells #[.int .i64 e1, .int .i64 e2, .float .f64 e3, .string e4, .slice e5 e6 e7, .slice e8 e9 e10] 32)).block (HV1.out.block HB10.out))
              have HSv1 := hid HV1.out.size
              have HSx1w := hid (show (v1.alloc (.cells #[.int .i64 e1, .int .i64 e2, .float .f64 e3, .string e4, .slice e5 e6 e7, .slice e8 e9 e10] 32)).heap.size = v1.heap.size + 1 by simp)
              have HG1x := hid (HG1.out.ext ((Ext.refl v1).alloc (.cells #[.int .i64 e1, .int .i64 e2, .float .f64 e3, .string e4, .slice e5 e6 e7, .slice e8 e9 e10] 32)))
              generalize v1.alloc (.cells #[.int .i64 e1, .int .i64 e2, .float .f64 e3, .string e4, .slice e5 e6 e7, .slice e8 e9 e10] 32) = x1w at *
              obtain ⟨⟨z0, z1, z2, z3, z4, z5⟩, -⟩ := slot6 HCx1w.out
              have b1 := fun o => (cell_of_heap (((Ext.refl x1w).alloc o).block HBx1w.out) 1).trans rfl
              have b2 := fun o => free_of_heap (((Ext.refl x1w).alloc o).block HBx1w.out) 1
              go_upto_region 16 with fail
              clear z0 z1 z2 z3 z4 z5 b1 b2
              have HBy1w : Hid (((x1w.alloc (.cells #[.int .i64 e1, .int .i64 e2, .float .f64 e3, .string e4, .slice e5 e6 e7, .slice e8 e9 e10] 32)).setCell ⟨w2.heap.size, 1, none⟩ (.slice (some ⟨x1w.heap.size, 0, none⟩) 1 1)).heap[w2.heap.size]? = some (.cells #[.string key, .slice (some ⟨x1w.heap.size, 0, none⟩) 1 1, .slice none 0 0] 45)) := hid ((setCell_heap (((Ext.refl x1w).alloc (.cells #[.int .i64 e1, .int .i64 e2, .float .f64 e3, .string e4, .slice e5 e6 e7, .slice e8 e9 e10] 32)).block HBx1w.out) 1 _).trans rfl)
              have hoth : ∀ b, b ≠ w2.heap.size → ((x1w.alloc (.cells #[.int .i64 e1, .int .i64 e2, .float .f64 e3, .string e4, .slice e5 e6 e7, .slice e8 e9 e10] 32)).setCell ⟨w2.heap.size, 1, none⟩ (.slice (some ⟨x1w.heap.size, 0, none⟩) 1 1)).heap[b]? = (x1w.alloc (.cells #[.int .i64 e1, .int .i64 e2, .float .f64 e3, .string e4, .slice e5 e6 e7, .slice e8 e9 e10] 32)).heap[b]? := fun b hb => Below.heap_setCell _ _ _ _ hb
              have HCy1w : Hid (((x1w.alloc (.cells #[.int .i64 e1, .int .i64 e2, .float .f64 e3, .string e4, .slice e5 e6 e7, .slice e8 e9 e10] 32)).setCell ⟨w2.heap.size, 1, none⟩ (.slice (some ⟨x1w.heap.size, 0, none⟩) 1 1)).heap[x1w.heap.size]? = some (.cells #[.int .i64 e1, .int .i64 e2, .float .f64 e3, .string e4, .slice e5 e6 e7, .slice e8 e9 e10] 32)) := hid ((hoth _ (by have := HS10.out; have := HSv1.out; have := HSx1w.out; omega)).trans (heap_alloc_new x1w _))
              have HSy1w := hid (show ((x1w.alloc (.cells #[.int .i64 e1, .int .i64 e2, .float .f64 e3, .string e4, .slice e5 e6 e7, .slice e8 e9 e10] 32)).setCell ⟨w2.heap.size, 1, none⟩ (.slice (some ⟨x1w.heap.size, 0, none⟩) 1 1)).heap.size = x1w.heap.size + 1 by simp)
              have HEy1w : Hid (Ext wl ((x1w.alloc (.cells #[.int .i64 e1, .int .i64 e2, .float .f64 e3, .string e4, .slice e5 e6 e7, .slice e8 e9 e10] 32)).setCell ⟨w2.heap.size, 1, none⟩ (.slice (some ⟨x1w.heap.size, 0, none⟩) 1 1))) := hid (Below.setCell (HEx1w.out.alloc _) (by have := HSR.out; omega) _)
              have HWy1w : Hid (Ext w2 ((x1w.alloc (.cells #[.int .i64 e1, .int .i64 e2, .float .f64 e3, .string e4, .slice e5 e6 e7, .slice e8 e9 e10] 32)).setCell ⟨w2.heap.size, 1, none⟩ (.slice (some ⟨x1w.heap.size, 0, none⟩) 1 1))) := hid (Below.setCell (HWx1w.out.alloc _) (Nat.le_refl _) _)
              have HSM1 : Hid (Same (fun b => w.heap.size + 2 ≤ b ∧ (b < wl.heap.size ∨ w2.heap.size < b)) x1w ((x1w.alloc (.cells #[.int .i64 e1, .int .i64 e2, .float .f64 e3, .string e4, .slice e5 e6 e7, .slice e8 e9 e10] 32)).setCell ⟨w2.heap.size, 1, none⟩ (.slice (some ⟨x1w.heap.size, 0, none⟩) 1 1))) := hid (fun b o hb hob => (hoth b (by have := hb.2; have := HSR.out; omega)).trans (((Ext.refl x1w).alloc _).block hob))
              clear hoth
              generalize ((x1w.alloc (.cells #[.int .i64 e1, .int .i64 e2, .float .f64 e3, .string e4, .slice e5 e6 e7, .slice e8 e9 e10] 32)).setCell ⟨w2.heap.size, 1, none⟩ (.slice (some ⟨x1w.heap.size, 0, none⟩) 1 1)) = y1w at *
              have HG1y := hid (HG1x.out.mono (S' := (fun b => w.heap.size + 2 ≤ b ∧ (b < wl.heap.size ∨ w2.heap.size < b))) (fun b o hb hob => HSM1.out b o ⟨hb.1, .inl hb.2⟩ hob) (fun b hb _ => ⟨hb.1, .inl hb.2⟩))
              have HR1y := hid (vals_one (S := (fun b => w.heap.size + 2 ≤ b ∧ (b < wl.heap.size ∨ w2.heap.size < b))) HCy1w.out rfl (by have := HS10.out; have := HSv1.out; have := HSx1w.out; have := HSR.out; have := HSL.out; constructor <;> omega) HG1y.out)
              obtain ⟨⟨z0, z1, z2, z3, z4, z5⟩, -⟩ := slot6 ((HEy1w.out).block HBX.out.2)
              go_upto_region 17 with (go_at_call 68; refine (HFB.out _ HEy1w.out).mono ?_; rintro en v2 ⟨cs, rfl, hT, hE⟩; obtain ⟨d1, d2, d3, d4, d5, d6, d7, d8, d9, d10, rfl⟩ := hT.form; have HG2 := hid hT; have HV2 := hid hE; clear hT hE)
              clear z0 z1 z2 z3 z4 z5
              have HCx2w := hid (heap_alloc_new v2 (.cells #[.int .i64 d1, .int .i64 d2, .float .f64 d3, .string d4, .slice d5 d6 d7, .slice d8 d9 d10] 32))
              have HEx2w := hid ((HEy1w.out.trans HV2.out).alloc (.cells #[.int .i64 d1, .int .i64 d2, .float .f64 d3, .string d4, .slice d5 d6 d7, .slice d8 d9 d10] 32))
              have HWx2w := hid ((HWy1w.out.trans HV2.out).alloc (.cells #[.int .i64 d1, .int .i64 d2, .float .f64 d3, .string d4, .slice d5 d6 d7, .slice d8 d9 d10] 32))
              have HBx2w := hid (((Ext.refl v2).alloc (.cells #[.int .i64 d1, .int .i64 d2, .float .f64 d3, .string d4, .slice d5 d6 d7, .slice d8 d9 d10] 32)).block (HV2.out.block HBy1w.out))
              have HSv2 := hid HV2.out.size
              have HSx2w := hid (show (v2.alloc (.cells #[.int .i64 d1, .int .i64 d2, .float .f64 d3, .string d4, .slice d5 d6 d7, .slice d8 d9 d10] 32)).heap.size = v2.heap.size + 1 by simp)
              have HG2x := hid (HG2.out.ext ((Ext.refl v2).alloc (.cells #[.int .i64 d1, .int .i64 d2, .float .f64 d3, .string d4, .slice d5 d6 d7, .slice d8 d9 d10] 32)))
              have HR1x := hid (HR1y.out.ext (HV2.out.alloc (.cells #[.int .i64 d1, .int .i64 d2, .float .f64 d3, .string d4, .slice d5 d6 d7, .slice d8 d9 d10] 32)))
              generalize v2.alloc (.cells #[.int .i64 d1, .int .i64 d2, .float .f64 d3, .string d4, .slice d5 d6 d7, .slice d8 d9 d10] 32) = x2w at *
              go_upto_region 19 with fail
              obtain ⟨b0, b1, b2⟩ : x2w.cell? ⟨w2.heap.size, 0, none⟩ = some (.string key) ∧ x2w.cell? ⟨w2.heap.size, 1, none⟩ = some (.slice (some ⟨x1w.heap.size, 0, none⟩) 1 1) ∧ x2w.cell? ⟨w2.heap.size, 2, none⟩ = some (.slice none 0 0) := ⟨(cell_of_heap HBx2w.out 0).trans rfl, (cell_of_heap HBx2w.out 1).trans rfl, (cell_of_heap HBx2w.out 2).trans rfl⟩
              have tok := trivial
              go_wp2_with (at_builtin; refine wpList_append_lies _ rfl (.tmp 67) (.tmp 69) 42 rfl wl.heap.size 45 i0 _ 3 64 Try.underlying42 hi hz0 hz1 hz2 rfl (by decide) _ j xs rfl ((ownsRow_ext HO.out HWx2w.out).alloc _) ⟨x2w.heap.size, 0, none⟩ 1 1 [.string key, .slice (some ⟨x1w.heap.size, 0, none⟩) 1 1, .slice none 0 0] rfl rfl (cells_new x2w [.string key, .slice (some ⟨x1w.heap.size, 0, none⟩) 1 1, .slice none 0 0] _) (by simp [Value.oneCell']) (by decide) (by have := HLC.out; unfold maxLen; omega) (by have := HLC.out; omega) (by have := HEx2w.out.size; simp; omega) (x2w.heap.size + 1) (by simp) ?_; intro g6 cap6 wz hown6 hg6 hat6 hlt6; have HM := hid (rowz_more HSR.out HO.out HRW.out HWx2w.out hown6 hg6 hat6 HK.out (HR1x.out) (vals_none _ _)); have HO6 := hid hown6; clear hown6 hg6 hat6 hlt6)
              exact ⟨⟨j + 1, by go_num, by omega, hid ⟨_, HO6.out, by rw [HTK.out]; exact HM.out.1⟩, hid (Below.trans (B := wl.heap.size) HE2.out HM.out.2)⟩, by simp [intOf]; omega⟩
            | some fB =>
              rw [hfb] at HFB HTK
              obtain ⟨⟨z0, z1, z2, z3, z4, z5⟩, -⟩ := slot6 ((HE10.out).block HBX.out.1)
              go_upto_region 14 with (go_at_call 68; refine (HFA.out _ HE10.out).mono ?_; rintro en v1 ⟨cs, rfl, hT, hE⟩; obtain ⟨e1, e2, e3, e4, e5, e6, e7, e8, e9, e10, rfl⟩ := hT.form; have HG1 := hid hT; have HV1 := hid hE; clear hT hE)
              clear z0 z1 z2 z3 z4 z5
              have HCx1w := hid (heap_alloc_new v1 (.cells #[.int .i64 e1, .int .i64 e2, .float .f64 e3, .string e4, .slice e5 e6 e7, .slice e8 e9 e10] 32))
              have HEx1w := hid ((HE10.out.trans HV1.out).alloc (.cells #[.int .i64 e1, .int .i64 e2, .float .f64 e3, .string e4, .slice e5 e6 e7, .slice e8 e9 e10] 32))
              have HWx1w := hid ((HW10.out.trans HV1.out).alloc (.cells #[.int .i64 e1, .int .i64 e2, .float .f64 e3, .string e4, .slice e5 e6 e7, .slice e8 e9 e10] 32))
              have HBx1w := hid (((Ext.refl v1).alloc (.cells #[.int .i64 e1, .int .i64 e2, .float .f64 e3, .string e4, .slice e5 e6 e7, .slice e8 e9 e10] 32)).block (HV1.out.block HB10.out))
              have HSv1 := hid HV1.out.size
              have HSx1w := hid (show (v1.alloc (.cells #[.int .i64 e1, .int .i64 e2, .float .f64 e3, .string e4, .slice e5 e6 e7, .slice e8 e9 e10] 32)).heap.size = v1.heap.size + 1 by simp)
              have HG1x := hid (HG1.out.ext ((Ext.refl v1).alloc (.cells #[.int .i64 e1, .int .i64 e2, .float .f64 e3, .string e4, .slice e5 e6 e7, .slice e8 e9 e10] 32)))
              generalize v1.alloc (.cells #[.int .i64 e1, .int .i64 e2, .float .f64 e3, .string e4, .slice e5 e6 e7, .slice e8 e9 e10] 32) = x1w at *
              obtain ⟨⟨z0, z1, z2, z3, z4, z5⟩, -⟩ := slot6 HCx1w.out
              have b1 := fun o => (cell_of_heap (((Ext.refl x1w).alloc o).block HBx1w.out) 1).trans rfl
              have b2 := fun o => free_of_heap (((Ext.refl x1w).alloc o).block HBx1w.out) 1
              go_upto_region 16 with fail
              clear z0 z1 z2 z3 z4 z5 b1 b2
              have HBy1w : Hid (((x1w.alloc (.cells #[.int .i64 e1, .int .i64 e2, .float .f64 e3, .string e4, .slice e5 e6 e7, .slice e8 e9 e10] 32)).setCell ⟨w2.heap.size, 1, none⟩ (.slice (some ⟨x1w.heap.size, 0, none⟩) 1 1)).heap[w2.heap.size]? = some (.cells #[.string key, .slice (some ⟨x1w.heap.size, 0, none⟩) 1 1, .slice none 0 0] 45)) := hid ((setCell_heap (((Ext.refl x1w).alloc (.cells #[.int .i64 e1, .int .i64 e2, .float .f64 e3, .string e4, .slice e5 e6 e7, .slice e8 e9 e10] 32)).block HBx1w.out) 1 _).trans rfl)
              have hoth : ∀ b, b ≠ w2.heap.size → ((x1w.alloc (.cells #[.int .i64 e1, .int .i64 e2, .float .f64 e3, .string e4, .slice e5 e6 e7, .slice e8 e9 e10] 32)).setCell ⟨w2.heap.size, 1, none⟩ (.slice (some ⟨x1w.heap.size, 0, none⟩) 1 1)).heap[b]? = (x1w.alloc (.cells #[.int .i64 e1, .int .i64 e2, .float .f64 e3, .string e4, .slice e5 e6 e7, .slice e8 e9 e10] 32)).heap[b]? := fun b hb => Below.heap_setCell _ _ _ _ hb
              have HCy1w : Hid (((x1w.alloc (.cells #[.int .i64 e1, .int .i64 e2, .float .f64 e3, .string e4, .slice e5 e6 e7, .slice e8 e9 e10] 32)).setCell ⟨w2.heap.size, 1, none⟩ (.slice (some ⟨x1w.heap.size, 0, none⟩) 1 1)).heap[x1w.heap.size]? = some (.cells #[.int .i64 e1, .int .i64 e2, .float .f64 e3, .string e4, .slice e5 e6 e7, .slice e8 e9 e10] 32)) := hid ((hoth _ (by have := HS10.out; have := HSv1.out; have := HSx1w.out; omega)).trans (heap_alloc_new x1w _))
              have HSy1w := hid (show ((x1w.alloc (.cells #[.int .i64 e1, .int .i64 e2, .float .f64 e3, .string e4, .slice e5 e6 e7, .slice e8 e9 e10] 32)).setCell ⟨w2.heap.size, 1, none⟩ (.slice (some ⟨x1w.heap.size, 0, none⟩) 1 1)).heap.size = x1w.heap.size + 1 by simp)
              have HEy1w : Hid (Ext wl ((x1w.alloc (.cells #[.int .i64 e1, .int .i64 e2, .float .f64 e3, .string e4, .slice e5 e6 e7, .slice e8 e9 e10] 32)).setCell ⟨w2.heap.size, 1, none⟩ (.slice (some ⟨x1w.heap.size, 0, none⟩) 1 1))) := hid (Below.setCell (HEx1w.out.alloc _) (by have := HSR.out; omega) _)
              have HWy1w : Hid (Ext w2 ((x1w.alloc (.cells #[.int .i64 e1, .int .i64 e2, .float .f64 e3, .string e4, .slice e5 e6 e7, .slice e8 e9 e10] 32)).setCell ⟨w2.heap.size, 1, none⟩ (.slice (some ⟨x1w.heap.size, 0, none⟩) 1 1))) := hid (Below.setCell (HWx1w.out.alloc _) (Nat.le_refl _) _)
              have HSM1 : Hid (Same (fun b => w.heap.size + 2 ≤ b ∧ (b < wl.heap.size ∨ w2.heap.size < b)) x1w ((x1w.alloc (.cells #[.int .i64 e1, .int .i64 e2, .float .f64 e3, .string e4, .slice e5 e6 e7, .slice e8 e9 e10] 32)).setCell ⟨w2.heap.size, 1, none⟩ (.slice (some ⟨x1w.heap.size, 0, none⟩) 1 1))) := hid (fun b o hb hob => (hoth b (by have := hb.2; have := HSR.out; omega)).trans (((Ext.refl x1w).alloc _).block hob))
              clear hoth
              generalize ((x1w.alloc (.cells #[.int .i64 e1, .int .i64 e2, .float .f64 e3, .string e4, .slice e5 e6 e7, .slice e8 e9 e10] 32)).setCell ⟨w2.heap.size, 1, none⟩ (.slice (some ⟨x1w.heap.size, 0, none⟩) 1 1)) = y1w at *
              have HG1y := hid (HG1x.out.mono (S' := (fun b => w.heap.size + 2 ≤ b ∧ (b < wl.heap.size ∨ w2.heap.size < b))) (fun b o hb hob => HSM1.out b o ⟨hb.1, .inl hb.2⟩ hob) (fun b hb _ => ⟨hb.1, .inl hb.2⟩))
              have HR1y := hid (vals_one (S := (fun b => w.heap.size + 2 ≤ b ∧ (b < wl.heap.size ∨ w2.heap.size < b))) HCy1w.out rfl (by have := HS10.out; have := HSv1.out; have := HSx1w.out; have := HSR.out; have := HSL.out; constructor <;> omega) HG1y.out)
              obtain ⟨⟨z0, z1, z2, z3, z4, z5⟩, -⟩ := slot6 ((HEy1w.out).block HBX.out.2)
              go_upto_region 17 with (go_at_call 68; refine (HFB.out _ HEy1w.out).mono ?_; rintro en v2 ⟨cs, rfl, hT, hE⟩; obtain ⟨d1, d2, d3, d4, d5, d6, d7, d8, d9, d10, rfl⟩ := hT.form; have HG2 := hid hT; have HV2 := hid hE; clear hT hE)
              clear z0 z1 z2 z3 z4 z5
              have HCx2w := hid (heap_alloc_new v2 (.cells #[.int .i64 d1, .int .i64 d2, .float .f64 d3, .string d4, .slice d5 d6 d7, .slice d8 d9 d10] 32))
              have HEx2w := hid ((HEy1w.out.trans HV2.out).alloc (.cells #[.int .i64 d1, .int .i64 d2, .float .f64 d3, .string d4, .slice d5 d6 d7, .slice d8 d9 d10] 32))
              have HWx2w := hid ((HWy1w.out.trans HV2.out).alloc (.cells #[.int .i64 d1, .int .i64 d2, .float .f64 d3, .string d4, .slice d5 d6 d7, .slice d8 d9 d10] 32))
              have HBx2w := hid (((Ext.refl v2).alloc (.cells #[.int .i64 d1, .int .i64 d2, .float .f64 d3, .string d4, .slice d5 d6 d7, .slice d8 d9 d10] 32)).block (HV2.out.block HBy1w.out))
              have HSv2 := hid HV2.out.size
              have HSx2w := hid (show (v2.alloc (.cells #[.int .i64 d1, .int .i64 d2, .float .f64 d3, .string d4, .slice d5 d6 d7, .slice d8 d9 d10] 32)).heap.size = v2.heap.size + 1 by simp)
              have HG2x := hid (HG2.out.ext ((Ext.refl v2).alloc (.cells #[.int .i64 d1, .int .i64 d2, .float .f64 d3, .string d4, .slice d5 d6 d7, .slice d8 d9 d10] 32)))
              have HR1x := hid (HR1y.out.ext (HV2.out.alloc (.cells #[.int .i64 d1, .int .i64 d2, .float .f64 d3, .string d4, .slice d5 d6 d7, .slice d8 d9 d10] 32)))
              generalize v2.alloc (.cells #[.int .i64 d1, .int .i64 d2, .float .f64 d3, .string d4, .slice d5 d6 d7, .slice d8 d9 d10] 32) = x2w at *
              obtain ⟨⟨z0, z1, z2, z3, z4, z5⟩, -⟩ := slot6 HCx2w.out
              have b1 := fun o => (cell_of_heap (((Ext.refl x2w).alloc o).block HBx2w.out) 2).trans rfl
              have b2 := fun o => free_of_heap (((Ext.refl x2w).alloc o).block HBx2w.out) 2
              go_upto_region 19 with fail
              clear z0 z1 z2 z3 z4 z5 b1 b2
              have HBy2w : Hid (((x2w.alloc (.cells #[.int .i64 d1, .int .i64 d2, .float .f64 d3, .string d4, .slice d5 d6 d7, .slice d8 d9 d10] 32)).setCell ⟨w2.heap.size, 2, none⟩ (.slice (some ⟨x2w.heap.size, 0, none⟩) 1 1)).heap[w2.heap.size]? = some (.cells #[.string key, .slice (some ⟨x1w.heap.size, 0, none⟩) 1 1, .slice (some ⟨x2w.heap.size, 0, none⟩) 1 1] 45)) := hid ((setCell_heap (((Ext.refl x2w).alloc (.cells #[.int .i64 d1, .int .i64 d2, .float .f64 d3, .string d4, .slice d5 d6 d7, .slice d8 d9 d10] 32)).block HBx2w.out) 2 _).trans rfl)
              have hoth : ∀ b, b ≠ w2.heap.size → ((x2w.alloc (.cells #[.int .i64 d1, .int .i64 d2, .float .f64 d3, .string d4, .slice d5 d6 d7, .slice d8 d9 d10] 32)).setCell ⟨w2.heap.size, 2, none⟩ (.slice (some ⟨x2w.heap.size, 0, none⟩) 1 1)).heap[b]? = (x2w.alloc (.cells #[.int .i64 d1, .int .i64 d2, .float .f64 d3, .string d4, .slice d5 d6 d7, .slice d8 d9 d10] 32)).heap[b]? := fun b hb => Below.heap_setCell _ _ _ _ hb
              have HCy2w : Hid (((x2w.alloc (.cells #[.int .i64 d1, .int .i64 d2, .float .f64 d3, .string d4, .slice d5 d6 d7, .slice d8 d9 d10] 32)).setCell ⟨w2.heap.size, 2, none⟩ (.slice (some ⟨x2w.heap.size, 0, none⟩) 1 1)).heap[x2w.heap.size]? = some (.cells #[.int .i64 d1, .int .i64 d2, .float .f64 d3, .string d4, .slice d5 d6 d7, .slice d8 d9 d10] 32)) := hid ((hoth _ (by have := HS10.out; have := HSv1.out; have := HSx1w.out; have := HSy1w.out; have := HSv2.out; have := HSx2w.out; omega)).trans (heap_alloc_new x2w _))
              have HSy2w := hid (show ((x2w.alloc (.cells #[.int .i64 d1, .int .i64 d2, .float .f64 d3, .string d4, .slice d5 d6 d7, .slice d8 d9 d10] 32)).setCell ⟨w2.heap.size, 2, none⟩ (.slice (some ⟨x2w.heap.size, 0, none⟩) 1 1)).heap.size = x2w.heap.size + 1 by simp)
              have HEy2w : Hid (Ext wl ((x2w.alloc (.cells #[.int .i64 d1, .int .i64 d2, .float .f64 d3, .string d4, .slice d5 d6 d7, .slice d8 d9 d10] 32)).setCell ⟨w2.heap.size, 2, none⟩ (.slice (some ⟨x2w.heap.size, 0, none⟩) 1 1))) := hid (Below.setCell (HEx2w.out.alloc _) (by have := HSR.out; omega) _)
              have HWy2w : Hid (Ext w2 ((x2w.alloc (.cells #[.int .i64 d1, .int .i64 d2, .float .f64 d3, .string d4, .slice d5 d6 d7, .slice d8 d9 d10] 32)).setCell ⟨w2.heap.size, 2, none⟩ (.slice (some ⟨x2w.heap.size, 0, none⟩) 1 1))) := hid (Below.setCell (HWx2w.out.alloc _) (Nat.le_refl _) _)
              have HSM2 : Hid (Same (fun b => w.heap.size + 2 ≤ b ∧ (b < wl.heap.size ∨ w2.heap.size < b)) x2w ((x2w.alloc (.cells #[.int .i64 d1, .int .i64 d2, .float .f64 d3, .string d4, .slice d5 d6 d7, .slice d8 d9 d10] 32)).setCell ⟨w2.heap.size, 2, none⟩ (.slice (some ⟨x2w.heap.size, 0, none⟩) 1 1))) := hid (fun b o hb hob => (hoth b (by have := hb.2; have := HSR.out; omega)).trans (((Ext.refl x2w).alloc _).block hob))
              clear hoth
              generalize ((x2w.alloc (.cells #[.int .i64 d1, .int .i64 d2, .float .f64 d3, .string d4, .slice d5 d6 d7, .slice d8 d9 d10] 32)).setCell ⟨w2.heap.size, 2, none⟩ (.slice (some ⟨x2w.heap.size, 0, none⟩) 1 1)) = y2w at *
              have HG2y := hid (HG2x.out.mono (S' := (fun b => w.heap.size + 2 ≤ b ∧ (b < wl.heap.size ∨ w2.heap.size < b))) (fun b o hb hob => HSM2.out b o ⟨hb.1, .inl hb.2⟩ hob) (fun b hb _ => ⟨hb.1, .inl hb.2⟩))
              have HR2y := hid (vals_one (S := (fun b => w.heap.size + 2 ≤ b ∧ (b < wl.heap.size ∨ w2.heap.size < b))) HCy2w.out rfl (by have := HS10.out; have := HSv1.out; have := HSx1w.out; have := HSy1w.out; have := HSv2.out; have := HSx2w.out; have := HSR.out; have := HSL.out; constructor <;> omega) HG2y.out)
              have HR1y2 := hid (HR1x.out.mono (S' := (fun b => w.heap.size + 2 ≤ b ∧ (b < wl.heap.size ∨ w2.heap.size < b))) HSM2.out (fun b h _ => h))
              obtain ⟨b0, b1, b2⟩ : y2w.cell? ⟨w2.heap.size, 0, none⟩ = some (.string key) ∧ y2w.cell? ⟨w2.heap.size, 1, none⟩ = some (.slice (some ⟨x1w.heap.size, 0, none⟩) 1 1) ∧ y2w.cell? ⟨w2.heap.size, 2, none⟩ = some (.slice (some ⟨x2w.heap.size, 0, none⟩) 1 1) := ⟨(cell_of_heap HBy2w.out 0).trans rfl, (cell_of_heap HBy2w.out 1).trans rfl, (cell_of_heap HBy2w.out 2).trans rfl⟩
              have tok := trivial
              go_wp2_with (at_builtin; refine wpList_append_lies _ rfl (.tmp 67) (.tmp 69) 42 rfl wl.heap.size 45 i0 _ 3 64 Try.underlying42 hi hz0 hz1 hz2 rfl (by decide) _ j xs rfl ((ownsRow_ext HO.out HWy2w.out).alloc _) ⟨y2w.heap.size, 0, none⟩ 1 1 [.string key, .slice (some ⟨x1w.heap.size, 0, none⟩) 1 1, .slice (some ⟨x2w.heap.size, 0, none⟩) 1 1] rfl rfl (cells_new y2w [.string key, .slice (some ⟨x1w.heap.size, 0, none⟩) 1 1, .slice (some ⟨x2w.heap.size, 0, none⟩) 1 1] _) (by simp [Value.oneCell']) (by decide) (by have := HLC.out; unfold maxLen; omega) (by have := HLC.out; omega) (by have := HEy2w.out.size; simp; omega) (y2w.heap.size + 1) (by simp) ?_; intro g6 cap6 wz hown6 hg6 hat6 hlt6; have HM := hid (rowz_more HSR.out HO.out HRW.out HWy2w.out hown6 hg6 hat6 HK.out (HR1y2.out) (HR2y.out)); have HO6 := hid hown6; clear hown6 hg6 hat6 hlt6)
              exact ⟨⟨j + 1, by go_num, by omega, hid ⟨_, HO6.out, by rw [HTK.out]; exact HM.out.1⟩, hid (Below.trans (B := wl.heap.size) HE2.out HM.out.2)⟩, by simp [intOf]; omega⟩
        · have hjj : j = C.keys.length := by omega
          subst hjj
          obtain ⟨xs, hown, hrow⟩ := HR.out
          rw [List.take_of_length_le (by unfold toldG; rw [List.length_map]; exact Nat.le_refl _)] at hrow
          have HZS := hid (zs_of_row hown hrow)
          clear hown hrow HR
          go_wp2_with fail
          go_ret
          refine ⟨_, rfl, ?_, (HE6.out.trans HE.out).trans HE2.out⟩
          unfold zsSpec
          rw [← HAB.out.1, ← HAB.out.2, ← HCD.out]
          exact HZS.out
end Go.Proofs.Ytempfaefopfobaa
