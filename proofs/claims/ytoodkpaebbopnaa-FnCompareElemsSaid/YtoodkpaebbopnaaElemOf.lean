/- ElemOf: boxes of path elements; impl.CompareElems, spec.elemRank. -/
import Derived.Test.YtoodkpaebbopnaaElemIn
import Derived.Test.YtoodkpaebbopnaaElemCmp
set_option maxRecDepth 100000
namespace Go.Proofs.Ytoodkpaebbopnaa
open Go.ChangeShapes Go.WideShapes Go.ChangeAt Go.RowKit
set_option linter.unusedVariables false
set_option linter.unusedSimpArgs false

theorem slot11 {W : World} {b : Nat} {c0 c1 c2 c3 c4 c5 c6 c7 c8 c9 c10 : Value} {t : TypeId} (h : W.heap[b]? = some (.cells #[c0, c1, c2, c3, c4, c5, c6, c7, c8, c9, c10] t)) :
    (W.cell? ⟨b, 0, none⟩ = some c0 ∧ W.cell? ⟨b, 1, none⟩ = some c1 ∧ W.cell? ⟨b, 2, none⟩ = some c2 ∧ W.cell? ⟨b, 3, none⟩ = some c3 ∧ W.cell? ⟨b, 4, none⟩ = some c4 ∧ W.cell? ⟨b, 5, none⟩ = some c5 ∧ W.cell? ⟨b, 6, none⟩ = some c6 ∧ W.cell? ⟨b, 7, none⟩ = some c7 ∧ W.cell? ⟨b, 8, none⟩ = some c8 ∧ W.cell? ⟨b, 9, none⟩ = some c9 ∧ W.cell? ⟨b, 10, none⟩ = some c10) ∧ (W.frozen? ⟨b, 0, none⟩ = false ∧ W.frozen? ⟨b, 1, none⟩ = false ∧ W.frozen? ⟨b, 2, none⟩ = false ∧ W.frozen? ⟨b, 3, none⟩ = false ∧ W.frozen? ⟨b, 4, none⟩ = false ∧ W.frozen? ⟨b, 5, none⟩ = false ∧ W.frozen? ⟨b, 6, none⟩ = false ∧ W.frozen? ⟨b, 7, none⟩ = false ∧ W.frozen? ⟨b, 8, none⟩ = false ∧ W.frozen? ⟨b, 9, none⟩ = false ∧ W.frozen? ⟨b, 10, none⟩ = false) :=
  ⟨⟨(cell_of_heap h 0).trans rfl, (cell_of_heap h 1).trans rfl, (cell_of_heap h 2).trans rfl, (cell_of_heap h 3).trans rfl, (cell_of_heap h 4).trans rfl, (cell_of_heap h 5).trans rfl, (cell_of_heap h 6).trans rfl, (cell_of_heap h 7).trans rfl, (cell_of_heap h 8).trans rfl, (cell_of_heap h 9).trans rfl, (cell_of_heap h 10).trans rfl⟩, ⟨free_of_heap h 0, free_of_heap h 1, free_of_heap h 2, free_of_heap h 3, free_of_heap h 4, free_of_heap h 5, free_of_heap h 6, free_of_heap h 7, free_of_heap h 8, free_of_heap h 9, free_of_heap h 10⟩⟩
theorem RepEl.form {S : Nat → Prop} {w : World} {e : El} {cs : List Value} (h : RepEl S w e cs) : ∃ q0 q1 q2 q3, cs = [.pointer q0, .pointer q1, .pointer q2, .pointer q3] := by
  obtain ⟨b, o, -, h⟩ := h
  cases e
  · exact ⟨_, _, _, _, h.1⟩
  · exact ⟨_, _, _, _, h.1⟩
  · exact ⟨_, _, _, _, h.1⟩
  · exact ⟨_, _, _, _, h.1⟩
theorem RepGE.form {S : Nat → Prop} {w : World} {e : GE} {cs : List Value} (h : RepGE S w e cs) : ∃ k s a1 n1 c1 a2 n2 c2 v0 v1 v2 v3 v4 v5 n, cs = [.int .i64 k, .string s, .slice a1 n1 c1, .slice a2 n2 c2, v0, v1, v2, v3, v4, v5, .int .i64 n] := by
  obtain ⟨ka, kc, la, lc, v0, v1, v2, v3, v4, v5, h, -⟩ := h
  exact ⟨_, _, _, _, _, _, _, _, _, _, _, _, _, _, _, h⟩
set_option maxHeartbeats 4000000 in
theorem cmpElems_any (ea eb : GE) (w : World) (ca cb : List Value) (hA : RepGE Any w ea ca) (hB : RepGE Any w eb cb) :
    Calls Try.prog 40 #[.agg ca.toArray, .agg cb.toArray] w fun e w' => e = .returned (.int .i64 (cmpE (toEl ea) (toEl eb))) ∧ Ext w w' := by
  have HA := hid hA
  have HB := hid hB
  obtain ⟨k, s, a1, n1, c1, a2, n2, c2, v0, v1, v2, v3, v4, v5, n, rfl⟩ := hA.form
  obtain ⟨k', s', a1', n1', c1', a2', n2', c2', v0', v1', v2', v3', v4', v5', n', rfl⟩ := hB.form
  clear hA hB
  go_enter Try.func40, Try.ntmps40
  go_upto_region 1 with fail
  obtain ⟨x1, x2, hEE⟩ := boxes2 w (.cells #[.int .i64 k, .string s, .slice a1 n1 c1, .slice a2 n2 c2, v0, v1, v2, v3, v4, v5, .int .i64 n] 51) (.cells #[.int .i64 k', .string s', .slice a1' n1' c1', .slice a2' n2' c2', v0', v1', v2', v3', v4', v5', .int .i64 n'] 51) _ (Below.refl _ _)
  generalize (w.alloc (.cells #[.int .i64 k, .string s, .slice a1 n1 c1, .slice a2 n2 c2, v0, v1, v2, v3, v4, v5, .int .i64 n] 51)).alloc (.cells #[.int .i64 k', .string s', .slice a1' n1' c1', .slice a2' n2' c2', v0', v1', v2', v3', v4', v5', .int .i64 n'] 51) = w1 at *
  have HE1 := hid hEE
  have K := hid (show ∀ w' : World, Ext w1 w' → (fun w' : World => w'.cell? ⟨w.heap.size, 0, none⟩ = some (.int .i64 k) ∧ w'.cell? ⟨w.heap.size, 1, none⟩ = some (.string s) ∧ w'.cell? ⟨w.heap.size, 2, none⟩ = some (.slice a1 n1 c1) ∧ w'.cell? ⟨w.heap.size, 3, none⟩ = some (.slice a2 n2 c2) ∧ w'.cell? ⟨w.heap.size, 4, none⟩ = some (v0) ∧ w'.cell? ⟨w.heap.size, 5, none⟩ = some (v1) ∧ w'.cell? ⟨w.heap.size, 6, none⟩ = some (v2) ∧ w'.cell? ⟨w.heap.size, 7, none⟩ = some (v3) ∧ w'.cell? ⟨w.heap.size, 8, none⟩ = some (v4) ∧ w'.cell? ⟨w.heap.size, 9, none⟩ = some (v5) ∧ w'.cell? ⟨w.heap.size, 10, none⟩ = some (.int .i64 n) ∧ w'.cell? ⟨w.heap.size + 1, 0, none⟩ = some (.int .i64 k') ∧ w'.cell? ⟨w.heap.size + 1, 1, none⟩ = some (.string s') ∧ w'.cell? ⟨w.heap.size + 1, 2, none⟩ = some (.slice a1' n1' c1') ∧ w'.cell? ⟨w.heap.size + 1, 3, none⟩ = some (.slice a2' n2' c2') ∧ w'.cell? ⟨w.heap.size + 1, 4, none⟩ = some (v0') ∧ w'.cell? ⟨w.heap.size + 1, 5, none⟩ = some (v1') ∧ w'.cell? ⟨w.heap.size + 1, 6, none⟩ = some (v2') ∧ w'.cell? ⟨w.heap.size + 1, 7, none⟩ = some (v3') ∧ w'.cell? ⟨w.heap.size + 1, 8, none⟩ = some (v4') ∧ w'.cell? ⟨w.heap.size + 1, 9, none⟩ = some (v5') ∧ w'.cell? ⟨w.heap.size + 1, 10, none⟩ = some (.int .i64 n')) w' from fun w' h => by
    obtain ⟨⟨z0, z1, z2, z3, z4, z5, z6, z7, z8, z9, z10⟩, -⟩ := slot11 (h.block x1)
    obtain ⟨⟨y0, y1, y2, y3, y4, y5, y6, y7, y8, y9, y10⟩, -⟩ := slot11 (h.block x2)
    exact ⟨z0, z1, z2, z3, z4, z5, z6, z7, z8, z9, z10, y0, y1, y2, y3, y4, y5, y6, y7, y8, y9, y10⟩)
  clear x1 x2 hEE
  go_region_held3 (fun w' : World => w'.cell? ⟨w.heap.size, 0, none⟩ = some (.int .i64 k) ∧ w'.cell? ⟨w.heap.size, 1, none⟩ = some (.string s) ∧ w'.cell? ⟨w.heap.size, 2, none⟩ = some (.slice a1 n1 c1) ∧ w'.cell? ⟨w.heap.size, 3, none⟩ = some (.slice a2 n2 c2) ∧ w'.cell? ⟨w.heap.size, 4, none⟩ = some (v0) ∧ w'.cell? ⟨w.heap.size, 5, none⟩ = some (v1) ∧ w'.cell? ⟨w.heap.size, 6, none⟩ = some (v2) ∧ w'.cell? ⟨w.heap.size, 7, none⟩ = some (v3) ∧ w'.cell? ⟨w.heap.size, 8, none⟩ = some (v4) ∧ w'.cell? ⟨w.heap.size, 9, none⟩ = some (v5) ∧ w'.cell? ⟨w.heap.size, 10, none⟩ = some (.int .i64 n) ∧ w'.cell? ⟨w.heap.size + 1, 0, none⟩ = some (.int .i64 k') ∧ w'.cell? ⟨w.heap.size + 1, 1, none⟩ = some (.string s') ∧ w'.cell? ⟨w.heap.size + 1, 2, none⟩ = some (.slice a1' n1' c1') ∧ w'.cell? ⟨w.heap.size + 1, 3, none⟩ = some (.slice a2' n2' c2') ∧ w'.cell? ⟨w.heap.size + 1, 4, none⟩ = some (v0') ∧ w'.cell? ⟨w.heap.size + 1, 5, none⟩ = some (v1') ∧ w'.cell? ⟨w.heap.size + 1, 6, none⟩ = some (v2') ∧ w'.cell? ⟨w.heap.size + 1, 7, none⟩ = some (v3') ∧ w'.cell? ⟨w.heap.size + 1, 8, none⟩ = some (v4') ∧ w'.cell? ⟨w.heap.size + 1, 9, none⟩ = some (v5') ∧ w'.cell? ⟨w.heap.size + 1, 10, none⟩ = some (.int .i64 n'))
    (first | with_reducible exact K.out _ HE7.out | with_reducible exact K.out _ HE6.out | with_reducible exact K.out _ HE5.out | with_reducible exact K.out _ (Ext.refl w1).drew)
    (first
      | (go_at_call_of 76 k; refine (toElem_any ea _ _ (HA.out.ext HE1.out.drew)).mono ?_; rintro e w5 ⟨cs1, rfl, hV, hE⟩; have HE5 := hid ((Ext.refl w1).drew.trans hE); obtain ⟨p0, p1, p2, p3, rfl⟩ := hV.form; have HV1 := hid (hV.weak (S' := Any) (fun _ _ _ => trivial)); clear hE hV)
      | (go_at_call_of 76 k'; refine (toElem_any eb _ _ (HB.out.ext (HE1.out.trans HE5.out))).mono ?_; rintro e w6 ⟨cs2, rfl, hV, hE⟩; have HE56 := hid hE; have HE6 := hid (HE5.out.trans hE); obtain ⟨p4, p5, p6, p7, rfl⟩ := hV.form; have HV2 := hid (hV.weak (S' := Any) (fun _ _ _ => trivial)); clear hE hV)
      | (go_at_call 77; refine (pec_any _ _ _ _ _ (HV1.out.ext HE56.out) HV2.out).mono ?_; rintro e w7 ⟨rfl, hE⟩; have HE7 := hid (HE6.out.trans hE); clear hE))
  all_goals
    go_wp2_with fail
    go_ret
    exact ⟨rfl, HE1.out.trans HE7.out⟩
theorem er_1 (s : ByteArray) (a1 a2 : Option Addr) (n1 c1 n2 c2 : Nat) (v0 v1 v2 v3 v4 v5 : Value) (n : Int) (w : World) : Calls Try.prog 78 #[.agg #[.int .i64 1, .string s, .slice a1 n1 c1, .slice a2 n2 c2, v0, v1, v2, v3, v4, v5, .int .i64 n]] w fun e w' => e = .returned (.int .i64 1) ∧ Ext w w' := by
  go_enter Try.func78, Try.ntmps78
  go_wp2_with fail
  go_ret
  exact ⟨rfl, (Ext.refl w).alloc _⟩
theorem er_2 (s : ByteArray) (a1 a2 : Option Addr) (n1 c1 n2 c2 : Nat) (v0 v1 v2 v3 v4 v5 : Value) (n : Int) (w : World) : Calls Try.prog 78 #[.agg #[.int .i64 2, .string s, .slice a1 n1 c1, .slice a2 n2 c2, v0, v1, v2, v3, v4, v5, .int .i64 n]] w fun e w' => e = .returned (.int .i64 2) ∧ Ext w w' := by
  go_enter Try.func78, Try.ntmps78
  go_wp2_with fail
  go_ret
  exact ⟨rfl, (Ext.refl w).alloc _⟩
theorem er_3 (s : ByteArray) (a1 a2 : Option Addr) (n1 c1 n2 c2 : Nat) (v0 v1 v2 v3 v4 v5 : Value) (n : Int) (w : World) : Calls Try.prog 78 #[.agg #[.int .i64 3, .string s, .slice a1 n1 c1, .slice a2 n2 c2, v0, v1, v2, v3, v4, v5, .int .i64 n]] w fun e w' => e = .returned (.int .i64 3) ∧ Ext w w' := by
  go_enter Try.func78, Try.ntmps78
  go_wp2_with fail
  go_ret
  exact ⟨rfl, (Ext.refl w).alloc _⟩
theorem er_k (k : Int) (s : ByteArray) (a1 a2 : Option Addr) (n1 c1 n2 c2 : Nat) (v0 v1 v2 v3 v4 v5 : Value) (n : Int) (w : World) (d1 : (k == 1) = false) (d2 : (k == 2) = false) (d3 : (k == 3) = false) : Calls Try.prog 78 #[.agg #[.int .i64 k, .string s, .slice a1 n1 c1, .slice a2 n2 c2, v0, v1, v2, v3, v4, v5, .int .i64 n]] w fun e w' => e = .returned (.int .i64 0) ∧ Ext w w' := by
  go_enter Try.func78, Try.ntmps78
  go_wp2_with fail
  go_ret
  exact ⟨rfl, (Ext.refl w).alloc _⟩
theorem rank_any (e : GE) (cs : List Value) (w : World) (hR : RepGE Any w e cs) : Calls Try.prog 78 #[.agg cs.toArray] w fun en w' => en = .returned (.int .i64 (toEl e).rank) ∧ Ext w w' := by
  obtain ⟨ka, kc, la, lc, v0, v1, v2, v3, v4, v5, rfl, -⟩ := hR
  unfold toEl
  by_cases h1 : e.kind = 1
  · rw [if_pos h1, h1]; exact er_1 _ _ _ _ _ _ _ _ _ _ _ _ _ _ w
  rw [if_neg h1]
  by_cases h2 : e.kind = 2
  · rw [if_pos h2, h2]; exact er_2 _ _ _ _ _ _ _ _ _ _ _ _ _ _ w
  rw [if_neg h2]
  by_cases h3 : e.kind = 3
  · rw [if_pos h3, h3]; exact er_3 _ _ _ _ _ _ _ _ _ _ _ _ _ _ w
  rw [if_neg h3]
  exact er_k _ _ _ _ _ _ _ _ _ _ _ _ _ _ _ w (by simpa using h1) (by simpa using h2) (by simpa using h3)
end Go.Proofs.Ytoodkpaebbopnaa
