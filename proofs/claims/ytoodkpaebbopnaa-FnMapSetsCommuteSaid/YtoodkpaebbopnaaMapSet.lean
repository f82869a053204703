/- MapSet: mapUnstructuredString's Set; impl.MapSet. -/
import Derived.Test.YtoodkpaebbopnaaMapGet
import Derived.Test.YtoodkpaebbopnaaSetG
namespace Go.Proofs.Ytoodkpaebbopnaa
open Go.ChangeShapes Go.WideShapes Go.ChangeAt Go.RowKit
set_option linter.unusedVariables false
set_option linter.unusedSimpArgs false

set_option maxRecDepth 100000 in
theorem set_any (S : Nat → Prop) (m : List (ByteArray × Tree)) (r : Nat) (key : ByteArray) (t : Tree) (x : Value) (w : World) (hM : RepM S w m r) (hV : RepVal S w t x) (hS : ¬ S r) (hsz : (m.length + 1) * 88 ≤ 140737488351232) (hks : key.size ≤ 140737488351232) :
    Calls Try.prog 182 #[.map (some r), .string key, x] w fun e w' => e = .returned (.tuple #[]) ∧ RepM S w' (insKV m key t) r ∧ w.grownBy w' (some r) := by
  obtain ⟨b, v, rfl, hSb, hb, hT⟩ := hV
  have HM := hid hM
  have HT := hid hT
  have HS := hid hS
  have hf := hT.form
  have hcell : w.cell? ⟨b, 0, none⟩ = some v := (cell_of_heap hb 0).trans rfl
  clear hM hT hb hS
  rcases hf with rfl | ⟨ty, vv, rfl⟩
  all_goals
    go_enter Try.func182, Try.ntmps182
    go_wp2_with (first | (go_at_call 162; refine (unstr_any _ _ (by first | exact .inl rfl | exact .inr ⟨_, _, rfl⟩)).mono ?_; rintro e w2 ⟨rfl, hE2⟩) | (at_mapUpdate; refine wpList_mapUpdate_M rfl (.tmp 6) (.tmp 7) (.tmp 9) rfl Try.underlying213 Try.underlying9 rfl rfl rfl (HM.out.ext hE2) HS.out (HT.out.ext hE2) hsz hks ?_; intro w3 hM3 hg3))
    exact bodyPost_end (v := .tuple #[]) (by simp [results, Try.results182]) rfl ⟨rfl, hM3, (hE2.grownBy (some r)).trans hg3⟩

theorem meth_set_nil (r : Nat) (w : World) : (nilAhead 331 213 (.map (some r)) "Set").run Try.prog w = .ok (some false) w := by kernel_rfl

set_option maxRecDepth 100000 in
set_option maxHeartbeats 4000000 in
theorem mapSet_any (g gv : GV) (key : ByteArray) (w : World) (ca cv : List Value) (hA : RepGV Any w g ca) (hV : RepGV Any w gv cv) (hks : key.size ≤ 140737488351232) (hsz : ((plainMapT g).length + 1) * 88 ≤ 140737488351232) :
    Calls Try.prog 33 #[.agg ca.toArray, .string key, .agg cv.toArray] w fun e w' => ∃ cs', e = .returned (.agg cs'.toArray) ∧ RepGV (fun b => w.heap.size ≤ b) w' (setG g key gv) cs' ∧ Ext w w' := by
  have HA := hid hA
  have HV := hid hV
  obtain ⟨k, n, f, s, a1, b1, c1, a2, b2, c2, rfl⟩ := hA.form
  obtain ⟨k', n', f', s', a1', b1', c1', a2', b2', c2', rfl⟩ := hV.form
  have bx := hid (boxes3 w (.cells #[.int .i64 k, .int .i64 n, .float .f64 f, .string s, .slice a1 b1 c1, .slice a2 b2 c2] 26) (.cells #[.int .i64 k', .int .i64 n', .float .f64 f', .string s', .slice a1' b1' c1', .slice a2' b2' c2'] 26) (.cells #[.int .i64 0, .int .i64 0, .float .f64 0, .string ⟨#[]⟩, .slice none 0 0, .slice none 0 0] 26))
  have W0 := hid ((((Ext.refl w).alloc (.cells #[.int .i64 k, .int .i64 n, .float .f64 f, .string s, .slice a1 b1 c1, .slice a2 b2 c2] 26)).alloc (.cells #[.int .i64 k', .int .i64 n', .float .f64 f', .string s', .slice a1' b1' c1', .slice a2' b2' c2'] 26)).alloc (.cells #[.int .i64 0, .int .i64 0, .float .f64 0, .string ⟨#[]⟩, .slice none 0 0, .slice none 0 0] 26))
  clear hA hV
  have hnil := meth_set_nil
  go_enter Try.func33, Try.ntmps33
  go_wp2_with (go_at_call 65; refine ((plainMap_any g) _ _ (HA.out.ext W0.out)).mono ?_; rintro e w2 ⟨r, rfl, hr, hM, hE⟩; have HM := hid hM; have HRR := hid hr; have HE := hid (W0.out.trans hE); obtain ⟨x1, x2, x3, _⟩ := bx.out w2 (Below.mono hE (by simp)); obtain ⟨⟨o0, o1, o2, o3, o4, o5⟩, _⟩ := slot6 x2; have X2 := hid x2; have X3 := hid x3; clear hM hr hE x1 x2 x3)
  go_region_with (first
    | (go_at_call 66; refine (nvi_box _ _ (.inr ⟨_, _, rfl⟩)).mono ?_; rintro e w3 ⟨bx3, rfl, hb3, hbx3, hE3⟩; have hcx : w3.cell? ⟨bx3, 0, none⟩ = some (.iface 84 (.map (some r))) := (cell_of_heap hbx3 0).trans rfl; have HE3 := hid hE3; have HB3 := hid hb3; obtain ⟨⟨q0, q1, q2, q3, q4, q5⟩, _⟩ := slot6 (hE3.block X2.out); clear hbx3 hE3 hb3)
    | (go_at_call 152; refine (asmap_any _ _).mono ?_; rintro e w4 ⟨rfl, hE4⟩; have HE4 := hid hE4; obtain ⟨⟨u0, u1, u2, u3, u4, u5⟩, _⟩ := slot6 (hE4.block (HE3.out.block X2.out)); clear hE4)
    | (go_at_call 54; refine (toValue_any gv _ _ (((HV.out.ext HE.out).ext ((Ext.refl _).drew.trans HE3.out)).ext HE4.out)).mono ?_; rintro e w5 ⟨x, rfl, hV, hE5⟩; have HV5 := hid hV; have HE5 := hid hE5; obtain ⟨bx5, vx5, rfl, _⟩ := hV; clear hE5)
    | (go_at_call 182; refine (set_any (fun b => r < b) (plainMapT g) r key (plainT gv) _ _ (((HM.out.ext ((Ext.refl _).drew.trans HE3.out)).ext HE4.out).ext HE5.out) (HV5.out.weak (fun b hb _ => ?_)) (by omega) hsz hks).mono ?_; (have h1 := HM.out.lt; have h2 := HE3.out.size; have h3 := HE4.out.size; simp at h2; omega); rintro e w6 ⟨rfl, hM6, hg6⟩; have HM6 := hid hM6; have HG6 := hid ((((((Ext.refl w2).drew.trans HE3.out).trans HE4.out).trans HE5.out).grownBy (some r)).trans hg6); clear hM6 hg6))
  all_goals
    go_wp2_with (go_at_call 67; refine (fromTree_any (.map (insKV (plainMapT g) key (plainT gv))) (fun _ => True) _ _ (HM6.out.mono (Same.refl _ _) (fun _ _ _ => trivial) rfl |>.toT trivial)).mono ?_; rintro e w7 ⟨cs', rfl, hG, hE7⟩; rw [setG_tree] at hG; obtain ⟨k6, n6, f6, s6, a61, b61, c61, a62, b62, c62, rfl⟩ := hG.form; have HG7 := hid hG; have HE7 := hid hE7; have X7 := hid (hE7.block ((HG6.out.block _ (by have := (Array.getElem?_eq_some_iff.1 X3.out).1; omega) (fun e => by have := HRR.out; simp at this e; omega)).trans X3.out)); obtain ⟨⟨z0, z1, z2, z3, z4, z5⟩, f0, f1, f2, f3, f4, f5⟩ := slot6 X7.out; clear hG hE7)
    change bodyPost _ _ _ _ _ (set6 w7 (w.heap.size + 1 + 1) (.int .i64 k6) (.int .i64 n6) (.float .f64 f6) (.string s6) (.slice a61 b61 c61) (.slice a62 b62 c62))
    obtain ⟨e6, hr6, x6⟩ := put6 (R := w.heap.size + 1 + 1) X7.out (by omega) (Below.trans HE.out (Below.trans ⟨HG6.out.os, HG6.out.tape, HG6.out.output, HG6.out.size, fun i hi => HG6.out.block i (by have := HE.out.size; omega) (fun e => by have := HRR.out; cases e; simp at this; omega)⟩ (HE7.out.mono (by have := HE.out.size; have := HG6.out.size; omega)))) HG7.out (fun b hb => by have := HG6.out.size; have := HE.out.size; have := (Array.getElem?_eq_some_iff.1 X3.out).1; omega) _ rfl
    generalize set6 w7 (w.heap.size + 1 + 1) (.int .i64 k6) (.int .i64 n6) (.float .f64 f6) (.string s6) (.slice a61 b61 c61) (.slice a62 b62 c62) = WF at *
    obtain ⟨⟨y0, y1, y2, y3, y4, y5⟩, _⟩ := slot6 e6
    refine bodyPost_ret (v := .agg #[.int .i64 k6, .int .i64 n6, .float .f64 f6, .string s6, .slice a61 b61 c61, .slice a62 b62 c62]) (by simp [results, Try.results33, go_sem, y0, y1, y2, y3, y4, y5]) rfl ?_
    exact ⟨_, rfl, hr6, x6⟩
end Go.Proofs.Ytoodkpaebbopnaa
