/- SpecAll: the reference's comparison of whatever two plain values; spec.CompareValues; spec.Orderly ends. -/
import Derived.Test.YtempfaefopfobaaGreatSpecCmpM
import Derived.Test.YtempfaefopfobaaGreatFits

set_option maxRecDepth 100000
namespace Go.Proofs.YtempfaefopfobaaGreat
open Go.ChangeShapes Go.WideShapes Go.ChangeAt Go.RowKit
set_option linter.unusedVariables false
set_option linter.unusedSimpArgs false

theorem kr_rank (t : Tree) (cs : List Value) (w : World) (hR : RepGV Any w (fromT t) cs) : Calls Tryz.prog 25 #[.agg cs.toArray] w fun e w' => e = .returned (.int .i64 (rankC (kcode t))) ∧ Ext w w' := kr_any t cs w hR
theorem spc_all : ∀ (N : Nat) (t1 t2 : Tree), SizeOf.sizeOf t1 ≤ N → WfT t1 → WfT t2 → SpC t1 t2
  | 0, t1, _, h, _, _ => by have := t1.size_pos; omega
  | N + 1, t1, t2, h, w1, w2 => by
    intro W c1 c2 h1 h2
    have k1 := fun W' (E : Ext W W') => kr_any t1 c1 W' (h1.ext E)
    have k2 := fun W' (E : Ext W W') => kr_any t2 c2 W' (h2.ext E)
    obtain ⟨x1, x2, x3, x4, x5, x6, rfl, hk1, hv1, hs1⟩ := h1.inv
    obtain ⟨y1, y2, y3, y4, y5, y6, rfl, hk2, hv2, hs2⟩ := h2.inv
    by_cases hr : rankC (kcode t1) = rankC (kcode t2)
    · cases w1 <;> cases w2 <;> (first | (refine absurd hr ?_; simp [rankC, kcode]; done) | skip)
      · rw [cmpT_null_null]; exact cp_null _ _ _ _ _ _ _ _ _ _ _ _ _ _ _ _ _ _ W
      · rename_i a b
        rw [cmpT_bool_bool, show bcmp a b = icmp (if a then 1 else 0) (if b then 1 else 0) by cases a <;> cases b <;> rfl]
        exact cp_bool _ _ _ _ _ _ _ _ _ _ _ _ _ _ _ _ _ _ W
      · rw [cmpT_int_int]; exact cp_int _ _ _ _ _ _ _ _ _ _ _ _ _ _ _ _ _ _ W
      · rw [cmpT_int_flt]; exact cp_intflt _ _ _ _ _ _ _ _ _ _ _ _ _ _ _ _ _ _ W
      · rw [cmpT_flt_int]; exact cp_fltint _ _ _ _ _ _ _ _ _ _ _ _ _ _ _ _ _ _ W
      · rw [cmpT_flt_flt]; exact cp_flt _ _ _ _ _ _ _ _ _ _ _ _ _ _ _ _ _ _ W
      · rw [cmpT_str_str]; exact cp_str _ _ _ _ _ _ _ _ _ _ _ _ _ _ _ _ _ _ W hs1
      · rename_i l1 hl1 l2 hl2
        rw [cmpT_list]
        refine cp_list _ _ _ _ _ _ _ _ _ _ _ _ _ _ _ _ _ _ W _ fun W' E => cpl_any l1 l2 (fun a ha b hb => spc_all N a b (by have := Tree.mem_list ha; omega) (hl1 a ha) (hl2 b hb)) W' _ _ ?_ ?_
        · have := hv1.ext E; rwa [show (fromT (.list l1)).l = fromTs l1 from rfl, fromTs_eq] at this
        · have := hv2.ext E; rwa [show (fromT (.list l2)).l = fromTs l2 from rfl, fromTs_eq] at this
      · rename_i m1 hn1 hm1 m2 hn2 hm2
        rw [cmpT_map, cmpMs_eq cmpT hn1 hn2]
        refine cp_map _ _ _ _ _ _ _ _ _ _ _ _ _ _ _ _ _ _ W _ fun W' E => cpm_any (srt m1) (srt m2) (fun p hp q hq => spc_all N p.2 q.2 (by have := Tree.size_map (k := p.1) (t := p.2) (srt_mem hp); omega) (hm1 p (srt_mem hp)) (hm2 q (srt_mem hq))) W' _ _ _ _ _ _ _ _ _ _ ?_ ?_ ?_ ?_
        · have := hk1.ext E; rwa [show (fromT (.map m1)).keys = sortN (m1.map (·.1)) from rfl, ← srt_keys] at this
        · have := hv1.ext E; rwa [show (fromT (.map m1)).l = (sortN (m1.map (·.1))).map (lookG (fromTm m1)) from rfl, srt_vals] at this
        · have := hk2.ext E; rwa [show (fromT (.map m2)).keys = sortN (m2.map (·.1)) from rfl, ← srt_keys] at this
        · have := hv2.ext E; rwa [show (fromT (.map m2)).l = (sortN (m2.map (·.1))).map (lookG (fromTm m2)) from rfl, srt_vals] at this
    · rw [cmpT_kinds hr, ← icmp_rank (kcode_le t1) (kcode_le t2) hr]
      exact cp_kinds _ _ _ _ _ _ _ _ _ _ _ _ _ _ _ _ _ _ _ _ _ _ W (by omega) k1 k2
theorem spC (ga gb : GV) : SpC (plainT ga) (plainT gb) := spc_all _ _ _ (Nat.le_refl _) (wfT ga) (wfT gb)

set_option maxHeartbeats 2000000 in
theorem specCV_any (ga gb : GV) (w : World) (ca cb : List Value) (hA : RepGV Any w ga ca) (hB : RepGV Any w gb cb) :
    Calls Tryz.prog 12 #[.agg ca.toArray, .agg cb.toArray] w fun e w' => e = .returned (.int .i64 (cmpT (plainT ga) (plainT gb))) ∧ Ext w w' := by
  have HA := hid hA
  have HB := hid hB
  obtain ⟨k, n, f, s, a1, b1, c1, a2, b2, c2, rfl⟩ := hA.form
  obtain ⟨k', n', f', s', a1', b1', c1', a2', b2', c2', rfl⟩ := hB.form
  clear hA hB
  go_enter Tryz.func12, Tryz.ntmps12
  go_upto_region 1 with fail
  obtain ⟨x1, x2, hEE⟩ := boxes2 w (.cells #[.int .i64 k, .int .i64 n, .float .f64 f, .string s, .slice a1 b1 c1, .slice a2 b2 c2] 26) (.cells #[.int .i64 k', .int .i64 n', .float .f64 f', .string s', .slice a1' b1' c1', .slice a2' b2' c2'] 26) _ (Below.refl _ _)
  generalize (w.alloc (.cells #[.int .i64 k, .int .i64 n, .float .f64 f, .string s, .slice a1 b1 c1, .slice a2 b2 c2] 26)).alloc (.cells #[.int .i64 k', .int .i64 n', .float .f64 f', .string s', .slice a1' b1' c1', .slice a2' b2' c2'] 26) = w1 at *
  have HE1 := hid hEE
  have K := hid (show ∀ w' : World, Ext w1 w' → (fun w' : World => w'.cell? ⟨w.heap.size, 0, none⟩ = some (.int .i64 k) ∧ w'.cell? ⟨w.heap.size, 1, none⟩ = some (.int .i64 n) ∧ w'.cell? ⟨w.heap.size, 2, none⟩ = some (.float .f64 f) ∧ w'.cell? ⟨w.heap.size, 3, none⟩ = some (.string s) ∧ w'.cell? ⟨w.heap.size, 4, none⟩ = some (.slice a1 b1 c1) ∧ w'.cell? ⟨w.heap.size, 5, none⟩ = some (.slice a2 b2 c2) ∧ w'.cell? ⟨w.heap.size + 1, 0, none⟩ = some (.int .i64 k') ∧ w'.cell? ⟨w.heap.size + 1, 1, none⟩ = some (.int .i64 n') ∧ w'.cell? ⟨w.heap.size + 1, 2, none⟩ = some (.float .f64 f') ∧ w'.cell? ⟨w.heap.size + 1, 3, none⟩ = some (.string s') ∧ w'.cell? ⟨w.heap.size + 1, 4, none⟩ = some (.slice a1' b1' c1') ∧ w'.cell? ⟨w.heap.size + 1, 5, none⟩ = some (.slice a2' b2' c2')) w' from fun w' h => by
    obtain ⟨⟨z0, z1, z2, z3, z4, z5⟩, -⟩ := slot6 (h.block x1)
    obtain ⟨⟨y0, y1, y2, y3, y4, y5⟩, -⟩ := slot6 (h.block x2)
    exact ⟨z0, z1, z2, z3, z4, z5, y0, y1, y2, y3, y4, y5⟩)
  clear x1 x2 hEE
  go_region_held3 (fun w' : World => w'.cell? ⟨w.heap.size, 0, none⟩ = some (.int .i64 k) ∧ w'.cell? ⟨w.heap.size, 1, none⟩ = some (.int .i64 n) ∧ w'.cell? ⟨w.heap.size, 2, none⟩ = some (.float .f64 f) ∧ w'.cell? ⟨w.heap.size, 3, none⟩ = some (.string s) ∧ w'.cell? ⟨w.heap.size, 4, none⟩ = some (.slice a1 b1 c1) ∧ w'.cell? ⟨w.heap.size, 5, none⟩ = some (.slice a2 b2 c2) ∧ w'.cell? ⟨w.heap.size + 1, 0, none⟩ = some (.int .i64 k') ∧ w'.cell? ⟨w.heap.size + 1, 1, none⟩ = some (.int .i64 n') ∧ w'.cell? ⟨w.heap.size + 1, 2, none⟩ = some (.float .f64 f') ∧ w'.cell? ⟨w.heap.size + 1, 3, none⟩ = some (.string s') ∧ w'.cell? ⟨w.heap.size + 1, 4, none⟩ = some (.slice a1' b1' c1') ∧ w'.cell? ⟨w.heap.size + 1, 5, none⟩ = some (.slice a2' b2' c2'))
    (first | with_reducible exact K.out _ HE7.out | with_reducible exact K.out _ HE6.out | with_reducible exact K.out _ HE5.out | with_reducible exact K.out _ (Ext.refl w1).drew)
    (first
      | (go_at_call_of 18 k; refine (clean_any ga _ _ (HA.out.ext HE1.out.drew)).mono ?_; rintro e w5 ⟨cs1, rfl, hT, hE⟩; have HE5 := hid ((Ext.refl w1).drew.trans hE); rw [clean_eq] at hT; obtain ⟨k2, n2, f2, s2, a3, b3, c3, a4, b4, c4, rfl⟩ := hT.form; have HV1 := hid (hT.weak (S' := Any) (fun _ _ _ => trivial)); clear hE hT)
      | (go_at_call_of 18 k'; refine (clean_any gb _ _ (HB.out.ext (HE1.out.trans HE5.out))).mono ?_; rintro e w6 ⟨cs2, rfl, hT, hE⟩; have HE56 := hid hE; have HE6 := hid (HE5.out.trans hE); rw [clean_eq] at hT; obtain ⟨k3, n3, f3, s3, a5, b5, c5, a6, b6, c6, rfl⟩ := hT.form; have HV2 := hid (hT.weak (S' := Any) (fun _ _ _ => trivial)); clear hE hT)
      | (go_at_call 17; refine (spC ga gb _ _ _ (HV1.out.ext HE56.out) HV2.out).mono ?_; rintro e w7 ⟨rfl, hE⟩; have HE7 := hid (HE6.out.trans hE); clear hE))
  all_goals
    go_wp2_with fail
    go_ret
    exact ⟨rfl, HE1.out.trans HE7.out⟩
end Go.Proofs.YtempfaefopfobaaGreat
