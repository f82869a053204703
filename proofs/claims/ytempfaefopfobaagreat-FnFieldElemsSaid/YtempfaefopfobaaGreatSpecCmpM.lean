/- SpecCmpM: the reference's comparison of lists and maps of plain values; of whatever two trees; spec.CompareValues. -/
import Derived.Test.YtempfaefopfobaaGreatSpecCmp
import Derived.Test.YtempfaefopfobaaGreatOrd
import Derived.StillTailTactics

set_option maxRecDepth 100000
namespace Go.Proofs.YtempfaefopfobaaGreat
open Go.ChangeShapes Go.WideShapes Go.ChangeAt Go.RowKit
set_option linter.unusedVariables false
set_option linter.unusedSimpArgs false

set_option maxHeartbeats 2000000 in
theorem cpl_any (l1 l2 : List Tree) (ih : ∀ a ∈ l1, ∀ b ∈ l2, SpC a b) (w : World) (v1 v2 : Value) (h1 : RepVals Any w v1 (l1.map fromT)) (h2 : RepVals Any w v2 (l2.map fromT)) :
    Calls Tryz.prog 28 #[v1, v2] w fun e w' => e = .returned (.int .i64 (cmpLs cmpT l1 l2)) ∧ Ext w w' := by
  obtain ⟨a1, b1, o1, c1, rfl, hs1, hat1⟩ := h1.at'
  obtain ⟨a2, b2, o2, c2, rfl, hs2, hat2⟩ := h2.at'
  simp only [List.length_map] at hs1 hs2 ⊢
  have HA1 := hid hat1
  have HA2 := hid hat2
  have HI := hid ih
  clear h1 h2 hat1 hat2 ih
  go_enter Tryz.func28, Tryz.ntmps28
  go_wp2_with fail
  go_loopw [5] (fun i wr => ∃ k : Nat, i = .int .i64 k ∧ k ≤ l1.length ∧ k ≤ l2.length ∧ Hid (cmpLs cmpT (l1.drop k) (l2.drop k) = cmpLs cmpT l1 l2) ∧ Hid (Ext w wr)) (fun i _ => l1.length - (intOf i).toNat)
  case atStart => exact ⟨0, rfl, Nat.zero_le _, Nat.zero_le _, hid rfl, hid (Ext.refl _)⟩
  case round =>
    obtain ⟨k, rfl, hk1, hk2, HC, HE⟩ := hrel
    by_cases h1 : k < l1.length
    · by_cases h2 : k < l2.length
      · obtain ⟨t1, ht1⟩ : ∃ t, l1[k]? = some t := ⟨_, List.getElem?_eq_getElem h1⟩
        obtain ⟨t2, ht2⟩ : ∃ t, l2[k]? = some t := ⟨_, List.getElem?_eq_getElem h2⟩
        obtain ⟨rfl, k1, n1, f1, s1, d1, e1, g1, d1', e1', g1', hc1, hR1⟩ := HA1.out k (fromT t1) (by simp [ht1])
        obtain ⟨rfl, k2, n2, f2, s2, d2, e2, g2, d2', e2', g2', hc2, hR2⟩ := HA2.out k (fromT t2) (by simp [ht2])
        obtain ⟨q0, q1, q2, q3, q4, q5⟩ := cells6 (cellsAt_ext HE.out hc1)
        obtain ⟨p0, p1, p2, p3, p4, p5⟩ := cells6 (cellsAt_ext HE.out hc2)
        have HR1 := hid (hR1.ext HE.out)
        have HR2 := hid (hR2.ext HE.out)
        have hcu := HI.out t1 (List.mem_of_getElem? ht1) t2 (List.mem_of_getElem? ht2)
        have hst := cmpLs_step (z := cmpT) ht1 ht2
        rw [HC.out] at hst
        have HCU := hid (fun W (E : Ext wr W) => hcu W _ _ (HR1.out.ext E) (HR2.out.ext E))
        have hi0 : (0 : Int) ≤ (k : Int) := by omega
        have hi1 : (k : Int) < (l1.length : Int) := by omega
        have hi2 : (k : Int) < (l2.length : Int) := by omega
        clear hc1 hc2 hR1 hR2 hcu ht1 ht2
        by_cases hz : cmpT t1 t2 = 0
        · rw [if_pos hz] at hst
          have HST := hid hst.symm
          have hd : (cmpT t1 t2 != 0) = false := by rw [hz]; rfl
          clear hz hst
          go_wp2_with fail
          go_still_tail 8, (by kernel_rfl)
          change wpList _ _ _ _ _ wr.drew
          go_wp2_with (go_at_call 17; refine (HCU.out _ (Ext.refl wr).drew).mono ?_; rintro e w2 ⟨rfl, hE⟩; have HE2 := hid ((HE.out.trans (Ext.refl wr).drew).trans hE); clear hE)
          go_roundw
          case rel => exact ⟨k + 1, by go_num, by omega, by omega, HST, HE2⟩
          case measure => simp [intOf]; omega
        · rw [if_neg hz] at hst
          have HST := hid hst
          have hd : (cmpT t1 t2 != 0) = true := by simpa using hz
          clear hz hst
          go_wp2_with fail
          go_still_tail 8, (by kernel_rfl)
          change wpList _ _ _ _ _ wr.drew
          go_wp2_with (go_at_call 17; refine (HCU.out _ (Ext.refl wr).drew).mono ?_; rintro e w2 ⟨rfl, hE⟩; have HE2 := hid ((HE.out.trans (Ext.refl wr).drew).trans hE); clear hE)
          go_ret
          exact ⟨congrArg (fun z => Ending.returned (.int .i64 z)) HST.out.symm, HE2.out⟩
      · have RES := hid (show icmp l1.length l2.length = cmpLs cmpT l1 l2 by rw [← HC.out, cmpLs_end (.inr (by omega)) hk1 hk2])
        go_wp2_with (go_at_call 10; refine (ints_any _ _ _).mono ?_; rintro e w2 ⟨rfl, rfl⟩)
        go_ret
        exact ⟨congrArg (fun z => Ending.returned (.int .i64 z)) RES.out, HE.out⟩
    · have RES := hid (show icmp l1.length l2.length = cmpLs cmpT l1 l2 by rw [← HC.out, cmpLs_end (.inl (by omega)) hk1 hk2])
      go_wp2_with (go_at_call 10; refine (ints_any _ _ _).mono ?_; rintro e w2 ⟨rfl, rfl⟩)
      go_ret
      exact ⟨congrArg (fun z => Ending.returned (.int .i64 z)) RES.out, HE.out⟩
set_option maxHeartbeats 4000000 in
theorem cpm_any (a b : List (ByteArray × Tree)) (ih : ∀ p ∈ a, ∀ q ∈ b, SpC p.2 q.2) (w : World) (n n' : Int) (f f' : Nat) (s s' : ByteArray) (kv1 lv1 kv2 lv2 : Value) (hk1 : RepStrs Any w kv1 (a.map (·.1))) (hl1 : RepVals Any w lv1 (a.map fun p => fromT p.2))
    (hk2 : RepStrs Any w kv2 (b.map (·.1))) (hl2 : RepVals Any w lv2 (b.map fun p => fromT p.2)) :
    Calls Tryz.prog 29 #[.agg #[.int .i64 6, .int .i64 n, .float .f64 f, .string s, kv1, lv1], .agg #[.int .i64 6, .int .i64 n', .float .f64 f', .string s', kv2, lv2]] w fun e w' => e = .returned (.int .i64 (cmpFs cmpT a b)) ∧ Ext w w' := by
  obtain ⟨ka1, kb1, ko1, kc1, rfl, ks1, kat1⟩ := hk1.at'
  obtain ⟨ka2, kb2, ko2, kc2, rfl, ks2, kat2⟩ := hk2.at'
  obtain ⟨va1, vb1, vo1, vc1, rfl, vs1, vat1⟩ := hl1.at'
  obtain ⟨va2, vb2, vo2, vc2, rfl, vs2, vat2⟩ := hl2.at'
  simp only [List.length_map] at ks1 ks2 vs1 vs2 ⊢
  have HK1 := hid kat1
  have HK2 := hid kat2
  have HV1 := hid vat1
  have HV2 := hid vat2
  have HI := hid ih
  clear hk1 hk2 hl1 hl2 kat1 kat2 vat1 vat2 ih
  go_enter Tryz.func29, Tryz.ntmps29
  go_wp2_with fail
  obtain ⟨x1, x2, hEE⟩ := boxes2 w (.cells #[.int .i64 6, .int .i64 n, .float .f64 f, .string s, .slice ka1 a.length kc1, .slice va1 a.length vc1] 26) (.cells #[.int .i64 6, .int .i64 n', .float .f64 f', .string s', .slice ka2 b.length kc2, .slice va2 b.length vc2] 26) _ (Below.refl _ _)
  generalize (w.alloc (.cells #[.int .i64 6, .int .i64 n, .float .f64 f, .string s, .slice ka1 a.length kc1, .slice va1 a.length vc1] 26)).alloc (.cells #[.int .i64 6, .int .i64 n', .float .f64 f', .string s', .slice ka2 b.length kc2, .slice va2 b.length vc2] 26) = w1 at *
  have HE1 := hid hEE
  have K := hid (show ∀ w' : World, Ext w1 w' → (w'.cell? ⟨w.heap.size, 4, none⟩ = some (.slice ka1 a.length kc1) ∧ w'.cell? ⟨w.heap.size, 5, none⟩ = some (.slice va1 a.length vc1) ∧ w'.cell? ⟨w.heap.size + 1, 4, none⟩ = some (.slice ka2 b.length kc2) ∧ w'.cell? ⟨w.heap.size + 1, 5, none⟩ = some (.slice va2 b.length vc2)) from fun w' h => by
    obtain ⟨⟨-, -, -, -, z4, z5⟩, -⟩ := slot6 (h.block x1)
    obtain ⟨⟨-, -, -, -, y4, y5⟩, -⟩ := slot6 (h.block x2)
    exact ⟨z4, z5, y4, y5⟩)
  clear x1 x2 hEE
  go_loopw [5] (fun i wr => ∃ k : Nat, i = .int .i64 k ∧ k ≤ a.length ∧ k ≤ b.length ∧ Hid (cmpFs cmpT (a.drop k) (b.drop k) = cmpFs cmpT a b) ∧ Hid (Ext w1 wr)) (fun i _ => a.length - (intOf i).toNat)
  case atStart => exact ⟨0, rfl, Nat.zero_le _, Nat.zero_le _, hid rfl, hid (Ext.refl _)⟩
  case round =>
    obtain ⟨k, rfl, hk1, hk2, HC, HE⟩ := hrel
    obtain ⟨z4, z5, y4, y5⟩ := K.out _ HE.out
    by_cases h1 : k < a.length
    · by_cases h2 : k < b.length
      · obtain ⟨p, hp⟩ : ∃ p, a[k]? = some p := ⟨_, List.getElem?_eq_getElem h1⟩
        obtain ⟨q, hq⟩ : ∃ q, b[k]? = some q := ⟨_, List.getElem?_eq_getElem h2⟩
        obtain ⟨rfl, kc1', HSZ0⟩ := HK1.out k p.1 (by simp [hp])
        obtain ⟨rfl, kc2', -⟩ := HK2.out k q.1 (by simp [hq])
        have HSZ := hid HSZ0
        have j1 := (HE1.out.trans HE.out).cellS kc1'
        have j2 := (HE1.out.trans HE.out).cellS kc2'
        have hst := cmpFs_step (z := cmpT) hp hq
        rw [HC.out] at hst
        have HST := hid hst
        have HP := hid hp
        have HQ := hid hq
        have hi0 : (0 : Int) ≤ (k : Int) := by omega
        have hi1 : (k : Int) < (a.length : Int) := by omega
        have hi2 : (k : Int) < (b.length : Int) := by omega
        clear hst hp hq kc1' kc2' HSZ0
        rcases blt_tri p.1 q.1 with hb | hb | hb
        · have HSC := hid (scmp_lt hb).1
          have RES := hid (show (-1 : Int) = cmpFs cmpT a b by rw [HST.out, if_pos hb])
          clear hb
          go_wp2_with fail
          go_still_tail 10, (by kernel_rfl)
          change wpList _ _ _ _ _ wr.drew
          go_wp2_with (go_at_call 8; refine (specStr_big p.1 q.1 _ HSZ.out).mono ?_; rw [HSC.out]; rintro e w2 ⟨rfl, hE⟩; have HE2 := hid ((HE.out.trans (Ext.refl wr).drew).trans hE); clear hE)
          go_ret
          exact ⟨congrArg (fun z => Ending.returned (.int .i64 z)) RES.out, HE1.out.trans HE2.out⟩
        · have HSC := hid (show scmp p.1 q.1 = 0 by rw [hb]; exact scmp_refl _)
          have hstep : cmpFs cmpT a b = if cmpT p.2 q.2 = 0 then cmpFs cmpT (a.drop (k + 1)) (b.drop (k + 1)) else cmpT p.2 q.2 := by rw [HST.out, hb, blt_irrefl]; simp
          have HSTEP := hid hstep
          clear hb hstep
          obtain ⟨rfl, k1, n1, f1, s1, d1, e1, g1, d1', e1', g1', hc1, hR1⟩ := HV1.out k (fromT p.2) (by simp [HP.out])
          obtain ⟨rfl, k2, n2, f2, s2, d2, e2, g2, d2', e2', g2', hc2, hR2⟩ := HV2.out k (fromT q.2) (by simp [HQ.out])
          have HR1 := hid hR1
          have HR2 := hid hR2
          have HC1 := hid hc1
          have HC2 := hid hc2
          have hcu := HI.out p (List.mem_of_getElem? HP.out) q (List.mem_of_getElem? HQ.out)
          have HCU := hid (fun W (E : Ext w W) => hcu W _ _ (HR1.out.ext E) (HR2.out.ext E))
          clear hc1 hc2 hR1 hR2 hcu
          by_cases hz : cmpT p.2 q.2 = 0
          all_goals
            have hd : (cmpT p.2 q.2 != 0) = decide (¬ cmpT p.2 q.2 = 0) := by simp [bne, hz]
            have HZ := hid hz
            first | rw [decide_eq_false (by simpa using hz)] at hd | rw [decide_eq_true hz] at hd
            clear hz
            go_wp2_with fail
            go_still_tail 10, (by kernel_rfl)
            change wpList _ _ _ _ _ wr.drew
            go_upto_region 7 with (go_at_call 8; refine (specStr_big p.1 q.1 _ HSZ.out).mono ?_; rw [HSC.out]; rintro e w2 ⟨rfl, hE⟩; have HE2 := hid ((HE.out.trans (Ext.refl wr).drew).trans hE); clear hE)
            obtain ⟨z4, z5, y4, y5⟩ := K.out _ HE2.out
            obtain ⟨q0, q1, q2, q3, q4, q5⟩ := cells6 (cellsAt_ext (HE1.out.trans HE2.out) HC1.out)
            obtain ⟨p0, p1, p2, p3, p4, p5⟩ := cells6 (cellsAt_ext (HE1.out.trans HE2.out) HC2.out)
            go_still_tail 10, (by kernel_rfl)
            change wpList _ _ _ _ _ w2.drew
            go_wp2_with (go_at_call 17; refine (HCU.out _ ((HE1.out.trans HE2.out).trans (Ext.refl w2).drew)).mono ?_; rintro e w3 ⟨rfl, hE⟩; have HE3 := hid ((HE2.out.trans (Ext.refl w2).drew).trans hE); clear hE)
          · exact ⟨⟨k + 1, by go_num, by omega, by omega, hid (by rw [HSTEP.out, if_pos HZ.out]), HE3⟩, by simp [intOf]; omega⟩
          · go_ret
            exact ⟨congrArg (fun z => Ending.returned (.int .i64 z)) (show cmpT p.2 q.2 = cmpFs cmpT a b by rw [HSTEP.out, if_neg HZ.out]), HE1.out.trans HE3.out⟩
        · have HSC := hid (scmp_lt hb).2
          have RES := hid (show (1 : Int) = cmpFs cmpT a b by rw [HST.out, if_neg (by rw [blt_asymm hb]; simp), if_pos hb])
          clear hb
          go_wp2_with fail
          go_still_tail 10, (by kernel_rfl)
          change wpList _ _ _ _ _ wr.drew
          go_wp2_with (go_at_call 8; refine (specStr_big p.1 q.1 _ HSZ.out).mono ?_; rw [HSC.out]; rintro e w2 ⟨rfl, hE⟩; have HE2 := hid ((HE.out.trans (Ext.refl wr).drew).trans hE); clear hE)
          go_ret
          exact ⟨congrArg (fun z => Ending.returned (.int .i64 z)) RES.out, HE1.out.trans HE2.out⟩
      · have RES := hid (show icmp a.length b.length = cmpFs cmpT a b by rw [← HC.out, cmpFs_end (.inr (by omega)) hk1 hk2])
        go_wp2_with (go_at_call 10; refine (ints_any _ _ _).mono ?_; rintro e w2 ⟨rfl, rfl⟩)
        go_ret
        exact ⟨congrArg (fun z => Ending.returned (.int .i64 z)) RES.out, HE1.out.trans HE.out⟩
    · have RES := hid (show icmp a.length b.length = cmpFs cmpT a b by rw [← HC.out, cmpFs_end (.inl (by omega)) hk1 hk2])
      go_wp2_with (go_at_call 10; refine (ints_any _ _ _).mono ?_; rintro e w2 ⟨rfl, rfl⟩)
      go_ret
      exact ⟨congrArg (fun z => Ending.returned (.int .i64 z)) RES.out, HE1.out.trans HE.out⟩
end Go.Proofs.YtempfaefopfobaaGreat
