/- SpecKeys: spec.CompareKeys. -/
import Derived.Test.YtoodkpaebbopnaaElemOf
import Derived.Test.YtoodkpaebbopnaaSpecAll
import Derived.StillTailTactics
set_option maxRecDepth 100000
namespace Go.Proofs.Ytoodkpaebbopnaa
open Go.ChangeShapes Go.WideShapes Go.ChangeAt Go.RowKit
set_option linter.unusedVariables false
set_option linter.unusedSimpArgs false

theorem keyT_length (e : GE) : (keyT e).length = min e.keys.length e.l.length := by simp [keyT, plainTs_length]
theorem keyT_at {e : GE} {j : Nat} {s : ByteArray} {g : GV} (h1 : e.keys[j]? = some s) (h2 : e.l[j]? = some g) : (keyT e)[j]? = some (s, plainT g) := by
  rw [keyT, List.getElem?_zip_eq_some, plainTs_eq, List.getElem?_map, h2]
  exact ⟨h1, rfl⟩
theorem keys_end {e f : GE} {j : Nat} (h : e.keys.length ≤ j ∨ e.l.length ≤ j ∨ f.keys.length ≤ j ∨ f.l.length ≤ j) (h1 : j ≤ (keyT e).length) (h2 : j ≤ (keyT f).length) {z : Int} (hz : cmpFs cmpT ((keyT e).drop j) ((keyT f).drop j) = z) :
    icmp (min e.keys.length e.l.length : Nat) (min f.keys.length f.l.length : Nat) = z := by
  rw [← hz, ← keyT_length, ← keyT_length]
  refine (cmpFs_end ?_ h1 h2).symm
  rw [keyT_length, keyT_length]
  omega
set_option maxHeartbeats 4000000 in
theorem specKeys_any (e e' : GE) (w : World) (ca cb : List Value) (hA : RepGE Any w e ca) (hB : RepGE Any w e' cb) :
    Calls Try.prog 79 #[.agg ca.toArray, .agg cb.toArray] w fun en w' => en = .returned (.int .i64 (cmpFs cmpT (keyT e) (keyT e'))) ∧ Ext w w' := by
  obtain ⟨a1, c1, a2, c2, v0, v1, v2, v3, v4, v5, rfl, -, -, -, hk, hl, -⟩ := hA
  obtain ⟨a1', c1', a2', c2', v0', v1', v2', v3', v4', v5', rfl, -, -, -, hk', hl', -⟩ := hB
  obtain ⟨ka, kb, ko, kc, hke, hks, kat⟩ := hk.at'
  obtain ⟨la, lb, lo, lc, hle, hls, lat⟩ := hl.at'
  obtain ⟨ka', kb', ko', kc', hke', hks', kat'⟩ := hk'.at'
  obtain ⟨la', lb', lo', lc', hle', hls', lat'⟩ := hl'.at'
  simp only [Value.slice.injEq, true_and] at hke hle hke' hle'
  obtain ⟨rfl, rfl⟩ := hke
  obtain ⟨rfl, rfl⟩ := hle
  obtain ⟨rfl, rfl⟩ := hke'
  obtain ⟨rfl, rfl⟩ := hle'
  have HK1 := hid kat
  have HL1 := hid lat
  have HK2 := hid kat'
  have HL2 := hid lat'
  clear hk hl hk' hl' kat lat kat' lat'
  generalize e.kind = k, e.s = s, e.n = n, e'.kind = k', e'.s = s', e'.n = n'
  go_enter Try.func79, Try.ntmps79
  go_upto_region 1 with fail
  obtain ⟨x1, x2, hEE⟩ := boxes2 w (.cells #[.int .i64 k, .string s, .slice a1 e.keys.length c1, .slice a2 e.l.length c2, v0, v1, v2, v3, v4, v5, .int .i64 n] 51) (.cells #[.int .i64 k', .string s', .slice a1' e'.keys.length c1', .slice a2' e'.l.length c2', v0', v1', v2', v3', v4', v5', .int .i64 n'] 51) _ (Below.refl _ _)
  generalize (w.alloc (.cells #[.int .i64 k, .string s, .slice a1 e.keys.length c1, .slice a2 e.l.length c2, v0, v1, v2, v3, v4, v5, .int .i64 n] 51)).alloc (.cells #[.int .i64 k', .string s', .slice a1' e'.keys.length c1', .slice a2' e'.l.length c2', v0', v1', v2', v3', v4', v5', .int .i64 n'] 51) = w1 at *
  have HE1 := hid hEE
  have K := hid (show ∀ w' : World, Ext w1 w' → w'.cell? ⟨w.heap.size, 2, none⟩ = some (.slice a1 e.keys.length c1) ∧ w'.cell? ⟨w.heap.size, 3, none⟩ = some (.slice a2 e.l.length c2) ∧ w'.cell? ⟨w.heap.size + 1, 2, none⟩ = some (.slice a1' e'.keys.length c1') ∧ w'.cell? ⟨w.heap.size + 1, 3, none⟩ = some (.slice a2' e'.l.length c2') from fun w' h => by
    obtain ⟨⟨z0, z1, z2, z3, -⟩, -⟩ := slot11 (h.block x1)
    obtain ⟨⟨y0, y1, y2, y3, -⟩, -⟩ := slot11 (h.block x2)
    exact ⟨z2, z3, y2, y3⟩)
  clear x1 x2 hEE
  go_wp2_with fail
  go_loopw [5] (fun i wr => ∃ j : Nat, i = .int .i64 j ∧ j ≤ (keyT e).length ∧ j ≤ (keyT e').length ∧ Hid (cmpFs cmpT ((keyT e).drop j) ((keyT e').drop j) = cmpFs cmpT (keyT e) (keyT e')) ∧ Hid (Ext w1 wr)) (fun i _ => e.keys.length - (intOf i).toNat)
  case atStart => exact ⟨0, rfl, Nat.zero_le _, Nat.zero_le _, hid rfl, hid (Ext.refl _)⟩
  case round =>
    obtain ⟨j, rfl, hj1, hj2, HC, HE⟩ := hrel
    obtain ⟨z2, z3, y2, y3⟩ := K.out _ HE.out
    have hi0 : (0 : Int) ≤ (j : Int) := by omega
    by_cases h1 : j < e.keys.length
    · by_cases h2 : j < e.l.length
      · by_cases h3 : j < e'.keys.length
        · by_cases h4 : j < e'.l.length
          · obtain ⟨x, hx⟩ : ∃ x, e.keys[j]? = some x := ⟨_, List.getElem?_eq_getElem h1⟩
            obtain ⟨y, hy⟩ : ∃ y, e'.keys[j]? = some y := ⟨_, List.getElem?_eq_getElem h3⟩
            obtain ⟨g, hg⟩ : ∃ g, e.l[j]? = some g := ⟨_, List.getElem?_eq_getElem h2⟩
            obtain ⟨g', hg'⟩ : ∃ g, e'.l[j]? = some g := ⟨_, List.getElem?_eq_getElem h4⟩
            obtain ⟨rfl, kx, sx⟩ := HK1.out j x hx
            obtain ⟨rfl, ky, sy⟩ := HK2.out j y hy
            obtain ⟨rfl, g1, g2, g3, g4, g5, g6, g7, g8, g9, g10, hc1, hR1⟩ := HL1.out j g hg
            obtain ⟨rfl, f1, f2, f3, f4, f5, f6, f7, f8, f9, f10, hc2, hR2⟩ := HL2.out j g' hg'
            have E0 := hid (HE1.out.trans HE.out)
            have j1 := E0.out.cellS kx
            have j2 := E0.out.cellS ky
            have HC1 := hid hc1
            have HC2 := hid hc2
            have hst := cmpFs_step (z := cmpT) (keyT_at hx hg) (keyT_at hy hg')
            rw [HC.out] at hst
            have HST := hid hst
            have HCU := hid (fun W (E : Ext w W) => specCV_any g g' W _ _ (hR1.ext E) (hR2.ext E))
            have HSS := hid (fun W => specStr_big x y W sx)
            have hi1 : (j : Int) < (e.keys.length : Int) := by omega
            have hi2 : (j : Int) < (e'.keys.length : Int) := by omega
            have hi3 : (j : Int) < (e.l.length : Int) := by omega
            have hi4 : (j : Int) < (e'.l.length : Int) := by omega
            have HJ := hid (show j + 1 ≤ (keyT e).length ∧ j + 1 ≤ (keyT e').length by rw [keyT_length, keyT_length]; omega)
            clear hst hx hy hg hg' kx ky hc1 hc2 hR1 hR2 sx sy
            rcases blt_tri x y with hb | hb | hb
            · have RES := hid (show (-1 : Int) = cmpFs cmpT (keyT e) (keyT e') by rw [HST.out, if_pos hb])
              rw [(scmp_lt hb).1] at HSS
              clear hb
              go_wp2_with fail
              go_still_tail 10, (by kernel_rfl)
              change wpList _ _ _ _ _ wr.drew
              go_wp2_with (go_at_call 20; refine (HSS.out _).mono ?_; rintro e w2 ⟨rfl, hE⟩; have HE2 := hid (E0.out.drew.trans hE); clear hE)
              go_ret
              exact ⟨congrArg (fun z => Ending.returned (.int .i64 z)) RES.out, HE2.out⟩
            · have hstep : cmpFs cmpT (keyT e) (keyT e') = if cmpT (plainT g) (plainT g') = 0 then cmpFs cmpT ((keyT e).drop (j + 1)) ((keyT e').drop (j + 1)) else cmpT (plainT g) (plainT g') := by rw [HST.out, hb, blt_irrefl]; simp
              have HSTEP := hid hstep
              rw [hb, scmp_refl] at HSS
              clear hstep
              obtain ⟨z, hz⟩ : ∃ z, cmpT (plainT g) (plainT g') = z := ⟨_, rfl⟩
              rw [hz] at HCU HSTEP
              clear hz
              subst hb
              by_cases hz : z = 0
              · subst hz
                go_wp2_with fail
                go_still_tail 10, (by kernel_rfl)
                change wpList _ _ _ _ _ wr.drew
                go_upto_region 7 with (go_at_call 20; refine (HSS.out _).mono ?_; rintro e w2 ⟨rfl, hE⟩; have HE2 := hid hE; clear hE)
                have E2 := hid (HE.out.drew.trans HE2.out)
                clear z2 z3 y2 y3 j1 j2
                obtain ⟨z2, z3, y2, y3⟩ := K.out _ E2.out
                have E3 := hid (HE1.out.trans E2.out)
                obtain ⟨q0, q1, q2, q3, q4, q5⟩ := cells6 (cellsAt_ext E3.out HC1.out)
                obtain ⟨r0, r1, r2, r3, r4, r5⟩ := cells6 (cellsAt_ext E3.out HC2.out)
                go_still_tail 10, (by kernel_rfl)
                change wpList _ _ _ _ _ w2.drew
                go_wp2_with (go_at_call 17; refine (HCU.out _ E3.out.drew).mono ?_; rintro e w3 ⟨rfl, hE⟩; have HE3 := hid ((Ext.refl w2).drew.trans hE); clear hE)
                exact ⟨⟨j + 1, by go_num, HJ.out.1, HJ.out.2, hid (by have h := HSTEP.out; simpa using h.symm), hid (HE.out.drew.trans (HE2.out.trans HE3.out))⟩, by simp [intOf]; omega⟩
              · have hd : (z != 0) = true := by simp [bne, hz]
                have HZ := hid hz
                clear hz
                go_wp2_with fail
                go_still_tail 10, (by kernel_rfl)
                change wpList _ _ _ _ _ wr.drew
                go_upto_region 7 with (go_at_call 20; refine (HSS.out _).mono ?_; rintro e w2 ⟨rfl, hE⟩; have HE2 := hid hE; clear hE)
                have E2 := hid (HE.out.drew.trans HE2.out)
                clear z2 z3 y2 y3 j1 j2
                obtain ⟨z2, z3, y2, y3⟩ := K.out _ E2.out
                have E3 := hid (HE1.out.trans E2.out)
                obtain ⟨q0, q1, q2, q3, q4, q5⟩ := cells6 (cellsAt_ext E3.out HC1.out)
                obtain ⟨r0, r1, r2, r3, r4, r5⟩ := cells6 (cellsAt_ext E3.out HC2.out)
                go_still_tail 10, (by kernel_rfl)
                change wpList _ _ _ _ _ w2.drew
                go_wp2_with (go_at_call 17; refine (HCU.out _ E3.out.drew).mono ?_; rintro e w3 ⟨rfl, hE⟩; have HE3 := hid ((Ext.refl w2).drew.trans hE); clear hE)
                go_ret
                exact ⟨congrArg (fun z => Ending.returned (.int .i64 z)) (show z = _ by rw [HSTEP.out, if_neg HZ.out]), E0.out.drew.trans (HE2.out.trans HE3.out)⟩
            · have RES := hid (show (1 : Int) = cmpFs cmpT (keyT e) (keyT e') by rw [HST.out, if_neg (by rw [blt_asymm hb]; simp), if_pos hb])
              rw [(scmp_lt hb).2] at HSS
              clear hb
              go_wp2_with fail
              go_still_tail 10, (by kernel_rfl)
              change wpList _ _ _ _ _ wr.drew
              go_wp2_with (go_at_call 20; refine (HSS.out _).mono ?_; rintro e w2 ⟨rfl, hE⟩; have HE2 := hid (E0.out.drew.trans hE); clear hE)
              go_ret
              exact ⟨congrArg (fun z => Ending.returned (.int .i64 z)) RES.out, HE2.out⟩
          · have END := hid (keys_end (.inr (.inr (.inr (by omega)))) hj1 hj2 HC.out)
            go_wp2_with (go_at_call 23; refine (ints_any _ _ _).mono ?_; rintro e w9 ⟨rfl, rfl⟩)
            all_goals
              go_ret
              refine ⟨congrArg (fun z => Ending.returned (.int .i64 z)) (Eq.trans ?_ END.out), HE1.out.trans HE.out⟩
              congr 1 <;> omega
        · have END := hid (keys_end (.inr (.inr (.inl (by omega)))) hj1 hj2 HC.out)
          go_wp2_with (go_at_call 23; refine (ints_any _ _ _).mono ?_; rintro e w9 ⟨rfl, rfl⟩)
          all_goals
            go_ret
            refine ⟨congrArg (fun z => Ending.returned (.int .i64 z)) (Eq.trans ?_ END.out), HE1.out.trans HE.out⟩
            congr 1 <;> omega
      · have END := hid (keys_end (.inr (.inl (by omega))) hj1 hj2 HC.out)
        go_wp2_with (go_at_call 23; refine (ints_any _ _ _).mono ?_; rintro e w9 ⟨rfl, rfl⟩)
        all_goals
          go_ret
          refine ⟨congrArg (fun z => Ending.returned (.int .i64 z)) (Eq.trans ?_ END.out), HE1.out.trans HE.out⟩
          congr 1 <;> omega
    · have END := hid (keys_end (.inl (by omega)) hj1 hj2 HC.out)
      go_wp2_with (go_at_call 23; refine (ints_any _ _ _).mono ?_; rintro e w9 ⟨rfl, rfl⟩)
      all_goals
        go_ret
        refine ⟨congrArg (fun z => Ending.returned (.int .i64 z)) (Eq.trans ?_ END.out), HE1.out.trans HE.out⟩
        congr 1 <;> omega
end Go.Proofs.Ytoodkpaebbopnaa
