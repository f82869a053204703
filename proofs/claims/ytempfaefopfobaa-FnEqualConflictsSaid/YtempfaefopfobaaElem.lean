/- Elem: path elements of the package, as they lie in memory; FieldList.Compare, PathElement.Compare. -/
import Derived.Test.YtempfaefopfobaaCmpAll
import Derived.Test.YtempfaefopfobaaOrd
import Derived.Test.YtempfaefopfobaaElRep
import Derived.StillTailTactics
import Derived.Deep.QuietTactic
import Derived.BigQuiet

set_option maxRecDepth 100000
namespace Go.Proofs.Ytempfaefopfobaa
open Go.ChangeShapes Go.WideShapes Go.ChangeAt Go.RowKit
set_option linter.unusedVariables false
set_option linter.unusedSimpArgs false

set_option maxHeartbeats 4000000 in
theorem flc_any (a b : List (ByteArray × Tree)) (v1 v2 : Value) (w : World) (h1 : RepFs Any w v1 a) (h2 : RepFs Any w v2 b) :
    Calls Try.prog 115 #[v1, v2] w fun e w' => e = .returned (.int .i64 (cmpFs cmpT a b)) ∧ Ext w w' := by
  obtain ⟨a1, b1, o1, c1, rfl, l1, s1, p1, at1⟩ := h1
  obtain ⟨a2, b2, o2, c2, rfl, l2, s2, p2, at2⟩ := h2
  have HP1 := hid p1
  have HP2 := hid p2
  have HA1 := hid at1
  have HA2 := hid at2
  clear p1 p2 at1 at2
  go_enter Try.func115, Try.ntmps115
  go_wp2_with fail
  go_loopw [5] (fun i wr => ∃ k : Nat, i = .int .i64 k ∧ k ≤ a.length ∧ k ≤ b.length ∧ Hid (cmpFs cmpT (a.drop k) (b.drop k) = cmpFs cmpT a b) ∧ Hid (Ext w wr)) (fun i _ => a.length - (intOf i).toNat)
  case atStart => exact ⟨0, rfl, Nat.zero_le _, Nat.zero_le _, hid rfl, hid (Ext.refl _)⟩
  case round =>
    obtain ⟨k, rfl, hk1, hk2, HC, HE⟩ := hrel
    by_cases h1 : k < a.length
    · by_cases h2 : k < b.length
      · obtain ⟨p, hp⟩ : ∃ p, a[k]? = some p := ⟨_, List.getElem?_eq_getElem h1⟩
        obtain ⟨q, hq⟩ : ∃ q, b[k]? = some q := ⟨_, List.getElem?_eq_getElem h2⟩
        obtain ⟨rfl, -⟩ := HP1.out (by omega)
        obtain ⟨rfl, -⟩ := HP2.out (by omega)
        obtain ⟨-, kc1, x1, kx1, hv1⟩ := HA1.out k p hp
        obtain ⟨-, kc2, x2, kx2, hv2⟩ := HA2.out k q hq
        have j1 := HE.out.cellS kc1
        have j2 := HE.out.cellS kc2
        have j3 := HE.out.cellS kx1
        have j4 := HE.out.cellS kx2
        have KX1 := hid kx1
        have KX2 := hid kx2
        have hst := cmpFs_step (z := cmpT) hp hq
        rw [HC.out] at hst
        have HST := hid hst
        have HCU := hid (fun W (E : Ext w W) => Compare_of p.2 q.2 _ (cmpU p.2 q.2) x1 x2 W (hv1.ext E) (hv2.ext E))
        have hi0 : (0 : Int) ≤ (k : Int) := by omega
        have hi1 : (k : Int) < (a.length : Int) := by omega
        have hi2 : (k : Int) < (b.length : Int) := by omega
        clear hst hp hq kc1 kc2 kx1 kx2 hv1 hv2
        rcases blt_tri p.1 q.1 with hb | hb | hb
        · have HSC := hid (scmp_lt hb).1
          have RES := hid (show (-1 : Int) = cmpFs cmpT a b by rw [HST.out, if_pos hb])
          clear hb
          go_wp2_with fail
          go_still_tail 10, (by kernel_rfl)
          change wpList _ _ _ _ _ wr.drew
          go_wp2_with (go_at_call 114; refine (strcmp_any p.1 q.1 _).mono ?_; rw [HSC.out]; rintro e w2 ⟨rfl, rfl⟩)
          go_ret
          exact ⟨congrArg (fun z => Ending.returned (.int .i64 z)) RES.out, HE.out.drew⟩
        · have HSC := hid (show scmp p.1 q.1 = 0 by rw [hb]; exact scmp_refl _)
          have hstep : cmpFs cmpT a b = if cmpT p.2 q.2 = 0 then cmpFs cmpT (a.drop (k + 1)) (b.drop (k + 1)) else cmpT p.2 q.2 := by rw [HST.out, hb, blt_irrefl]; simp
          have HSTEP := hid hstep
          clear hb hstep
          by_cases hz : cmpT p.2 q.2 = 0
          all_goals
            have hd : (cmpT p.2 q.2 != 0) = decide (¬ cmpT p.2 q.2 = 0) := by simp [bne, hz]
            have HZ := hid hz
            first | rw [decide_eq_false (by simpa using hz)] at hd | rw [decide_eq_true hz] at hd
            clear hz
            go_wp2_with fail
            go_still_tail 10, (by kernel_rfl)
            change wpList _ _ _ _ _ wr.drew
            go_upto_region 11 with (go_at_call 114; refine (strcmp_any p.1 q.1 _).mono ?_; rw [HSC.out]; rintro e w2 ⟨rfl, hw⟩; have HE2 := hid (show Ext w w2 from hw ▸ HE.out.drew); clear hw)
            have k3 := HE2.out.cellS KX1.out
            have k4 := HE2.out.cellS KX2.out
            go_still_tail 10, (by kernel_rfl)
            change wpList _ _ _ _ _ w2.drew
            go_wp2_with (go_at_call 116; refine (HCU.out _ HE2.out.drew).mono ?_; rintro e w3 ⟨rfl, hE⟩; have HE3 := hid (HE2.out.drew.trans hE); clear hE)
          · exact ⟨⟨k + 1, by go_num, by omega, by omega, hid (by rw [HSTEP.out, if_pos HZ.out]), HE3⟩, by simp [intOf]; omega⟩
          · go_ret
            exact ⟨congrArg (fun z => Ending.returned (.int .i64 z)) (show cmpT p.2 q.2 = cmpFs cmpT a b by rw [HSTEP.out, if_neg HZ.out]), HE3.out⟩
        · have HSC := hid (scmp_lt hb).2
          have RES := hid (show (1 : Int) = cmpFs cmpT a b by rw [HST.out, if_neg (by rw [blt_asymm hb]; simp), if_pos hb])
          clear hb
          go_wp2_with fail
          go_still_tail 10, (by kernel_rfl)
          change wpList _ _ _ _ _ wr.drew
          go_wp2_with (go_at_call 114; refine (strcmp_any p.1 q.1 _).mono ?_; rw [HSC.out]; rintro e w2 ⟨rfl, rfl⟩)
          go_ret
          exact ⟨congrArg (fun z => Ending.returned (.int .i64 z)) RES.out, HE.out.drew⟩
      · have RES := hid (show (1 : Int) = cmpFs cmpT a b by rw [← HC.out, cmpFs_end (.inr (by omega)) hk1 hk2]; unfold icmp; rw [if_neg (by omega), if_pos (by omega)])
        go_wp2_with fail
        go_ret
        exact ⟨congrArg (fun z => Ending.returned (.int .i64 z)) RES.out, HE.out⟩
    · by_cases h2 : k < b.length
      · have RES := hid (show (-1 : Int) = cmpFs cmpT a b by rw [← HC.out, cmpFs_end (.inl (by omega)) hk1 hk2]; unfold icmp; rw [if_pos (by omega)])
        go_wp2_with fail
        go_ret
        exact ⟨congrArg (fun z => Ending.returned (.int .i64 z)) RES.out, HE.out⟩
      · have RES := hid (show (0 : Int) = cmpFs cmpT a b by rw [← HC.out, cmpFs_end (.inl (by omega)) hk1 hk2]; unfold icmp; rw [if_neg (by omega), if_neg (by omega)])
        go_wp2_with fail
        go_ret
        exact ⟨congrArg (fun z => Ending.returned (.int .i64 z)) RES.out, HE.out⟩
end Go.Proofs.Ytempfaefopfobaa
