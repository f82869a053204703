/- StrBig: spec.CompareStrings of strings of whatever length. -/
import Derived.Test.YtempfaefopfobaaGreatStrCmp
import Derived.Deep.RegionHeld3
import Derived.Deep.QuietTactic
import Derived.BigQuiet
import Derived.Deep.Cut

set_option maxRecDepth 100000
namespace Go.Proofs.YtempfaefopfobaaGreat
open Go.ChangeShapes Go.WideShapes Go.ChangeAt Go.RowKit
set_option linter.unusedVariables false
set_option linter.unusedSimpArgs false

set_option maxRecDepth 100000 in
set_option maxHeartbeats 2000000 in
theorem specStr_big (a b : ByteArray) (w : World) (hs : a.size ≤ 140737488351232) : Calls Tryz.prog 8 #[.string a, .string b] w fun e w' => e = .returned (.int .i64 (scmp a b)) ∧ Ext w w' := by
  have hsz := hid hs
  go_enter Tryz.func8, Tryz.ntmps8
  go_wp2_with fail
  go_loopw [5] (fun i wr => ∃ k : Nat, i = .int .i64 k ∧ k ≤ a.size ∧ k ≤ b.size ∧ Hid (Lib.compareBytes (a.data.toList.drop k) (b.data.toList.drop k) = scmp a b) ∧ Hid (Ext w wr)) (fun i _ => a.size - (intOf i).toNat)
  case atStart => exact ⟨0, rfl, Nat.zero_le _, Nat.zero_le _, hid rfl, hid (Ext.refl _)⟩
  case round =>
    obtain ⟨k, rfl, hka, hkb, hC, hE⟩ := hrel
    by_cases h1 : k < a.size
    · by_cases h2 : k < b.size
      · have g1 : (k : Int) < (a.size : Int) := by omega
        have g2 : (k : Int) < (b.size : Int) := by omega
        have e1 : a.data.toList[k]? = some a[k] := by simp [h1]; rfl
        have e2 : b.data.toList[k]? = some b[k] := by simp [h2]; rfl
        have hst := cb_step e1 e2
        rw [hC.out] at hst
        have HST := hid hst
        clear hst e1 e2
        by_cases hab : a[k] = b[k]
        · have hd : ((a[k].toNat : Int) != (b[k].toNat : Int)) = false := by rw [hab]; simp
          have HN := hid (show scmp a b = Lib.compareBytes (a.data.toList.drop (k + 1)) (b.data.toList.drop (k + 1)) from by
            have := HST.out
            rw [hab] at this
            simpa [UInt8.lt_irrefl] using this)
          clear hab
          go_upto_region 4 with fail
          go_quiet (fail)
          go_wp2_with fail
          go_roundw
          case rel => exact ⟨k + 1, by go_num, by omega, by omega, hid HN.out.symm, hid (hE.out.drewN _)⟩
          case measure => simp [intOf]; omega
        · have hd : ((a[k].toNat : Int) != (b[k].toNat : Int)) = true := by
            simp only [bne_iff_ne, ne_eq]
            intro e
            exact hab (UInt8.toNat_inj.1 (by omega))
          have HN := hid (show scmp a b = icmp (a[k].toNat : Int) (b[k].toNat : Int) from by
            have h := HST.out
            unfold icmp
            rw [h]
            by_cases c1 : a[k] < b[k]
            · rw [if_pos c1, if_pos (by have := UInt8.lt_iff_toNat_lt.1 c1; omega)]
            · have c2 : b[k] < a[k] := UInt8.lt_of_le_of_ne (UInt8.not_lt.1 c1) (fun e => hab e.symm)
              rw [if_neg c1, if_pos c2, if_neg (by have := UInt8.lt_iff_toNat_lt.1 c2; omega), if_pos (by have := UInt8.lt_iff_toNat_lt.1 c2; omega)])
          clear hab
          go_upto_region 4 with fail
          go_quiet (fail)
          go_upto_region 5 with fail
          go_region_held3 (fun _ => True) (exact trivial) (first | (go_at_call 10; refine (ints_any _ _ _).mono ?_; rintro e w' ⟨rfl, rfl⟩))
          all_goals
            go_wp2_with fail
            go_ret
            exact ⟨congrArg (fun z => Ending.returned (.int .i64 z)) (show icmp (IntKind.i64.wrap (a[k].toNat : Int)) (IntKind.i64.wrap (b[k].toNat : Int)) = scmp a b from by rw [HN.out, wrap_u8, wrap_u8]), hE.out.drewN _⟩
      · have g1 : (k : Int) < (a.size : Int) := by omega
        have g2 : ¬ (k : Int) < (b.size : Int) := by omega
        have he := cb_end (x := a.data.toList) (y := b.data.toList) (i := k) (.inr (by simp; show b.size ≤ k; omega)) (by simpa using hka) (by simpa using hkb)
        rw [hC.out] at he
        have hl : icmp (a.data.toList.length : Int) (b.data.toList.length : Int) = icmp (a.size : Int) (b.size : Int) := by simp
        rw [hl] at he
        have HN := hid he
        clear he hl
        go_wp2_with (go_at_call 10; refine (ints_any _ _ _).mono ?_; rintro e w2 ⟨rfl, rfl⟩)
        go_ret
        exact ⟨congrArg (fun z => Ending.returned (.int .i64 z)) (show icmp (a.size : Int) (b.size : Int) = scmp a b from HN.out.symm), hE.out⟩
    · have g1 : ¬ (k : Int) < (a.size : Int) := by omega
      have he := cb_end (x := a.data.toList) (y := b.data.toList) (i := k) (.inl (by simp; show a.size ≤ k; omega)) (by simpa using hka) (by simpa using hkb)
      rw [hC.out] at he
      have hl : icmp (a.data.toList.length : Int) (b.data.toList.length : Int) = icmp (a.size : Int) (b.size : Int) := by simp
      rw [hl] at he
      have HN := hid he
      clear he hl
      go_wp2_with (go_at_call 10; refine (ints_any _ _ _).mono ?_; rintro e w2 ⟨rfl, rfl⟩)
      go_ret
      exact ⟨congrArg (fun z => Ending.returned (.int .i64 z)) (show icmp (a.size : Int) (b.size : Int) = scmp a b from HN.out.symm), hE.out⟩

end Go.Proofs.YtempfaefopfobaaGreat
