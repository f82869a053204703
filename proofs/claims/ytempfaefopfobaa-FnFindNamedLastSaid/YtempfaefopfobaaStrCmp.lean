/- StrCmp: strings.Compare; spec.CompareStrings, CompareInts; the order of bytes. -/
import Derived.Test.YtempfaefopfobaaSpecIdx
import Derived.Lib.Bytealg
import Derived.Deep.RegionHeld3
import Derived.BigQuiet
import Derived.Deep.Cut
import Derived.Deep.QuietTactic

namespace Go.Proofs.Ytempfaefopfobaa
open Go.ChangeShapes Go.WideShapes Go.ChangeAt Go.RowKit
set_option linter.unusedVariables false
set_option linter.unusedSimpArgs false

/-- -1, 0 or 1, by the bytes -/
def scmp (a b : ByteArray) : Int := Lib.compareBytes a.data.toList b.data.toList
theorem cb_lt : ∀ {x y : List UInt8}, Op.bytesLess x y = true → Lib.compareBytes x y = -1 ∧ Lib.compareBytes y x = 1
  | [], [], h => by simp [Op.bytesLess] at h
  | [], _ :: _, _ => ⟨rfl, rfl⟩
  | _ :: _, [], h => by simp [Op.bytesLess] at h
  | a :: x, b :: y, h => by
    simp only [Op.bytesLess, Bool.or_eq_true, decide_eq_true_eq, Bool.and_eq_true, beq_iff_eq] at h
    simp only [Lib.compareBytes]
    rcases h with h | ⟨rfl, h⟩
    · have h2 : ¬ b < a := UInt8.lt_asymm h
      simp [h, h2]
    · have h2 : ¬ a < a := UInt8.lt_irrefl a
      simp [h2, cb_lt h]
theorem cb_refl : ∀ (x : List UInt8), Lib.compareBytes x x = 0
  | [] => rfl
  | a :: x => by simp [Lib.compareBytes, UInt8.lt_irrefl, cb_refl x]
theorem scmp_lt {a b : ByteArray} (h : blt a b = true) : scmp a b = -1 ∧ scmp b a = 1 := by
  unfold blt at h
  rw [Go.ByteArray.toList_eq, Go.ByteArray.toList_eq] at h
  exact cb_lt h
theorem scmp_refl (a : ByteArray) : scmp a a = 0 := cb_refl _

set_option maxRecDepth 100000 in
theorem bytealg_any (a b : ByteArray) (w : World) : Calls Try.prog 129 #[.string a, .string b] w fun e w' => e = .returned (.int .i64 (scmp a b)) ∧ w = w' := by
  go_enter Try.func129, Try.ntmps129
  go_wp2
  rw [run_callFunc_extern Try.func138 (by kernel_rfl) (by kernel_rfl) (by kernel_rfl) (e := Extern.BytealgCompare.compare) (by kernel_rfl), Lib.run_compareString]
  simp only [Result.andThen]
  rw [Oper.upon_value]
  go_wp2
  go_ret
  exact ⟨rfl, rfl⟩
theorem strcmp_any (a b : ByteArray) (w : World) : Calls Try.prog 114 #[.string a, .string b] w fun e w' => e = .returned (.int .i64 (scmp a b)) ∧ w = w' := by
  go_enter Try.func114, Try.ntmps114
  go_wp2_with (go_at_call 129; refine (bytealg_any _ _ _).mono ?_; rintro e w' ⟨rfl, rfl⟩)
  go_ret
  exact ⟨rfl, rfl⟩

/-- -1, 0 or 1, as integers stand -/
def icmp (a b : Int) : Int := if a < b then -1 else if b < a then 1 else 0
set_option maxRecDepth 100000 in
theorem ints_any (a b : Int) (w : World) : Calls Try.prog 103 #[.int .i64 a, .int .i64 b] w fun e w' => e = .returned (.int .i64 (icmp a b)) ∧ w = w' := by
  by_cases h1 : a < b
  · rw [show icmp a b = -1 by unfold icmp; rw [if_pos h1]]
    go_enter Try.func103, Try.ntmps103
    go_wp2_with fail
    go_ret
    exact ⟨rfl, rfl⟩
  · by_cases h2 : b < a
    · rw [show icmp a b = 1 by unfold icmp; rw [if_neg h1, if_pos h2]]
      go_enter Try.func103, Try.ntmps103
      go_wp2_with fail
      go_ret
      exact ⟨rfl, rfl⟩
    · rw [show icmp a b = 0 by unfold icmp; rw [if_neg h1, if_neg h2]]
      go_enter Try.func103, Try.ntmps103
      go_wp2_with fail
      go_ret
      exact ⟨rfl, rfl⟩

theorem wrap_u8 (x : UInt8) : IntKind.i64.wrap (x.toNat : Int) = (x.toNat : Int) := by
  have := x.toNat_lt
  simp [wrap64, wrap32, IntKind.wrap, IntKind.signed, IntKind.bits]; omega
/-- the bytes from i on -/
theorem cb_step {x y : List UInt8} {i : Nat} {a b : UInt8} (ha : x[i]? = some a) (hb : y[i]? = some b) : Lib.compareBytes (x.drop i) (y.drop i) = if a < b then -1 else if b < a then 1 else Lib.compareBytes (x.drop (i + 1)) (y.drop (i + 1)) := by
  obtain ⟨h1, rfl⟩ := List.getElem?_eq_some_iff.1 ha
  obtain ⟨h2, rfl⟩ := List.getElem?_eq_some_iff.1 hb
  rw [List.drop_eq_getElem_cons h1, List.drop_eq_getElem_cons h2]
  rfl
theorem cb_end {x y : List UInt8} {i : Nat} (h : x.length ≤ i ∨ y.length ≤ i) (hx : i ≤ x.length) (hy : i ≤ y.length) : Lib.compareBytes (x.drop i) (y.drop i) = icmp x.length y.length := by
  unfold icmp
  rcases h with h | h
  · rw [List.drop_of_length_le h]
    obtain rfl : i = x.length := by omega
    by_cases e : y.length ≤ x.length
    · rw [List.drop_of_length_le e, if_neg (by omega), if_neg (by omega)]; rfl
    · rw [if_pos (by omega), List.drop_eq_getElem_cons (by omega)]; rfl
  · rw [List.drop_of_length_le h]
    obtain rfl : i = y.length := by omega
    by_cases e : x.length ≤ y.length
    · rw [List.drop_of_length_le e, if_neg (by omega), if_neg (by omega)]; rfl
    · rw [if_neg (by omega), if_pos (by omega), List.drop_eq_getElem_cons (by omega)]; rfl

set_option maxRecDepth 100000 in
set_option maxHeartbeats 2000000 in
theorem specStr_any (a b : ByteArray) (w : World) (hs : a.size ≤ 2147483647) : Calls Try.prog 70 #[.string a, .string b] w fun e w' => e = .returned (.int .i64 (scmp a b)) ∧ Ext w w' := by
  have hsz := hid hs
  go_enter Try.func70, Try.ntmps70
  go_wp2_with fail
  go_loopw [5] (fun i wr => ∃ k : Nat, i = .int .i64 k ∧ k ≤ a.size ∧ k ≤ b.size ∧ Hid (Lib.compareBytes (a.data.toList.drop k) (b.data.toList.drop k) = scmp a b) ∧ Hid (Ext w wr)) (fun i _ => a.size - (intOf i).toNat)
  case atStart => exact ⟨0, rfl, Nat.zero_le _, Nat.zero_le _, hid rfl, hid (Ext.refl _)⟩
  case round =>
    obtain ⟨k, rfl, hka, hkb, hC, hE⟩ := hrel
    by_cases h1 : k < a.size
    · by_cases h2 : k < b.size
      · have g1 : (k : Int) < (a.size : Int) := by omega
        have g2 : (k : Int) < (b.size : Int) := by omega
        have e1 : a.data.toList[k]? = some a[k] := by simp [h1]; rfl
        have e2 : b.data.toList[k]? = some b[k] := by simp [h2]; rfl
        have hst := cb_step e1 e2
        rw [hC.out] at hst
        have HST := hid hst
        clear hst e1 e2
        by_cases hab : a[k] = b[k]
        · have hd : ((a[k].toNat : Int) != (b[k].toNat : Int)) = false := by rw [hab]; simp
          have HN := hid (show scmp a b = Lib.compareBytes (a.data.toList.drop (k + 1)) (b.data.toList.drop (k + 1)) from by
            have := HST.out
            rw [hab] at this
            simpa [UInt8.lt_irrefl] using this)
          clear hab
          go_upto_region 4 with fail
          go_quiet (fail)
          go_wp2_with fail
          go_roundw
          case rel => exact ⟨k + 1, by go_num, by omega, by omega, hid HN.out.symm, hid (hE.out.drewN _)⟩
          case measure => simp [intOf]; omega
        · have hd : ((a[k].toNat : Int) != (b[k].toNat : Int)) = true := by
            simp only [bne_iff_ne, ne_eq]
            intro e
            exact hab (UInt8.toNat_inj.1 (by omega))
          have HN := hid (show scmp a b = icmp (a[k].toNat : Int) (b[k].toNat : Int) from by
            have h := HST.out
            unfold icmp
            rw [h]
            by_cases c1 : a[k] < b[k]
            · rw [if_pos c1, if_pos (by have := UInt8.lt_iff_toNat_lt.1 c1; omega)]
            · have c2 : b[k] < a[k] := UInt8.lt_of_le_of_ne (UInt8.not_lt.1 c1) (fun e => hab e.symm)
              rw [if_neg c1, if_pos c2, if_neg (by have := UInt8.lt_iff_toNat_lt.1 c2; omega), if_pos (by have := UInt8.lt_iff_toNat_lt.1 c2; omega)])
          clear hab
          go_upto_region 4 with fail
          go_quiet (fail)
          go_upto_region 5 with fail
          go_region_held3 (fun _ => True) (exact trivial) (first | (go_at_call 103; refine (ints_any _ _ _).mono ?_; rintro e w' ⟨rfl, rfl⟩))
          all_goals
            go_wp2_with fail
            go_ret
            exact ⟨congrArg (fun z => Ending.returned (.int .i64 z)) (show icmp (IntKind.i64.wrap (a[k].toNat : Int)) (IntKind.i64.wrap (b[k].toNat : Int)) = scmp a b from by rw [HN.out, wrap_u8, wrap_u8]), hE.out.drewN _⟩
      · have g1 : (k : Int) < (a.size : Int) := by omega
        have g2 : ¬ (k : Int) < (b.size : Int) := by omega
        have he := cb_end (x := a.data.toList) (y := b.data.toList) (i := k) (.inr (by simp; show b.size ≤ k; omega)) (by simpa using hka) (by simpa using hkb)
        rw [hC.out] at he
        have hl : icmp (a.data.toList.length : Int) (b.data.toList.length : Int) = icmp (a.size : Int) (b.size : Int) := by simp
        rw [hl] at he
        have HN := hid he
        clear he hl
        go_wp2_with (go_at_call 103; refine (ints_any _ _ _).mono ?_; rintro e w2 ⟨rfl, rfl⟩)
        go_ret
        exact ⟨congrArg (fun z => Ending.returned (.int .i64 z)) (show icmp (a.size : Int) (b.size : Int) = scmp a b from HN.out.symm), hE.out⟩
    · have g1 : ¬ (k : Int) < (a.size : Int) := by omega
      have he := cb_end (x := a.data.toList) (y := b.data.toList) (i := k) (.inl (by simp; show a.size ≤ k; omega)) (by simpa using hka) (by simpa using hkb)
      rw [hC.out] at he
      have hl : icmp (a.data.toList.length : Int) (b.data.toList.length : Int) = icmp (a.size : Int) (b.size : Int) := by simp
      rw [hl] at he
      have HN := hid he
      clear he hl
      go_wp2_with (go_at_call 103; refine (ints_any _ _ _).mono ?_; rintro e w2 ⟨rfl, rfl⟩)
      go_ret
      exact ⟨congrArg (fun z => Ending.returned (.int .i64 z)) (show icmp (a.size : Int) (b.size : Int) = scmp a b from HN.out.symm), hE.out⟩
end Go.Proofs.Ytempfaefopfobaa
