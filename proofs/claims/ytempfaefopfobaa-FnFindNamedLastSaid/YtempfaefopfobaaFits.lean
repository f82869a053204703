/- Fits: the size tests of the statements tell something or other. -/
import Derived.Test.YtempfaefopfobaaClean

namespace Go.Proofs.Ytempfaefopfobaa
open Go.ChangeShapes Go.WideShapes Go.ChangeAt Go.RowKit
set_option linter.unusedVariables false
set_option linter.unusedSimpArgs false
/-- some answer, and nothing old has changed -/
def Tells (w : World) (e : Ending) (w' : World) : Prop := ∃ b : Bool, e = .returned (.bool b) ∧ Ext w w'

set_option maxRecDepth 100000 in
theorem fits2_any (v : Value) (ss : List ByteArray) (w : World) (h : RepStrs Any w v ss) : Calls Try.prog 14 #[v] w (Tells w) := by
  obtain ⟨ka, kb, ko, kc, rfl, hkle, hksz, hka, hkc, hkl⟩ := h
  have HK := hid hkc
  clear hkc hkl
  go_enter Try.func14, Try.ntmps14
  by_cases hbig : ss.length > 2147483647
  · go_wp2_with fail
    go_ret
    exact ⟨_, rfl, Ext.refl _⟩
  · go_wp2_with fail
    go_loopw [10] (fun i wr => ∃ k : Nat, i = .int .i64 k ∧ k ≤ ss.length ∧ Ext w wr) (fun i _ => ss.length - (intOf i).toNat)
    case atStart => exact ⟨0, rfl, Nat.zero_le _, Ext.refl _⟩
    case round =>
      obtain ⟨k, rfl, hk, hE⟩ := hrel
      by_cases hlt : k < ss.length
      · have ha1 := (hka (by omega)).1
        subst ha1
        obtain ⟨key, hkey⟩ : ∃ key, ss[k]? = some key := ⟨_, List.getElem?_eq_getElem hlt⟩
        have hcell := hE.cellS (HK.out k key hkey)
        clear hkey
        by_cases hs : key.size > 2147483647
        · go_wp2_with fail
          go_ret
          exact ⟨_, rfl, hE⟩
        · go_wp2_with fail
          go_roundw
          case rel => exact ⟨k + 1, by go_num, by omega, hE⟩
          case measure => simp [intOf]; omega
      · obtain rfl : k = ss.length := by omega
        go_wp2_with fail
        go_ret
        exact ⟨_, rfl, hE⟩
set_option maxRecDepth 100000 in
theorem fits5_any (g : GV) (w : World) (cs : List Value) (hR : RepGV Any w g cs) : Calls Try.prog 23 #[.agg cs.toArray] w (Tells w) := by
  cases hR with
  | @mk kd n f s ks l kv la lb lo lc hk hn hf hs hks hle hsz ha hcs hl =>
    have HK := hid hks
    obtain ⟨ka, kb, ko, kc, rfl, _⟩ := hks
    clear hcs hl hk hn hf hs
    go_enter Try.func23, Try.ntmps23
    by_cases h1 : s.size > 2147483647
    · go_wp2_with fail
      go_ret
      exact ⟨_, rfl, (Ext.refl _).alloc _⟩
    · have bx := hid (boxes1 w (.cells #[.int .i64 kd, .int .i64 n, .float .f64 f, .string s, .slice ka ks.length kc, .slice la l.length lc] 32))
      by_cases h2 : l.length > 2147483647
      all_goals
        go_wp2_with (go_at_call 14; refine (fits2_any _ ks _ (HK.out.ext ((Ext.refl _).alloc _))).mono ?_; rintro e w2 ⟨b, rfl, hE⟩; obtain ⟨x1, hEE⟩ := bx.out w2 (Below.mono hE (by simp)); obtain ⟨⟨z0, z1, z2, z3, z4, z5⟩, _⟩ := slot6 x1; have HEE := hid hEE; cases b <;> clear hE x1 hEE)
        all_goals
          go_ret
          exact ⟨_, rfl, HEE.out⟩
end Go.Proofs.Ytempfaefopfobaa
