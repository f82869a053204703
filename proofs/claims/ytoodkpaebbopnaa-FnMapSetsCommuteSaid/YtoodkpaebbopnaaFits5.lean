/- Fits5: where zzFits5 says yes the value has no more items than the bound. -/
import Derived.Test.YtoodkpaebbopnaaFits
namespace Go.Proofs.Ytoodkpaebbopnaa
open Go.ChangeShapes Go.WideShapes Go.ChangeAt Go.RowKit
set_option linter.unusedVariables false
set_option linter.unusedSimpArgs false
set_option maxRecDepth 100000 in
theorem fits5_len (g : GV) (w : World) (cs : List Value) (hR : RepGV Any w g cs) : Calls Try.prog 14 #[.agg cs.toArray] w fun e w' => ∃ b : Bool, e = .returned (.bool b) ∧ (b = true → g.l.length ≤ 2147483647) ∧ Ext w w' := by
  cases hR with
  | @mk kd n f s ks l kv la lb lo lc hk hn hf hs hks hle hsz ha hcs hl =>
    have HK := hid hks
    obtain ⟨ka, kb, ko, kc, rfl, _⟩ := hks
    clear hcs hl hk hn hf hs
    go_enter Try.func14, Try.ntmps14
    by_cases h1 : s.size > 2147483647
    · go_wp2_with fail
      go_ret
      refine ⟨_, rfl, ?_, (Ext.refl _).alloc _⟩
      intro h; cases h
    · have bx := hid (boxes1 w (.cells #[.int .i64 kd, .int .i64 n, .float .f64 f, .string s, .slice ka ks.length kc, .slice la l.length lc] 26))
      by_cases h2 : l.length > 2147483647
      all_goals
        go_wp2_with (go_at_call 45; refine (fits2_any _ ks _ (HK.out.ext ((Ext.refl _).alloc _))).mono ?_; rintro e w2 ⟨b, rfl, hE⟩; obtain ⟨x1, hEE⟩ := bx.out w2 (Below.mono hE (by simp)); obtain ⟨⟨z0, z1, z2, z3, z4, z5⟩, _⟩ := slot6 x1; have HEE := hid hEE; cases b <;> clear hE x1 hEE)
        all_goals
          go_ret
          refine ⟨_, rfl, ?_, HEE.out⟩
          first | exact fun _ => by simp only [GV.l]; omega | (intro h; cases h)
end Go.Proofs.Ytoodkpaebbopnaa
