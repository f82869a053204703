/- ElemOf: boxes of path elements; impl.CompareElems, spec.elemRank. -/
import Derived.Test.YtempfaefopfobaaElemIn
import Derived.Test.YtempfaefopfobaaElemCmp

set_option maxRecDepth 100000
namespace Go.Proofs.Ytempfaefopfobaa
open Go.ChangeShapes Go.WideShapes Go.ChangeAt Go.RowKit
set_option linter.unusedVariables false
set_option linter.unusedSimpArgs false

theorem er_1 (s : ByteArray) (a1 a2 : Option Addr) (n1 c1 n2 c2 : Nat) (v0 v1 v2 v3 v4 v5 : Value) (n : Int) (w : World) : Calls Try.prog 131 #[.agg #[.int .i64 1, .string s, .slice a1 n1 c1, .slice a2 n2 c2, v0, v1, v2, v3, v4, v5, .int .i64 n]] w fun e w' => e = .returned (.int .i64 1) ∧ Ext w w' := by
  go_enter Try.func131, Try.ntmps131
  go_wp2_with fail
  go_ret
  exact ⟨rfl, (Ext.refl w).alloc _⟩
theorem er_2 (s : ByteArray) (a1 a2 : Option Addr) (n1 c1 n2 c2 : Nat) (v0 v1 v2 v3 v4 v5 : Value) (n : Int) (w : World) : Calls Try.prog 131 #[.agg #[.int .i64 2, .string s, .slice a1 n1 c1, .slice a2 n2 c2, v0, v1, v2, v3, v4, v5, .int .i64 n]] w fun e w' => e = .returned (.int .i64 2) ∧ Ext w w' := by
  go_enter Try.func131, Try.ntmps131
  go_wp2_with fail
  go_ret
  exact ⟨rfl, (Ext.refl w).alloc _⟩
theorem er_3 (s : ByteArray) (a1 a2 : Option Addr) (n1 c1 n2 c2 : Nat) (v0 v1 v2 v3 v4 v5 : Value) (n : Int) (w : World) : Calls Try.prog 131 #[.agg #[.int .i64 3, .string s, .slice a1 n1 c1, .slice a2 n2 c2, v0, v1, v2, v3, v4, v5, .int .i64 n]] w fun e w' => e = .returned (.int .i64 3) ∧ Ext w w' := by
  go_enter Try.func131, Try.ntmps131
  go_wp2_with fail
  go_ret
  exact ⟨rfl, (Ext.refl w).alloc _⟩
theorem er_k (k : Int) (s : ByteArray) (a1 a2 : Option Addr) (n1 c1 n2 c2 : Nat) (v0 v1 v2 v3 v4 v5 : Value) (n : Int) (w : World) (d1 : (k == 1) = false) (d2 : (k == 2) = false) (d3 : (k == 3) = false) : Calls Try.prog 131 #[.agg #[.int .i64 k, .string s, .slice a1 n1 c1, .slice a2 n2 c2, v0, v1, v2, v3, v4, v5, .int .i64 n]] w fun e w' => e = .returned (.int .i64 0) ∧ Ext w w' := by
  go_enter Try.func131, Try.ntmps131
  go_wp2_with fail
  go_ret
  exact ⟨rfl, (Ext.refl w).alloc _⟩
theorem rank_any (e : GE) (cs : List Value) (w : World) (hR : RepGE Any w e cs) : Calls Try.prog 131 #[.agg cs.toArray] w fun en w' => en = .returned (.int .i64 (toEl e).rank) ∧ Ext w w' := by
  obtain ⟨ka, kc, la, lc, v0, v1, v2, v3, v4, v5, rfl, -⟩ := hR
  unfold toEl
  by_cases h1 : e.kind = 1
  · rw [if_pos h1, h1]; exact er_1 _ _ _ _ _ _ _ _ _ _ _ _ _ _ w
  rw [if_neg h1]
  by_cases h2 : e.kind = 2
  · rw [if_pos h2, h2]; exact er_2 _ _ _ _ _ _ _ _ _ _ _ _ _ _ w
  rw [if_neg h2]
  by_cases h3 : e.kind = 3
  · rw [if_pos h3, h3]; exact er_3 _ _ _ _ _ _ _ _ _ _ _ _ _ _ w
  rw [if_neg h3]
  exact er_k _ _ _ _ _ _ _ _ _ _ _ _ _ _ _ w (by simpa using h1) (by simpa using h2) (by simpa using h3)
end Go.Proofs.Ytempfaefopfobaa
