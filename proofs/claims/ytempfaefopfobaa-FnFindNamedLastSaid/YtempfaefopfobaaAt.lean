/- At: slices of values and of strings, opened at an index. -/
import Derived.Test.YtempfaefopfobaaClean

set_option maxRecDepth 100000
namespace Go.Proofs.Ytempfaefopfobaa
open Go.ChangeShapes Go.WideShapes Go.ChangeAt Go.RowKit
set_option linter.unusedVariables false
set_option linter.unusedSimpArgs false

theorem RepVals.at' {S : Nat → Prop} {w : World} {v : Value} {l : List GV} (h : RepVals S w v l) : ∃ la lb lo lc, v = .slice la l.length lc ∧ l.length * 88 ≤ 140737488351232 ∧
    ∀ (i : Nat) (g : GV), l[i]? = some g → la = some ⟨lb, lo, none⟩ ∧ ∃ k n f s a b c a' b' c', cellsAt w lb (lo + i * 6) [.int .i64 k, .int .i64 n, .float .f64 f, .string s, .slice a b c, .slice a' b' c'] ∧ RepGV S w g [.int .i64 k, .int .i64 n, .float .f64 f, .string s, .slice a b c, .slice a' b' c'] := by
  obtain ⟨la, lb, lo, lc, hv, hle, hsz, ha, hcs, hl⟩ := h
  refine ⟨la, lb, lo, lc, hv, hsz, fun i g hg => ?_⟩
  have hi := (List.getElem?_eq_some_iff.1 hg).1
  obtain ⟨cs, hc1, hc2⟩ := hcs i hi
  have hR := hl i g cs hg hc1 hc2
  obtain ⟨k, n, f, s, a, b, c, a', b', c', rfl⟩ := hR.form
  exact ⟨(ha (by omega)).1, _, _, _, _, _, _, _, _, _, _, hc2, hR⟩
theorem RepStrs.at' {S : Nat → Prop} {w : World} {v : Value} {ss : List ByteArray} (h : RepStrs S w v ss) : ∃ la lb lo lc, v = .slice la ss.length lc ∧ ss.length * 16 ≤ 140737488351232 ∧
    ∀ (i : Nat) (s : ByteArray), ss[i]? = some s → la = some ⟨lb, lo, none⟩ ∧ w.cell? ⟨lb, lo + i, none⟩ = some (.string s) ∧ s.size ≤ 140737488351232 := by
  obtain ⟨a, b, o, cap, h1, h2, h3, h4, h5, h6⟩ := h
  exact ⟨a, b, o, cap, h1, h3, fun i s hs => ⟨(h4 (by have := (List.getElem?_eq_some_iff.1 hs).1; omega)).1, h5 i s hs, h6 s (List.mem_of_getElem? hs)⟩⟩
end Go.Proofs.Ytempfaefopfobaa
