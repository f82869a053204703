/- ElemArg: arguments of type impl.Elem; spec.CompareElems of any two. -/
import Derived.Test.YtempfaefopfobaaElRep

set_option maxRecDepth 100000
namespace Go.Proofs.Ytempfaefopfobaa
open Go.ChangeShapes Go.WideShapes Go.ChangeAt Go.RowKit
set_option linter.unusedVariables false
set_option linter.unusedSimpArgs false

section
variable {H : Type} {enc : TypeId × Value → H} {w : World} {base : Nat} {spare : Nat → Bool} {held : Bool}
theorem open_gvl (fuel : Nat) (cs : List Value) (x : DataW H × List MemPlace) (h : DataW.trod enc Try.prog w base spare held fuel 27 cs = some x) (hw : Wt Try.prog 27 x.1) : ∃ v l, cs = [v] ∧ RepVals Any w v l := by
  obtain ⟨a, b, o, len, cap, rfl, hl, hb, ha, hel⟩ := open_sl Try.underlying27 (by rw [cellsV]; omega) h hw
  rw [bytesV] at hb
  rw [cellsV] at hel
  have key : ∀ i, i < len → ∃ g, ∃ cs', cs'.length = 6 ∧ cellsAt w b (o + i * 6) cs' ∧ RepGV Any w g cs' := by
    intro i hi
    obtain ⟨n', cs', y, hn', h6, h7, h8, h9⟩ := hel i hi
    obtain ⟨g, hg⟩ := open_gv n' cs' y h8 h9
    exact ⟨g, cs', h6, h7, hg⟩
  haveI : Inhabited GV := ⟨.mk 0 0 0 ByteArray.empty [] []⟩
  obtain ⟨fg, hfg⟩ := Deep.choose_lt (α := GV) key
  refine ⟨_, (List.range len).map fg, rfl, a, b, o, cap, by simp, by simpa using hl, by simpa using hb, fun h0 => ⟨ha (by simpa using h0), trivial⟩, fun i hi => ?_, fun i g cs' hg hlen hc => ?_⟩
  · obtain ⟨cs', h6, h7, _⟩ := hfg i (by simpa using hi)
    exact ⟨cs', h6, h7⟩
  · simp only [List.getElem?_map, Option.map_eq_some_iff] at hg
    obtain ⟨j, hj, rfl⟩ := hg
    obtain ⟨hj1, hj2⟩ := List.getElem?_eq_some_iff.1 hj
    simp at hj1 hj2
    subst hj2
    obtain ⟨cs2, h6, h7, h8⟩ := hfg i hj1
    obtain rfl := cellsAt_unique hc h7 (hlen.trans h6.symm)
    exact h8
theorem cellsE : Try.prog.cellsOf 34 = 11 := by kernel_rfl
theorem open_ge (fuel : Nat) (cs : List Value) (x : DataW H × List MemPlace) (h : DataW.trod enc Try.prog w base spare held fuel 34 cs = some x) (hw : Wt Try.prog 34 x.1) : ∃ e, RepGE Any w e cs := by
  obtain ⟨n, rfl, hlen, hf⟩ := open_field Try.underlying34 h hw
  rw [cellsE] at hlen
  obtain ⟨c0, c1, c2, c3, c4, c5, c6, c7, c8, c9, c10, rfl⟩ : ∃ c0 c1 c2 c3 c4 c5 c6 c7 c8 c9 c10, cs = [c0, c1, c2, c3, c4, c5, c6, c7, c8, c9, c10] := by
    match cs, hlen with
    | [c0, c1, c2, c3, c4, c5, c6, c7, c8, c9, c10], _ => exact ⟨c0, c1, c2, c3, c4, c5, c6, c7, c8, c9, c10, rfl⟩
  obtain ⟨y0, h0, _⟩ := hf 0 3 0 rfl
  obtain ⟨y1, h1, w1⟩ := hf 1 9 1 rfl
  obtain ⟨y2, h2, w2⟩ := hf 2 26 2 rfl
  obtain ⟨y3, h3, w3⟩ := hf 3 27 3 rfl
  obtain ⟨y4, h4, w4⟩ := hf 4 32 4 rfl
  obtain ⟨y5, h5, w5⟩ := hf 5 3 10 rfl
  simp only [cells_int, cells_strs, cells_vals, cellsStr, cellsV, List.drop, List.take] at h0 h1 h2 h3 h4 h5
  obtain ⟨k, e0, _, wk⟩ := DataW.trod_int Try.underlying3 h0
  obtain ⟨s, e1, hs⟩ := open_str Try.underlying9 h1 w1
  obtain ⟨kv, ks, e2, hks⟩ := open_strs Try.underlying26 Try.underlying9 cellsStr bytesStr h2 w2
  obtain ⟨lv, l, e3, hl⟩ := open_gvl _ _ _ h3 w3
  obtain ⟨g, hg⟩ := open_gv _ _ _ h4 w4
  obtain ⟨m, e5, _, wm⟩ := DataW.trod_int Try.underlying3 h5
  simp only [List.cons.injEq, and_true] at e0 e1 e2 e3 e5
  subst e0 e1 e2 e3 e5
  obtain ⟨ka, kb, ko, kc, rfl, hk2⟩ := id hks
  obtain ⟨la, lb, lo, lc, rfl, hl2⟩ := id hl
  exact ⟨⟨k, s, ks, l, g, m⟩, ka, kc, la, lc, _, _, _, _, _, _, rfl, wk, wm, hs, hks, hl, hg⟩
end
end Go.Proofs.Ytempfaefopfobaa
