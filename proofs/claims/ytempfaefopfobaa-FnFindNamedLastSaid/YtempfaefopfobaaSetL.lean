/- SetL: a row of cells stored one after the other; all of a row of strings as what is appended. -/
import Derived.Test.YtempfaefopfobaaAppend

namespace Go.Proofs.Ytempfaefopfobaa
open Go.ChangeShapes Go.WideShapes Go.ChangeAt Go.RowKit
set_option linter.unusedVariables false
set_option linter.unusedSimpArgs false

/-- the cells vs, stored one after the other from b's cell o on -/
def setL (W : World) (b : Nat) : Nat → List Value → World
  | _, [] => W
  | o, v :: vs => setL (W.setCell ⟨b, o, none⟩ v) b (o + 1) vs
theorem setL_other {W : World} {b i o : Nat} (h : i ≠ b) (vs : List Value) : (setL W b o vs).heap[i]? = W.heap[i]? := by
  induction vs generalizing W o with
  | nil => rfl
  | cons v vs ih => rw [setL, ih, Below.heap_setCell _ _ _ _ h]
theorem setL_below {B : Nat} {a W : World} (h : Below B a W) {b : Nat} (hb : B ≤ b) (o : Nat) (vs : List Value) : Below B a (setL W b o vs) := by
  induction vs generalizing W o with
  | nil => exact h
  | cons v vs ih => exact ih (h.setCell hb v) _
theorem setL_heap {W : World} {b : Nat} {t : TypeId} {fr : Nat × Nat} : ∀ (vs pre post : List Value), W.heap[b]? = some (.cells (pre ++ post).toArray t fr) → vs.length ≤ post.length →
    (setL W b pre.length vs).heap[b]? = some (.cells (pre ++ (vs ++ post.drop vs.length)).toArray t fr)
  | [], pre, post, h, _ => by simpa [setL] using h
  | v :: vs, pre, [], h, hl => by simp at hl
  | v :: vs, pre, x :: post, h, hl => by
    have h1 := setCell_heap h pre.length v
    have h2 : ((pre ++ x :: post).toArray.setIfInBounds pre.length v) = ((pre ++ [v]) ++ post).toArray := by
      apply Array.ext'
      simp [List.set_append]
    rw [h2] at h1
    have := setL_heap vs (pre ++ [v]) post h1 (by simpa using hl)
    rw [setL]
    simpa using this
theorem setL_all {W : World} {b : Nat} {t : TypeId} {cs : List Value} (h : W.heap[b]? = some (.cells cs.toArray t)) (vs : List Value) (hl : vs.length = cs.length) : (setL W b 0 vs).heap[b]? = some (.cells vs.toArray t) := by
  have := setL_heap vs [] cs (by simpa using h) (by omega)
  simpa [hl] using this
theorem slotL {W : World} {b : Nat} {t : TypeId} {cs : List Value} (h : W.heap[b]? = some (.cells cs.toArray t)) : ∀ j v, cs[j]? = some v → W.cell? ⟨b, j, none⟩ = some v ∧ W.frozen? ⟨b, j, none⟩ = false :=
  fun j v hv => ⟨(cell_of_heap h j).trans (by simpa using hv), free_of_heap h j⟩
theorem src_all {S : Nat → Prop} {w : World} {a : Option Addr} {n c : Nat} {ss : List ByteArray} (h : RepStrs S w (.slice a n c) ss) : SrcAt w a ss.length (ss.map Value.string) := by
  have := src_strs h (i := 0) (Nat.le_refl _) (ao := a) (fun b o h _ => by simpa using h) (by cases a <;> simp) (Nat.zero_le _)
  simpa using this
theorem infoStr : (Try.prog.info? 9).map (fun i => (i.zero, i.size, i.bytes)) = some (some (.string ByteArray.empty), 1, 16) := by kernel_rfl
end Go.Proofs.Ytempfaefopfobaa
