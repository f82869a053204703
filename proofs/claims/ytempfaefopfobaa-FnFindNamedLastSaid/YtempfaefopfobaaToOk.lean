/- ToOk: what the package makes of a type, a reference, a list's type, a map's type and a field, at whatever depth. -/
import Derived.Test.YtempfaefopfobaaToMap

namespace Go.Proofs.Ytempfaefopfobaa
open Go.ChangeShapes Go.WideShapes Go.ChangeAt Go.RowKit
set_option linter.unusedVariables false
set_option linter.unusedSimpArgs false

theorem to_ok : ∀ (N : Nat) (g : GS), SizeOf.sizeOf g ≤ N → ToOK 82 1 g ∧ ToOK 106 2 g ∧ ToOK 74 3 g ∧ ToOK 135 5 g ∧ ToOK 126 4 g := by
  intro N
  induction N with
  | zero => intro g h; cases g <;> simp at h
  | succ N ih =>
    intro g h
    have hl : ∀ {l : List GS} {i : Nat} {x : GS}, l[i]? = some x → SizeOf.sizeOf l ≤ N → SizeOf.sizeOf x ≤ N := fun h1 h2 => Nat.le_of_lt (Nat.lt_of_lt_of_le (sizeOf_of_getElem? h1) h2)
    cases g with
    | ref nm name a rel =>
      refine ⟨toRef_of nm name rel a (ih a (by simp at h; omega)).2.1, ?_, ?_, ?_, ?_⟩ <;> exact fun h => absurd h (by simp [GS.tag])
    | atom sc ls ms =>
      refine ⟨?_, toAtom_of sc ls ms (fun g hg => (ih g (hl hg (by simp at h; omega))).2.2.1) (fun g hg => (ih g (hl hg (by simp at h; omega))).2.2.2.2), ?_, ?_, ?_⟩ <;> exact fun h => absurd h (by simp [GS.tag])
    | lst e rel keys =>
      refine ⟨?_, ?_, toList_of e rel keys (ih e (by simp at h; omega)).1, ?_, ?_⟩ <;> exact fun h => absurd h (by simp [GS.tag])
    | mp fs e rel =>
      refine ⟨?_, ?_, ?_, ?_, toMap_of fs e rel (ih e (by simp at h; omega)).1 (fun i g hg => (ih g (hl hg (by simp at h; omega))).2.2.2.1)⟩ <;> exact fun h => absurd h (by simp [GS.tag])
    | fld name t ds =>
      refine ⟨?_, ?_, ?_, toField_of name t ds (ih t (by simp at h; omega)).1, ?_⟩ <;> exact fun h => absurd h (by simp [GS.tag])
theorem toRef_any (g : GS) : ToOK 82 1 g := (to_ok _ g (Nat.le_refl _)).1
theorem toAtom_any (g : GS) : ToOK 106 2 g := (to_ok _ g (Nat.le_refl _)).2.1
theorem toListType_any (g : GS) : ToOK 74 3 g := (to_ok _ g (Nat.le_refl _)).2.2.1
end Go.Proofs.Ytempfaefopfobaa
