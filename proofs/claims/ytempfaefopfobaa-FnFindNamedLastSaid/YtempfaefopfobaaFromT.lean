/- FromT: what fromTree makes of a tree, in plain Lean: names sorted, each with its value. -/
import Derived.Test.YtempfaefopfobaaKeys
import Derived.Test.YtempfaefopfobaaClean

namespace Go.Proofs.Ytempfaefopfobaa
open Go.ChangeShapes Go.WideShapes Go.ChangeAt Go.RowKit
set_option linter.unusedVariables false
set_option linter.unusedSimpArgs false

theorem sorted_unique : ∀ {a b : List ByteArray}, SortedK a → SortedK b → a.Perm b → a = b
  | [], [], _, _, _ => rfl
  | [], y :: b, _, _, h => by have := h.length_eq; simp at this
  | x :: a, [], _, _, h => by have := h.length_eq; simp at this
  | x :: a, y :: b, ha, hb, h => by
    have h1 := List.pairwise_cons.1 ha
    have h2 := List.pairwise_cons.1 hb
    have hx : x ∈ y :: b := h.mem_iff.1 (by simp)
    have hy : y ∈ x :: a := h.mem_iff.2 (by simp)
    have e : x = y := by
      rcases List.mem_cons.1 hx with rfl | hx
      · rfl
      · rcases List.mem_cons.1 hy with rfl | hy
        · rfl
        · have := blt_asymm (h1.1 y hy)
          rw [h2.1 x hx] at this; cases this
    subst e
    rw [sorted_unique h1.2 h2.2 (List.perm_cons x |>.1 h)]
def insN (x : ByteArray) (l : List ByteArray) : List ByteArray := insAt l x (cnt l x)
def sortN : List ByteArray → List ByteArray
  | [] => []
  | x :: l => insN x (sortN l)
theorem sortN_perm : ∀ (l : List ByteArray), (sortN l).Perm l
  | [] => List.Perm.nil
  | x :: l => by
    have h := (insAt_perm (sortN l) x (cnt (sortN l) x)).trans (List.perm_append_comm (l₁ := sortN l) (l₂ := [x]))
    exact h.trans (List.Perm.cons x (sortN_perm l))
theorem sortN_sorted : ∀ (l : List ByteArray), l.Nodup → SortedK (sortN l)
  | [], _ => List.Pairwise.nil
  | x :: l, h => by
    rw [List.nodup_cons] at h
    have hs := sortN_sorted l h.2
    have hx : x ∉ sortN l := fun hm => h.1 ((sortN_perm l).mem_iff.1 hm)
    refine insAt_sorted hs (cnt_le _ _) (fun a ha => ?_) (fun a ha => ?_)
    · obtain ⟨j, hj⟩ := List.mem_iff_getElem?.1 ha
      rw [List.getElem?_drop] at hj
      have hge := cnt_ge (key := x) hs (Nat.le_add_right _ _) hj
      rcases blt_tri x a with h1 | h1 | h1
      · exact h1
      · subst h1; exact absurd (List.mem_of_getElem? hj) hx
      · rw [hge] at h1; cases h1
    · obtain ⟨j, hj⟩ := List.mem_iff_getElem?.1 ha
      rw [List.getElem?_take] at hj
      split at hj
      · exact cnt_lt ‹_› hj
      · cases hj
theorem sortN_eq {l ss : List ByteArray} (hn : l.Nodup) (h : SortedK ss) (hp : ss.Perm l) : ss = sortN l :=
  sorted_unique h (sortN_sorted l hn) (hp.trans (sortN_perm l).symm)
theorem sortN_length (l : List ByteArray) : (sortN l).length = l.length := (sortN_perm l).length_eq

def lookG : List (ByteArray × GV) → ByteArray → GV
  | [], _ => zeroG
  | p :: m, k => if p.1 = k then p.2 else lookG m k
mutual
def fromT : Tree → GV
  | .null => zeroG
  | .bool b => .mk 1 (if b then 1 else 0) 0 ByteArray.empty [] []
  | .int n => .mk 2 n 0 ByteArray.empty [] []
  | .flt f => .mk 3 0 f ByteArray.empty [] []
  | .str s => .mk 4 0 0 s [] []
  | .list l => .mk 5 0 0 ByteArray.empty [] (fromTs l)
  | .map m => .mk 6 0 0 ByteArray.empty (sortN (m.map (·.1))) ((sortN (m.map (·.1))).map (lookG (fromTm m)))
def fromTs : List Tree → List GV
  | [] => []
  | t :: l => fromT t :: fromTs l
def fromTm : List (ByteArray × Tree) → List (ByteArray × GV)
  | [] => []
  | (k, t) :: m => (k, fromT t) :: fromTm m
end
theorem fromTs_eq (l : List Tree) : fromTs l = l.map fromT := by
  induction l with
  | nil => rfl
  | cons g l ih => simp [fromTs, ih]
theorem fromTs_length (l : List Tree) : (fromTs l).length = l.length := by simp [fromTs_eq]
theorem fromTm_eq (m : List (ByteArray × Tree)) : fromTm m = m.map fun p => (p.1, fromT p.2) := by
  induction m with
  | nil => rfl
  | cons p m ih => obtain ⟨k, t⟩ := p; simp [fromTm, ih]
theorem lookG_fromTm (m : List (ByteArray × Tree)) (k : ByteArray) : lookG (fromTm m) k = (lookKV m k).elim zeroG fromT := by
  induction m with
  | nil => rfl
  | cons p m ih =>
    obtain ⟨k', t⟩ := p
    simp only [fromTm, lookG, lookKV]
    split
    · rfl
    · exact ih
theorem lookKV_some {m : List (ByteArray × Tree)} {k : ByteArray} (h : k ∈ m.map (·.1)) : ∃ t, lookKV m k = some t ∧ (k, t) ∈ m := by
  induction m with
  | nil => simp at h
  | cons p m ih =>
    by_cases hp : p.1 = k
    · exact ⟨p.2, by simp [lookKV, hp], by rw [← hp]; simp⟩
    · simp only [List.map_cons, List.mem_cons] at h
      rcases h with h | h
      · exact absurd h.symm hp
      · obtain ⟨t, h1, h2⟩ := ih h
        exact ⟨t, by simp [lookKV, hp, h1], by simp [h2]⟩
theorem Tree.size_list {l : List Tree} {i : Nat} {t : Tree} (h : l[i]? = some t) : SizeOf.sizeOf t < SizeOf.sizeOf (Tree.list l) := by
  have := sizeOf_of_getElem? h
  simp; omega
theorem Tree.size_map {m : List (ByteArray × Tree)} {k : ByteArray} {t : Tree} (h : (k, t) ∈ m) : SizeOf.sizeOf t < SizeOf.sizeOf (Tree.map m) := by
  have := List.sizeOf_lt_of_mem h
  simp at this ⊢; omega
end Go.Proofs.Ytempfaefopfobaa
