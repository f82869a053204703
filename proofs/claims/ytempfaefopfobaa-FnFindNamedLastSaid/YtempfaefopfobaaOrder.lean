/- Order: the order of strings by their bytes; lists of names in increasing order; fields put in by name. -/
import Derived.Test.YtempfaefopfobaaPlain

namespace Go.Proofs.Ytempfaefopfobaa
open Go.ChangeShapes Go.WideShapes Go.ChangeAt Go.RowKit
set_option linter.unusedVariables false
set_option linter.unusedSimpArgs false

theorem bl_irrefl : ∀ (x : List UInt8), Op.bytesLess x x = false
  | [] => rfl
  | a :: x => by simp [Op.bytesLess, bl_irrefl x]
theorem bl_trans : ∀ {x y z : List UInt8}, Op.bytesLess x y = true → Op.bytesLess y z = true → Op.bytesLess x z = true
  | _, [], _, h, _ => by simp [Op.bytesLess] at h
  | _, _ :: _, [], _, h => by simp [Op.bytesLess] at h
  | [], _ :: _, _ :: _, _, _ => rfl
  | a :: x, b :: y, c :: z, h1, h2 => by
    simp only [Op.bytesLess, Bool.or_eq_true, decide_eq_true_eq, Bool.and_eq_true, beq_iff_eq] at h1 h2 ⊢
    rcases h1 with h1 | ⟨rfl, h1⟩
    · rcases h2 with h2 | ⟨rfl, h2⟩
      · left; exact UInt8.lt_trans h1 h2
      · exact .inl h1
    · rcases h2 with h2 | ⟨rfl, h2⟩
      · exact .inl h2
      · exact .inr ⟨rfl, bl_trans h1 h2⟩
theorem bl_tri : ∀ (x y : List UInt8), Op.bytesLess x y = true ∨ x = y ∨ Op.bytesLess y x = true
  | [], [] => .inr (.inl rfl)
  | [], _ :: _ => .inl rfl
  | _ :: _, [] => .inr (.inr rfl)
  | a :: x, b :: y => by
    simp only [Op.bytesLess, Bool.or_eq_true, decide_eq_true_eq, Bool.and_eq_true, beq_iff_eq, List.cons.injEq]
    by_cases h : a = b
    · subst h
      rcases bl_tri x y with h | h | h
      · exact .inl (.inr ⟨rfl, h⟩)
      · exact .inr (.inl ⟨rfl, h⟩)
      · exact .inr (.inr (.inr ⟨rfl, h⟩))
    · have : a < b ∨ b < a := by
        simp only [UInt8.lt_iff_toNat_lt]
        have : a.toNat ≠ b.toNat := fun e => h (UInt8.toNat_inj.1 e)
        omega
      rcases this with h | h
      · exact .inl (.inl h)
      · exact .inr (.inr (.inl h))
/-- Go's < on strings -/
def blt (a b : ByteArray) : Bool := Op.bytesLess a.toList b.toList
theorem blt_irrefl (a : ByteArray) : blt a a = false := bl_irrefl _
theorem blt_trans {a b c : ByteArray} (h : blt a b = true) (k : blt b c = true) : blt a c = true := bl_trans h k
theorem blt_tri (a b : ByteArray) : blt a b = true ∨ a = b ∨ blt b a = true := by
  rcases bl_tri a.toList b.toList with h | h | h
  · exact .inl h
  · exact .inr (.inl (ba_toList_inj h))
  · exact .inr (.inr h)
theorem blt_asymm {a b : ByteArray} (h : blt a b = true) : blt b a = false := by
  cases hb : blt b a with
  | false => rfl
  | true => have := blt_trans h hb; rw [blt_irrefl] at this; exact this.symm
theorem blt_ne {a b : ByteArray} (h : blt a b = true) : a ≠ b := fun e => by subst e; rw [blt_irrefl] at h; cases h

/-- names in increasing order, each once -/
def SortedK (ks : List ByteArray) : Prop := ks.Pairwise fun a b => blt a b = true
theorem SortedK.nodup {ks : List ByteArray} (h : SortedK ks) : ks.Nodup := List.Pairwise.imp (fun h => blt_ne h) h
theorem SortedK.get {ks : List ByteArray} (h : SortedK ks) {i j : Nat} {a b : ByteArray} (hi : ks[i]? = some a) (hj : ks[j]? = some b) (hij : i < j) : blt a b = true := by
  obtain ⟨h1, rfl⟩ := List.getElem?_eq_some_iff.1 hi
  obtain ⟨h2, rfl⟩ := List.getElem?_eq_some_iff.1 hj
  exact List.pairwise_iff_getElem.1 h i j h1 h2 hij
/-- how many names come before key -/
def cnt (ks : List ByteArray) (key : ByteArray) : Nat := (ks.takeWhile fun a => blt a key).length
theorem cnt_le (ks : List ByteArray) (key : ByteArray) : cnt ks key ≤ ks.length := by
  induction ks with
  | nil => simp [cnt]
  | cons a ks ih =>
    unfold cnt at *
    rw [List.takeWhile_cons]
    split <;> simp <;> omega
theorem cnt_eq {ks : List ByteArray} {key : ByteArray} {i : Nat} (hi : i ≤ ks.length) (h1 : ∀ j a, j < i → ks[j]? = some a → blt a key = true) (h2 : ∀ a, ks[i]? = some a → blt a key = false) : cnt ks key = i := by
  induction ks generalizing i with
  | nil => simp at hi; subst hi; rfl
  | cons a ks ih =>
    unfold cnt at *
    rw [List.takeWhile_cons]
    cases i with
    | zero => rw [h2 a rfl]; rfl
    | succ i =>
      rw [h1 0 a (by omega) rfl]
      simp at hi
      simp [ih hi (fun j b hj hb => h1 (j + 1) b (by omega) hb) (fun b hb => h2 b hb)]
theorem cnt_lt {ks : List ByteArray} {key : ByteArray} {j : Nat} {a : ByteArray} (hj : j < cnt ks key) (ha : ks[j]? = some a) : blt a key = true := by
  induction ks generalizing j with
  | nil => simp at ha
  | cons b ks ih =>
    unfold cnt at *
    rw [List.takeWhile_cons] at hj
    split at hj
    · rename_i hb
      cases j with
      | zero => simp at ha; subst ha; exact hb
      | succ j => exact ih (by simpa using hj) (by simpa using ha)
    · simp at hj
theorem cnt_ge {ks : List ByteArray} {key : ByteArray} (hs : SortedK ks) {j : Nat} {a : ByteArray} (hj : cnt ks key ≤ j) (ha : ks[j]? = some a) : blt a key = false := by
  induction ks generalizing j with
  | nil => simp at ha
  | cons b ks ih =>
    unfold cnt at *
    rw [List.takeWhile_cons] at hj
    have hs' := List.pairwise_cons.1 hs
    split at hj
    · rename_i hb
      cases j with
      | zero => simp at hj
      | succ j => exact ih hs'.2 (by simpa using hj) (by simpa using ha)
    · rename_i hb
      cases j with
      | zero => simp at ha; subst ha; simpa using hb
      | succ j =>
        have h1 := hs'.1 a (List.mem_of_getElem? (by simpa using ha))
        cases hc : blt a key with
        | false => rfl
        | true => exact absurd (blt_trans h1 hc) hb
end Go.Proofs.Ytempfaefopfobaa
