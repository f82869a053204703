/- SortP: pairs put in the order of their names one after the other (of equal names the first one stays first). -/
import Derived.Test.YtempfaefopfobaaDoorFromT

namespace Go.Proofs.YtempfaefopfobaaDoor
open Go.ChangeShapes Go.WideShapes Go.ChangeAt Go.RowKit
set_option linter.unusedVariables false
set_option linter.unusedSimpArgs false

section
variable {α β : Type}
def insP (ss : List (ByteArray × α)) (p : ByteArray × α) (k : Nat) : List (ByteArray × α) := ss.take k ++ p :: ss.drop k
/-- where a pair of that name goes: ahead of all that come after it -/
def posP : List (ByteArray × α) → ByteArray → Nat
  | [], _ => 0
  | q :: ss, k => if ((q :: ss).all fun a => blt k a.1) = true then 0 else posP ss k + 1
def sortP (l : List (ByteArray × α)) : List (ByteArray × α) := l.foldl (fun acc p => insP acc p (posP acc p.1)) []
theorem posP_eq {ss : List (ByteArray × α)} {k : ByteArray} {j : Nat} (hj : j ≤ ss.length) (h1 : ∀ a ∈ ss.drop j, blt k a.1 = true) (h2 : j = 0 ∨ ∃ a, ss[j - 1]? = some a ∧ blt k a.1 = false) : posP ss k = j := by
  induction ss generalizing j with
  | nil => simp at hj; subst hj; rfl
  | cons q ss ih =>
    unfold posP
    cases j with
    | zero => rw [if_pos (List.all_eq_true.2 fun a ha => h1 a (by simpa using ha))]
    | succ j =>
      obtain ⟨a, ha, hb⟩ : ∃ a, (q :: ss)[j]? = some a ∧ blt k a.1 = false := by
        rcases h2 with h | h
        · omega
        · simpa using h
      rw [if_neg (fun h => by have := List.all_eq_true.1 h a (List.mem_of_getElem? ha); rw [hb] at this; cases this)]
      rw [ih (j := j) (by simpa using hj) (fun b hb => h1 b (by simpa using hb)) ?_]
      cases j with
      | zero => exact .inl rfl
      | succ j => exact .inr ⟨a, by simpa using ha, hb⟩
theorem posP_le (ss : List (ByteArray × α)) (k : ByteArray) : posP ss k ≤ ss.length := by
  induction ss with
  | nil => simp [posP]
  | cons q ss ih => unfold posP; split <;> simp <;> omega
theorem insP_end (ss : List (ByteArray × α)) (p : ByteArray × α) : insP ss p ss.length = ss ++ [p] := by simp [insP]
theorem insP_length (ss : List (ByteArray × α)) (p : ByteArray × α) (k : Nat) : (insP ss p k).length = ss.length + 1 := by simp [insP]; omega
theorem insP_perm (ss : List (ByteArray × α)) (p : ByteArray × α) (k : Nat) : (insP ss p k).Perm (p :: ss) := by
  unfold insP
  have h1 : (List.take k ss ++ p :: List.drop k ss).Perm (p :: (List.take k ss ++ List.drop k ss)) := List.perm_middle
  rwa [List.take_append_drop] at h1
theorem insP_at (ss : List (ByteArray × α)) (p : ByteArray × α) {k : Nat} (hk : k ≤ ss.length) : (insP ss p k)[k]? = some p := by
  unfold insP
  rw [List.getElem?_append_right (by simp; omega)]
  simp [Nat.min_eq_left hk]
theorem insP_before (ss : List (ByteArray × α)) (p : ByteArray × α) {k j : Nat} (hj : j < k) (hk : k ≤ ss.length) : (insP ss p k)[j]? = ss[j]? := by
  unfold insP
  rw [List.getElem?_append_left (by simp; omega), List.getElem?_take, if_pos hj]
theorem insP_swap {ss : List (ByteArray × α)} {p a : ByteArray × α} {j : Nat} (h : ss[j]? = some a) : ((insP ss p (j + 1)).set (j + 1) a).set j p = insP ss p j := by
  have hj := (List.getElem?_eq_some_iff.1 h).1
  unfold insP
  rw [List.take_add_one, h]
  simp only [Option.toList_some, List.append_assoc, List.cons_append, List.nil_append]
  rw [List.set_append_right _ _ (by simp; omega)]
  rw [List.set_append_right _ _ (by simp; omega)]
  have e : (List.take j ss).length = j := by simp; omega
  rw [e, show j + 1 - j = 1 by omega, show j - j = 0 by omega]
  simp only [List.set_cons_succ, List.set_cons_zero]
  rw [List.drop_eq_getElem_cons hj]
  have : ss[j] = a := by rw [List.getElem?_eq_getElem hj] at h; exact Option.some.inj h
  rw [this]
theorem insP_map (f : ByteArray × α → ByteArray × β) (ss : List (ByteArray × α)) (p : ByteArray × α) (k : Nat) : (insP ss p k).map f = insP (ss.map f) (f p) k := by
  simp [insP, List.map_take, List.map_drop]
theorem posP_map (f : ByteArray × α → ByteArray × β) (hf : ∀ a, (f a).1 = a.1) (ss : List (ByteArray × α)) (k : ByteArray) : posP (ss.map f) k = posP ss k := by
  induction ss with
  | nil => rfl
  | cons q ss ih =>
    have e : (((q :: ss).map f).all fun a => blt k a.1) = ((q :: ss).all fun a => blt k a.1) := by
      rw [List.all_map]; congr 1; funext a; exact congrArg (blt k) (hf a)
    show (if (((q :: ss).map f).all fun a => blt k a.1) = true then 0 else posP (ss.map f) k + 1) = _
    rw [e, ih]; rfl
theorem sortP_snoc (l : List (ByteArray × α)) (p : ByteArray × α) : sortP (l ++ [p]) = insP (sortP l) p (posP (sortP l) p.1) := by
  simp [sortP, List.foldl_append]
theorem sortP_take {l : List (ByteArray × α)} {k : Nat} {p : ByteArray × α} (h : l[k]? = some p) : sortP (l.take (k + 1)) = insP (sortP (l.take k)) p (posP (sortP (l.take k)) p.1) := by
  obtain ⟨hlt, rfl⟩ := List.getElem?_eq_some_iff.1 h
  rw [List.take_succ_eq_append_getElem hlt, sortP_snoc]
theorem rev_ind {p : List (ByteArray × α) → Prop} (h0 : p []) (h1 : ∀ l a, p l → p (l ++ [a])) (l : List (ByteArray × α)) : p l := by
  have : ∀ k, k ≤ l.length → p (l.take k) := by
    intro k
    induction k with
    | zero => intro _; simpa using h0
    | succ k ih =>
      intro hk
      rw [List.take_succ_eq_append_getElem (by omega)]
      exact h1 _ _ (ih (by omega))
  have := this l.length (Nat.le_refl _)
  rwa [List.take_length] at this
theorem sortP_perm (l : List (ByteArray × α)) : (sortP l).Perm l := by
  refine rev_ind (p := fun l => (sortP l).Perm l) (List.Perm.refl _) (fun l a ih => ?_) l
  rw [sortP_snoc]
  exact (insP_perm _ _ _).trans ((ih.cons a).trans (List.perm_append_comm (l₁ := [a]) (l₂ := l)))
theorem sortP_length (l : List (ByteArray × α)) : (sortP l).length = l.length := (sortP_perm l).length_eq
theorem sortP_map (f : ByteArray × α → ByteArray × β) (hf : ∀ a, (f a).1 = a.1) (l : List (ByteArray × α)) : sortP (l.map f) = (sortP l).map f := by
  refine rev_ind (p := fun l => sortP (l.map f) = (sortP l).map f) rfl (fun l a ih => ?_) l
  rw [List.map_append, List.map_cons, List.map_nil, sortP_snoc, sortP_snoc, ih, posP_map f hf, hf, insP_map]
/-- the names in order: of each two the later one does not come before -/
def UpP (l : List (ByteArray × α)) : Prop := l.Pairwise fun a b => blt b.1 a.1 = false
theorem posP_spec (ss : List (ByteArray × α)) (k : ByteArray) : (∀ a ∈ ss.drop (posP ss k), blt k a.1 = true) ∧ (posP ss k = 0 ∨ ∃ a, ss[posP ss k - 1]? = some a ∧ blt k a.1 = false) := by
  induction ss with
  | nil => simp [posP]
  | cons q ss ih =>
    unfold posP
    split
    · rename_i h
      exact ⟨fun a ha => List.all_eq_true.1 h a (by simpa using ha), .inl rfl⟩
    · rename_i h
      refine ⟨fun a ha => ih.1 a (by simpa using ha), .inr ?_⟩
      rcases ih.2 with h0 | ⟨a, ha, hb⟩
      · rw [h0]
        refine ⟨q, rfl, ?_⟩
        cases hq : blt k q.1 with
        | false => rfl
        | true =>
          refine absurd (List.all_eq_true.2 fun a ha => ?_) h
          rcases List.mem_cons.1 ha with rfl | ha
          · exact hq
          · exact ih.1 a (by rw [h0]; simpa using ha)
      · have hp : 0 < posP ss k := by
          rcases Nat.eq_zero_or_pos (posP ss k) with h0 | h0
          · have hlt := (List.getElem?_eq_some_iff.1 ha).1
            rw [h0] at ha
            have := ih.1 a (by rw [h0]; simpa using List.mem_of_getElem? ha)
            rw [hb] at this; cases this
          · exact h0
        refine ⟨a, ?_, hb⟩
        show (q :: ss)[posP ss k + 1 - 1]? = some a
        rw [Nat.add_sub_cancel]
        obtain ⟨m, hm⟩ : ∃ m, posP ss k = m + 1 := ⟨posP ss k - 1, by omega⟩
        rw [hm] at ha ⊢
        simpa using ha
theorem sortP_up (l : List (ByteArray × α)) : UpP (sortP l) := by
  refine rev_ind (p := fun l => UpP (sortP l)) List.Pairwise.nil (fun l p ih => ?_) l
  rw [sortP_snoc]
  obtain ⟨h1, h2⟩ := posP_spec (sortP l) p.1
  generalize posP (sortP l) p.1 = j at *
  generalize sortP l = ss at *
  unfold UpP insP at *
  have h0 := ih
  rw [← List.take_append_drop j ss, List.pairwise_append] at h0
  rw [List.pairwise_append]
  have hlow : ∀ a ∈ ss.take j, blt p.1 a.1 = false := by
    intro a ha
    rcases h2 with rfl | ⟨b, hb, hlt⟩
    · simp at ha
    · obtain ⟨i, hi⟩ := List.mem_iff_getElem?.1 ha
      rw [List.getElem?_take] at hi
      split at hi
      · rename_i hij
        rcases Nat.lt_or_ge i (j - 1) with h | h
        · have hk := List.pairwise_iff_getElem.1 ih i (j - 1) (List.getElem?_eq_some_iff.1 hi).1 (List.getElem?_eq_some_iff.1 hb).1 h
          rw [(List.getElem?_eq_some_iff.1 hi).2, (List.getElem?_eq_some_iff.1 hb).2] at hk
          cases hc : blt p.1 a.1 with
          | false => rfl
          | true =>
            exfalso
            rcases blt_tri a.1 b.1 with h | h | h
            · rw [blt_trans hc h] at hlt; cases hlt
            · rw [h] at hc; rw [hc] at hlt; cases hlt
            · rw [h] at hk; cases hk
        · obtain rfl : i = j - 1 := by omega
          rw [hi] at hb; cases hb; exact hlt
      · cases hi
  refine ⟨h0.1, List.pairwise_cons.2 ⟨fun a ha => ?_, h0.2.1⟩, fun a ha b hb => ?_⟩
  · exact blt_asymm (h1 a ha)
  · rcases List.mem_cons.1 hb with rfl | hb
    · exact hlow a ha
    · exact h0.2.2 a ha b hb
/-- different names in order are in increasing order -/
theorem UpP.sorted {l : List (ByteArray × α)} (h : UpP l) (hn : (l.map (·.1)).Nodup) : SortedK (l.map (·.1)) := by
  unfold SortedK
  rw [List.pairwise_map]
  have hn' : l.Pairwise fun a b => a.1 ≠ b.1 := by have := List.nodup_iff_pairwise_ne.1 hn; rwa [List.pairwise_map] at this
  refine (List.Pairwise.and h hn').imp fun {a b} ⟨h1, h2⟩ => ?_
  rcases blt_tri a.1 b.1 with h | h | h
  · exact h
  · exact absurd h h2
  · rw [h] at h1; cases h1
theorem pairs_unique : ∀ {a b : List (ByteArray × α)}, SortedK (a.map (·.1)) → SortedK (b.map (·.1)) → a.Perm b → a = b
  | [], [], _, _, _ => rfl
  | [], _ :: _, _, _, h => by simpa using h.length_eq
  | _ :: _, [], _, _, h => by simpa using h.length_eq
  | x :: a, y :: b, h1, h2, h => by
    have e : x = y := by
      have hx := h.mem_iff.1 (List.mem_cons_self (a := x) (l := a))
      have hy := h.mem_iff.2 (List.mem_cons_self (a := y) (l := b))
      rcases List.mem_cons.1 hx with hx | hx
      · exact hx
      · rcases List.mem_cons.1 hy with hy | hy
        · exact hy.symm
        · have k1 := (List.pairwise_cons.1 h1).1 y.1 (List.mem_map_of_mem (f := (·.1)) hy)
          have k2 := (List.pairwise_cons.1 h2).1 x.1 (List.mem_map_of_mem (f := (·.1)) hx)
          rw [blt_asymm k1] at k2; cases k2
    subst e
    rw [pairs_unique (List.pairwise_cons.1 h1).2 (List.pairwise_cons.1 h2).2 (List.perm_cons x |>.1 h)]
theorem sortP_sorted {l : List (ByteArray × α)} (hn : (l.map (·.1)).Nodup) : SortedK ((sortP l).map (·.1)) :=
  (sortP_up l).sorted (((sortP_perm l).map (·.1)).nodup_iff.2 hn)
theorem sortP_of_perm {a b : List (ByteArray × α)} (hn : (a.map (·.1)).Nodup) (h : a.Perm b) : sortP a = sortP b :=
  pairs_unique (sortP_sorted hn) (sortP_sorted ((h.map (·.1)).nodup_iff.1 hn)) ((sortP_perm a).trans (h.trans (sortP_perm b).symm))
theorem sortP_id {l : List (ByteArray × α)} (h : SortedK (l.map (·.1))) : sortP l = l :=
  pairs_unique (sortP_sorted h.nodup) h (sortP_perm l)
/-- a round of the sort comes to its end -/
theorem sortP_done {l : List (ByteArray × α)} {k j : Nat} {p : ByteArray × α} (hp : l[k]? = some p) (hj : j ≤ k) (h1 : ∀ a ∈ (sortP (l.take k)).drop j, blt p.1 a.1 = true) (h2 : j = 0 ∨ ∃ a, (sortP (l.take k))[j - 1]? = some a ∧ blt p.1 a.1 = false) :
    insP (sortP (l.take k)) p j = sortP (l.take (k + 1)) := by
  have hk := (List.getElem?_eq_some_iff.1 hp).1
  rw [sortP_take hp, posP_eq (by rw [sortP_length, List.length_take]; omega) h1 h2]
end
end Go.Proofs.YtempfaefopfobaaDoor
