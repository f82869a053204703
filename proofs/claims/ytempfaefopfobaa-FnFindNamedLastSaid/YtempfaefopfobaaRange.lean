/- Range: going over a map, in whatever order: which fields have come so far. -/
import Derived.Test.YtempfaefopfobaaOrder
import Derived.Test.YtempfaefopfobaaAppend
import Derived.Maps.RangeWalk
import Derived.Maps.OwnOps

namespace Go.Proofs.Ytempfaefopfobaa
open Go.ChangeShapes Go.WideShapes Go.ChangeAt Go.RowKit
open Go.ChangeMaps (setBlock heap_setBlock_same heap_setBlock_other)
set_option linter.unusedVariables false
set_option linter.unusedSimpArgs false

/-- block q of w is an iterator over the map in block r, which reads as m; the fields at the places vis have come. -/
def RngM (S : Nat → Prop) (w : World) (m : List (ByteArray × Tree)) (r q : Nat) (vis : List Nat) : Prop :=
  ∃ es clock since c0, w.heap[r]? = some (.map es clock) ∧ es.toList.map (·.key) = m.map (fun p => Value.string p.1) ∧ es.toList.Pairwise (fun x y => x.born < y.born) ∧ (∀ x ∈ es.toList, x.born < clock) ∧
    (∀ (i : Nat) (p : ByteArray × Tree) (e : MapEntry), m[i]? = some p → es[i]? = some e → RepT S w p.2 e.val) ∧
    w.heap[q]? = some (.mapIter (some r) since (vis.map fun i => (es[i]?.map (·.born)).getD 0).toArray c0) ∧ (∀ x ∈ es.toList, x.born < since) ∧ since ≤ clock ∧ since ≤ c0 ∧ vis.Nodup ∧ ∀ i ∈ vis, i < m.length

theorem RngM.mono {S S' : Nat → Prop} {w w' : World} {m : List (ByteArray × Tree)} {r q : Nat} {vis : List Nat} (h : RngM S w m r q vis) (hs : Same S w w') (hS : ∀ b, S b → b < w.heap.size → S' b) (hr : w'.heap[r]? = w.heap[r]?) (hq : w'.heap[q]? = w.heap[q]?) : RngM S' w' m r q vis := by
  obtain ⟨es, clock, since, c0, h1, h2, h3, h4, h5, h6, h7⟩ := h
  exact ⟨es, clock, since, c0, hr.trans h1, h2, h3, h4, fun i p e hp he => (h5 i p e hp he).mono hs hS, hq.trans h6, h7⟩
theorem RngM.lt {S : Nat → Prop} {w : World} {m : List (ByteArray × Tree)} {r q : Nat} {vis : List Nat} (h : RngM S w m r q vis) : r < w.heap.size ∧ q < w.heap.size := by
  obtain ⟨es, clock, since, c0, h1, h2, h3, h4, h5, h6, h7⟩ := h
  exact ⟨(Array.getElem?_eq_some_iff.1 h1).1, (Array.getElem?_eq_some_iff.1 h6).1⟩
theorem RngM.ext {S : Nat → Prop} {w w' : World} {m : List (ByteArray × Tree)} {r q : Nat} {vis : List Nat} (h : RngM S w m r q vis) (he : Ext w w') : RngM S w' m r q vis :=
  h.mono (he.same S) (fun _ h _ => h) (Below.block he _ h.lt.1) (Below.block he _ h.lt.2)
theorem nodup_le : ∀ {a b : List Nat}, a.Nodup → (∀ i ∈ a, i ∈ b) → a.length ≤ b.length := by
  intro a
  induction a with
  | nil => intro b _ _; simp
  | cons x a ih =>
    intro b h hb
    rw [List.nodup_cons] at h
    have hx : x ∈ b := hb x (by simp)
    have hsub : ∀ i ∈ a, i ∈ b.erase x := by
      intro i hi
      refine (List.mem_erase_of_ne ?_).2 (hb i (by simp [hi]))
      intro e; subst e; exact h.1 hi
    have h1 := ih h.2 hsub
    rw [List.length_erase_of_mem hx] at h1
    have : 0 < b.length := List.length_pos_of_mem hx
    simp; omega
theorem nodup_perm : ∀ {a b : List Nat}, a.Nodup → (∀ i ∈ a, i ∈ b) → b.length ≤ a.length → a.Perm b := by
  intro a
  induction a with
  | nil => intro b _ _ hl; simp at hl; subst hl; exact List.Perm.nil
  | cons x a ih =>
    intro b h hb hl
    rw [List.nodup_cons] at h
    have hx : x ∈ b := hb x (by simp)
    have hsub : ∀ i ∈ a, i ∈ b.erase x := by
      intro i hi
      refine (List.mem_erase_of_ne ?_).2 (hb i (by simp [hi]))
      intro e; subst e; exact h.1 hi
    have h0 : 0 < b.length := List.length_pos_of_mem hx
    have h1 := ih h.2 hsub (by rw [List.length_erase_of_mem hx]; simp at hl; omega)
    exact (List.Perm.cons x h1).trans (List.perm_cons_erase hx).symm
theorem vis_length {vis : List Nat} {n : Nat} (h : vis.Nodup) (hl : ∀ i ∈ vis, i < n) : vis.length ≤ n := by
  simpa using nodup_le h (b := List.range n) (fun i hi => List.mem_range.2 (hl i hi))
theorem vis_perm {vis : List Nat} {n : Nat} (h : vis.Nodup) (hl : ∀ i ∈ vis, i < n) (hn : vis.length = n) : vis.Perm (List.range n) :=
  nodup_perm h (fun i hi => List.mem_range.2 (hl i hi)) (by simp [hn])

section
variable {P : Program} {S : Nat → Prop} {w : World} {m : List (ByteArray × Tree)} {r q : Nat} {vis : List Nat} {ops : Array Oper} {rest : List Oper} {o : Oper} {a : Act} {Q : Exit → Act → World → Prop} {T K E : TypeId}
/-- range m -/
theorem wpList_range_M (hg : o.guard = none) (mo : Operand) (hop : o.op = Op.range T mo) (hT : P.underlying T = some (.map K E)) (hm : a.eval mo = .map (some r)) (h : RepM S w m r)
    (hK : ∀ w', RngM S w' m r w.heap.size [] → Ext w w' → w'.heap.size = w.heap.size + 1 → wpList P ops Q rest (a.put o.dst (.pointer (some ⟨w.heap.size, 0, none⟩))) w') :
    wpList P ops Q (o :: rest) a w := by
  refine wpList_plain hg fun K' hK' => ?_
  obtain ⟨es, clock, h1, h2, h3, h4, h5, h6, h7, h8⟩ := h
  have hE : Ext w (w.alloc (.mapIter (some r) clock #[] clock)) := (Ext.refl w).alloc _
  have hrun : (Instr.range T (.map (some r))).run P w = .ok (.pointer (some ⟨w.heap.size, 0, none⟩)) (w.alloc (.mapIter (some r) clock #[] clock)) := by
    simp only [Instr.range, Sem.run_bind, run_und hT, Result.andThen_ok, getObj, Sem.run, h1, Sem.run_pure, Sem.run_pure', newObj]
    rfl
  unfold Oper.wp
  simp [execOp, hop, hm, hrun, Result.andThen]
  refine hK' _ _ (hK _ ⟨es, clock, clock, clock, hE.block h1, h2, h6, h7, fun i p e hp he => (h8 i p e hp he).ext hE, ?_, h7, Nat.le_refl _, Nat.le_refl _, List.nodup_nil, by simp⟩ hE (by simp))
  exact heap_alloc_new w _
/-- the next field, if there is one -/
theorem RngM.next (h : RngM S w m r q vis) (hSq : ¬ S q) (ty : TypeId) :
    (vis.length = m.length ∧ (Instr.next (.pointer (some ⟨q, 0, none⟩)) false ty).run P w = .ok (.tuple #[.bool false]) w) ∨
    ∃ i p v w1, i ∉ vis ∧ m[i]? = some p ∧ (Instr.next (.pointer (some ⟨q, 0, none⟩)) false ty).run P w = .ok (.tuple #[.bool true, .string p.1, v]) w1 ∧ RngM S w1 m r q (vis ++ [i]) ∧ RepT S w1 p.2 v ∧
      w.grownBy w1 (some q) ∧ w1.heap.size = w.heap.size ∧ (Instr.entry (.pointer (some ⟨q, 0, none⟩))).run P w1 = .ok (.tuple #[.string p.1, v]) w1 := by
  obtain ⟨es, clock, since, c0, h1, h2, h3, h4, h5, h6, h7, hsc, h8, h9, h10⟩ := h
  have hlen : es.size = m.length := by have := congrArg List.length h2; simpa using this
  have hqr : q ≠ r := by
    intro e; subst e; rw [h1] at h6; cases h6
  have hbn : ∀ (i j : Nat) (x y : MapEntry), es[i]? = some x → es[j]? = some y → x.born = y.born → i = j := by
    intro i j x y hx hy he
    obtain ⟨hi, rfl⟩ := Array.getElem?_eq_some_iff.1 hx
    obtain ⟨hj, rfl⟩ := Array.getElem?_eq_some_iff.1 hy
    have hp := List.pairwise_iff_getElem.1 h3
    rcases Nat.lt_trichotomy i j with hl | hl | hl
    · have := hp i j (by simpa using hi) (by simpa using hj) hl
      simp at this; omega
    · exact hl
    · have := hp j i (by simpa using hj) (by simpa using hi) hl
      simp at this; omega
  have hseen : ∀ (i : Nat) (x : MapEntry), es[i]? = some x → ((vis.map fun i => (es[i]?.map (·.born)).getD 0).toArray.contains x.born = true ↔ i ∈ vis) := by
    intro i x hx
    simp only [List.contains_toArray, List.contains_iff_mem, List.mem_map]
    constructor
    · rintro ⟨j, hj, he⟩
      have hjl := h10 j hj
      have hjs : es[j]? = some es[j] := Array.getElem?_eq_getElem (by omega)
      rw [hjs] at he
      simp at he
      rw [← hbn j i _ x hjs hx he]; exact hj
    · intro hi
      exact ⟨i, hi, by rw [hx]; rfl⟩
  rcases run_next_at (P := P) w ty q r since c0 _ es clock h6 h1 h7 h8 with ⟨h0, hrun⟩ | ⟨e, he, w1, hw1, hrun⟩
  · left
    refine ⟨?_, hrun⟩
    have hle := vis_length h9 h10
    have hall : ∀ i, i < m.length → i ∈ vis := by
      intro i hi
      have hx : es[i]? = some es[i] := Array.getElem?_eq_getElem (by omega)
      rw [← hseen i _ hx]
      have hemp : leftOf es (vis.map fun i => (es[i]?.map (·.born)).getD 0).toArray = #[] := Array.eq_empty_of_size_eq_zero h0
      unfold leftOf at hemp
      rw [Array.filter_eq_empty_iff] at hemp
      have := hemp es[i] (by simp)
      simpa using this
    have := nodup_le (a := List.range m.length) (b := vis) List.nodup_range (fun i hi => hall i (List.mem_range.1 hi))
    simp at this; omega
  · right
    have he2 : e ∈ es.toList ∧ (vis.map fun i => (es[i]?.map (·.born)).getD 0).toArray.contains e.born = false := by
      unfold leftOf at he
      simpa using he
    obtain ⟨i, hi⟩ := List.mem_iff_getElem?.1 he2.1
    rw [Array.getElem?_toList] at hi
    have him : i < m.length := by have := (Array.getElem?_eq_some_iff.1 hi).1; omega
    obtain ⟨p, hp⟩ : ∃ p, m[i]? = some p := ⟨_, List.getElem?_eq_getElem him⟩
    have hkey : e.key = .string p.1 := by
      have e1 : (es.toList.map (·.key))[i]? = some e.key := by simp [hi]
      rw [h2] at e1
      simp [hp] at e1
      exact e1.symm
    have hnot : i ∉ vis := fun hin => by have := (hseen i e hi).2 hin; rw [he2.2] at this; cases this
    have hw1h : w1.heap = w.heap := by rcases hw1 with rfl | rfl <;> rfl
    have hq1 : w1.heap[q]? = some (.mapIter (some r) since (vis.map fun i => (es[i]?.map (·.born)).getD 0).toArray c0) := by rw [hw1h]; exact h6
    have hset : ∀ o b, b ≠ q → (setBlock w1 q o).heap[b]? = w.heap[b]? := by
      intro o b hb
      simp only [setBlock, hw1h]
      rw [Array.getElem?_setIfInBounds]
      rw [if_neg (fun h => hb h.symm)]
    have hsame : ∀ o, Same S w (setBlock w1 q o) := fun o b ob hb hob => (hset o b (fun e => hSq (e ▸ hb))).trans hob
    have hnew : (setBlock w1 q (.mapIter (some r) since (Array.push (vis.map fun i => (es[i]?.map (·.born)).getD 0).toArray e.born) clock)).heap[q]? = some (.mapIter (some r) since (Array.push (vis.map fun i => (es[i]?.map (·.born)).getD 0).toArray e.born) clock) := by
      simp only [setBlock]
      rw [Array.getElem?_setIfInBounds, if_pos rfl, if_pos (by rw [hw1h]; exact (Array.getElem?_eq_some_iff.1 h6).1)]
    have hbnd : (es.toList.map (·.born)).Nodup := by
      rw [List.nodup_iff_pairwise_ne, List.pairwise_map]
      exact h3.imp (fun h => by omega)
    refine ⟨i, p, e.val, _, hnot, hp, by rw [← hkey]; exact hrun, ?_, (h5 i p e hp hi).mono (hsame _) (fun _ h _ => h), ?_, ?_, ?_⟩
    · refine ⟨es, clock, since, clock, (hset _ r (Ne.symm hqr)).trans h1, h2, h3, h4, fun i p e hp he => (h5 i p e hp he).mono (hsame _) (fun _ h _ => h), ?_, h7, hsc, hsc, ?_, ?_⟩
      · rw [hnew]
        simp [hi]
      · rw [List.nodup_append]
        exact ⟨h9, by simp, fun a ha b hb => by simp at hb; subst hb; exact fun e => hnot (e ▸ ha)⟩
      · intro j hj
        rcases List.mem_append.1 hj with hj | hj
        · exact h10 j hj
        · simp at hj; subst hj; exact him
    · refine ⟨?_, ?_, ?_, ?_, fun k hk hkq => hset _ k (fun e => hkq (by rw [e]))⟩
      · rcases hw1 with rfl | rfl <;> rfl
      · rcases hw1 with rfl | rfl <;> rfl
      · rcases hw1 with rfl | rfl <;> rfl
      · simp [setBlock, hw1h]
    · simp [setBlock, hw1h]
    · rw [← hkey]
      exact run_entry_at _ q r since _ es clock e hnew ((hset _ r (Ne.symm hqr)).trans h1) he2.1 hbnd
theorem wpList_next_M (hg : o.guard = none) (it : Operand) (hop : o.op = Op.next it false) (hm : a.eval it = .pointer (some ⟨q, 0, none⟩)) (h : RngM S w m r q vis) (hSq : ¬ S q)
    (hdone : vis.length = m.length → wpList P ops Q rest (a.put o.dst (.tuple #[.bool false])) w)
    (hstep : ∀ i p v w1, i ∉ vis → m[i]? = some p → RngM S w1 m r q (vis ++ [i]) → RepT S w1 p.2 v → w.grownBy w1 (some q) → w1.heap.size = w.heap.size → (Instr.entry (.pointer (some ⟨q, 0, none⟩))).run P w1 = .ok (.tuple #[.string p.1, v]) w1 →
      wpList P ops Q rest (a.put o.dst (.tuple #[.bool true, .string p.1, v])) w1) :
    wpList P ops Q (o :: rest) a w := by
  refine wpList_plain hg fun K' hK' => ?_
  unfold Oper.wp
  rcases h.next (P := P) hSq o.type with ⟨h1, hrun⟩ | ⟨i, p, v, w1, h1, h2, hrun, h3, h4, h5, h6, h7⟩
  · simp [execOp, hop, hm, hrun, Result.andThen]
    exact hK' _ _ (hdone h1)
  · simp [execOp, hop, hm, hrun, Result.andThen]
    exact hK' _ _ (hstep i p v w1 h1 h2 h3 h4 h5 h6 h7)
end
end Go.Proofs.Ytempfaefopfobaa
