/- Keys: sortedKeys[any]: the names of a map, in increasing order. -/
import Derived.Test.YtempfaefopfobaaGreatRange
import Derived.Test.YtempfaefopfobaaGreatSpecWith
import Derived.Deep.AppendLies
import Derived.BigRegion
import Derived.Deep.Onto

namespace Go.Proofs.YtempfaefopfobaaGreat
open Go.ChangeShapes Go.WideShapes Go.ChangeAt Go.RowKit
set_option linter.unusedVariables false
set_option linter.unusedSimpArgs false

def insAt (ss : List ByteArray) (key : ByteArray) (k : Nat) : List ByteArray := ss.take k ++ key :: ss.drop k
theorem insAt_end (ss : List ByteArray) (key : ByteArray) : insAt ss key ss.length = ss ++ [key] := by simp [insAt]
theorem insAt_length (ss : List ByteArray) (key : ByteArray) (k : Nat) : (insAt ss key k).length = ss.length + 1 := by simp [insAt]; omega
theorem insAt_perm (ss : List ByteArray) (key : ByteArray) (k : Nat) : (insAt ss key k).Perm (ss ++ [key]) := by
  unfold insAt
  have h1 : (List.take k ss ++ key :: List.drop k ss).Perm (key :: (List.take k ss ++ List.drop k ss)) := List.perm_middle
  rw [List.take_append_drop] at h1
  exact h1.trans (List.perm_append_comm (l₁ := [key]) (l₂ := ss))
theorem insAt_at (ss : List ByteArray) (key : ByteArray) {k : Nat} (hk : k ≤ ss.length) : (insAt ss key k)[k]? = some key := by
  unfold insAt
  rw [List.getElem?_append_right (by simp; omega)]
  simp [Nat.min_eq_left hk]
theorem insAt_before (ss : List ByteArray) (key : ByteArray) {k j : Nat} (hj : j < k) (hk : k ≤ ss.length) : (insAt ss key k)[j]? = ss[j]? := by
  unfold insAt
  rw [List.getElem?_append_left (by simp; omega), List.getElem?_take, if_pos hj]
theorem insAt_swap {ss : List ByteArray} {key a : ByteArray} {j : Nat} (h : ss[j]? = some a) : ((insAt ss key (j + 1)).set (j + 1) a).set j key = insAt ss key j := by
  have hj := (List.getElem?_eq_some_iff.1 h).1
  unfold insAt
  rw [List.take_add_one, h]
  simp only [Option.toList_some, List.append_assoc, List.cons_append, List.nil_append]
  rw [List.set_append_right _ _ (by simp; omega)]
  rw [List.set_append_right _ _ (by simp; omega)]
  have e : (List.take j ss).length = j := by simp; omega
  rw [e, show j + 1 - j = 1 by omega, show j - j = 0 by omega]
  simp only [List.set_cons_succ, List.set_cons_zero]
  rw [List.drop_eq_getElem_cons hj]
  have : ss[j] = a := by rw [List.getElem?_eq_getElem hj] at h; exact Option.some.inj h
  rw [this]
theorem insAt_sorted {ss : List ByteArray} {key : ByteArray} {k : Nat} (hs : SortedK ss) (hk : k ≤ ss.length) (h1 : ∀ a ∈ ss.drop k, blt key a = true) (h2 : ∀ a ∈ ss.take k, blt a key = true) : SortedK (insAt ss key k) := by
  unfold SortedK insAt at *
  rw [List.pairwise_append]
  have h0 := hs
  rw [← List.take_append_drop k ss, List.pairwise_append] at h0
  refine ⟨h0.1, List.pairwise_cons.2 ⟨fun a ha => h1 a ha, h0.2.1⟩, fun a ha b hb => ?_⟩
  rcases List.mem_cons.1 hb with rfl | hb
  · exact h2 a ha
  · exact h0.2.2 a ha b hb
theorem take_lt {ss : List ByteArray} {key a : ByteArray} {k : Nat} (hs : SortedK ss) (h : ss[k]? = some a) (hlt : blt a key = true) : ∀ b ∈ ss.take (k + 1), blt b key = true := by
  intro b hb
  obtain ⟨j, hj⟩ := List.mem_iff_getElem?.1 hb
  rw [List.getElem?_take] at hj
  split at hj
  · rcases Nat.lt_or_ge j k with h1 | h1
    · exact blt_trans (hs.get hj h h1) hlt
    · obtain rfl : j = k := by omega
      rw [h] at hj; cases hj; exact hlt
  · cases hj
/-- the name at the place i -/
def nameAt (m : List (ByteArray × Tree)) (i : Nat) : ByteArray := (m[i]?.map (·.1)).getD ByteArray.empty
theorem nameAt_of {m : List (ByteArray × Tree)} {i : Nat} {p : ByteArray × Tree} (h : m[i]? = some p) : nameAt m i = p.1 := by simp [nameAt, h]
theorem nameAt_inj {m : List (ByteArray × Tree)} (hn : (m.map (·.1)).Nodup) {i j : Nat} (hi : i < m.length) (hj : j < m.length) (h : nameAt m i = nameAt m j) : i = j := by
  rw [nameAt_of (List.getElem?_eq_getElem hi), nameAt_of (List.getElem?_eq_getElem hj)] at h
  have hp := List.nodup_iff_pairwise_ne.1 hn
  rw [List.pairwise_iff_getElem] at hp
  rcases Nat.lt_trichotomy i j with hl | hl | hl
  · have := hp i j (by simpa using hi) (by simpa using hj) hl
    rw [List.getElem_map, List.getElem_map] at this
    exact absurd h this
  · exact hl
  · have := hp j i (by simpa using hj) (by simpa using hi) hl
    rw [List.getElem_map, List.getElem_map] at this
    exact absurd h.symm this
theorem names_range (m : List (ByteArray × Tree)) : (List.range m.length).map (nameAt m) = m.map (·.1) := by
  apply List.ext_getElem?
  intro i
  simp only [List.getElem?_map]
  by_cases hi : i < m.length
  · rw [List.getElem?_range hi, List.getElem?_eq_getElem hi]
    simp [nameAt, hi]
  · rw [List.getElem?_eq_none (by simp; omega), List.getElem?_eq_none (by omega)]
    rfl
theorem RepM.nodup {S : Nat → Prop} {w : World} {m : List (ByteArray × Tree)} {r : Nat} (h : RepM S w m r) : (m.map (·.1)).Nodup := by
  obtain ⟨_, _, _, _, _, _, h, _⟩ := h; exact h
theorem RepM.room {S : Nat → Prop} {w : World} {m : List (ByteArray × Tree)} {r : Nat} (h : RepM S w m r) : m.length * 88 ≤ 140737488351232 := by
  obtain ⟨_, _, _, _, h, _⟩ := h; exact h
theorem RepM.lt {S : Nat → Prop} {w : World} {m : List (ByteArray × Tree)} {r : Nat} (h : RepM S w m r) : r < w.heap.size := by
  obtain ⟨_, _, h, _⟩ := h; exact (Array.getElem?_eq_some_iff.1 h).1
theorem new_name {m : List (ByteArray × Tree)} (hn : (m.map (·.1)).Nodup) {vis : List Nat} {i : Nat} {p : ByteArray × Tree} {ss : List ByteArray} (hp : m[i]? = some p) (hi : i ∉ vis) (hv : ∀ j ∈ vis, j < m.length) (hs : ss.Perm (vis.map (nameAt m))) : p.1 ∉ ss := by
  intro hmem
  obtain ⟨j, hj, e⟩ := List.mem_map.1 (hs.mem_iff.1 hmem)
  rw [← nameAt_of hp] at e
  exact hi (nameAt_inj hn (hv j hj) (List.getElem?_eq_some_iff.1 hp).1 e ▸ hj)

/-- how many fields are still to come -/
def leftM (n q : Nat) (w : World) : Nat := match w.heap[q]? with | some (.mapIter _ _ seen _) => n - seen.size | _ => 0
theorem RngM.left {S : Nat → Prop} {w : World} {m : List (ByteArray × Tree)} {r q : Nat} {vis : List Nat} (h : RngM S w m r q vis) : leftM m.length q w = m.length - vis.length := by
  obtain ⟨es, clock, since, c0, h1, h2, h3, h4, h5, h6, h7⟩ := h
  simp [leftM, h6]
theorem RngM.vis {S : Nat → Prop} {w : World} {m : List (ByteArray × Tree)} {r q : Nat} {vis : List Nat} (h : RngM S w m r q vis) : vis.Nodup ∧ ∀ i ∈ vis, i < m.length := by
  obtain ⟨es, clock, since, c0, h1, h2, h3, h4, h5, h6, h7, h8, h9, h10, h11⟩ := h
  exact ⟨h10, h11⟩
theorem RngM.kept {S : Nat → Prop} {w w' : World} {m : List (ByteArray × Tree)} {r q : Nat} {vis : List Nat} (h : RngM S w m r q vis) {row : Option Nat} (hg : w.grownBy w' row) (hS : ∀ b, S b → some b ≠ row) (hr : some r ≠ row) (hq : some q ≠ row) : RngM S w' m r q vis :=
  h.mono (same_grownBy hg hS) (fun _ h _ => h) (hg.block r h.lt.1 hr) (hg.block q h.lt.2 hq)
theorem ext_own {w wr w' : World} (h : Ext w wr) {row : Option Nat} (hg : wr.grownBy w' row) (hrow : ∀ g, row = some g → w.heap.size ≤ g) : Ext w w' :=
  Below.trans h ⟨hg.os, hg.tape, hg.output, hg.size, fun i hi => hg.block i (by have := hg.size; have := h.size; omega) (fun e => by have := hrow i e.symm; omega)⟩
theorem own_ge {w : World} {base : Nat} {e : TypeId} {size : Nat} {v : Value} {n : Nat} {xs : List Value} (h : w.ownsRow base e size v n xs) : ∀ g, v.ownBlock = some g → base ≤ g := by
  intro g hg
  rcases h.2 with ⟨rfl, _⟩ | ⟨g', cap, cur, rfl, hb, _⟩
  · cases hg
  · simp [Value.ownBlock] at hg; omega

theorem grown_draws {a w : World} {row : Option Nat} (h : a.grownBy w row) (n : Nat) : a.grownBy (w.drewN n) row := ⟨h.os, h.tape, h.output, h.size, h.block⟩

end Go.Proofs.YtempfaefopfobaaGreat
