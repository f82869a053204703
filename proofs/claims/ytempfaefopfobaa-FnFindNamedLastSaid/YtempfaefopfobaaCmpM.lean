/- CmpM: in plain Lean: how two maps compare name by name is how their fields in increasing order compare. -/
import Derived.Test.YtempfaefopfobaaCmpT
import Derived.Test.YtempfaefopfobaaRel

namespace Go.Proofs.Ytempfaefopfobaa
open Go.ChangeShapes Go.WideShapes Go.ChangeAt Go.RowKit
set_option linter.unusedVariables false
set_option linter.unusedSimpArgs false

def mrg : List ByteArray → List ByteArray → List ByteArray
  | [], b => b
  | a :: x, [] => a :: x
  | a :: x, b :: y => if blt a b = true then a :: mrg x (b :: y) else if blt b a = true then b :: mrg (a :: x) y else a :: mrg x y
termination_by a b => a.length + b.length
theorem mrg_mem : ∀ (a b : List ByteArray) (k : ByteArray), k ∈ mrg a b ↔ k ∈ a ∨ k ∈ b
  | [], b, k => by rw [mrg]; simp
  | a :: x, [], k => by rw [mrg]; simp
  | a :: x, b :: y, k => by
    rw [mrg]
    split
    · simp only [List.mem_cons, mrg_mem x (b :: y) k]
      constructor
      · rintro (h | h | h | h) <;> simp [h]
      · rintro ((h | h) | h | h) <;> simp [h]
    · split
      · simp only [List.mem_cons, mrg_mem (a :: x) y k]
        constructor
        · rintro (h | (h | h) | h) <;> simp [h]
        · rintro ((h | h) | h | h) <;> simp [h]
      · rename_i h1 h2
        have e : a = b := by rcases blt_tri a b with h | h | h <;> first | exact h | exact absurd h h1 | exact absurd h h2
        subst e
        simp only [List.mem_cons, mrg_mem x y k]
        constructor
        · rintro (h | h | h) <;> simp [h]
        · rintro ((h | h) | h | h) <;> simp [h]
termination_by a b => a.length + b.length
theorem mrg_sorted : ∀ (a b : List ByteArray), SortedK a → SortedK b → SortedK (mrg a b)
  | [], b, _, hb => by rw [mrg]; exact hb
  | a :: x, [], ha, _ => by rw [mrg]; exact ha; 
  | a :: x, b :: y, ha, hb => by
    have h1 := List.pairwise_cons.1 ha
    have h2 := List.pairwise_cons.1 hb
    rw [mrg]
    split
    · rename_i h
      refine List.pairwise_cons.2 ⟨fun k hk => ?_, mrg_sorted x (b :: y) h1.2 hb⟩
      rcases (mrg_mem _ _ _).1 hk with hk | hk
      · exact h1.1 k hk
      · rcases List.mem_cons.1 hk with rfl | hk
        · exact h
        · exact blt_trans h (h2.1 k hk)
    · split
      · rename_i _ h
        refine List.pairwise_cons.2 ⟨fun k hk => ?_, mrg_sorted (a :: x) y ha h2.2⟩
        rcases (mrg_mem _ _ _).1 hk with hk | hk
        · rcases List.mem_cons.1 hk with rfl | hk
          · exact h
          · exact blt_trans h (h1.1 k hk)
        · exact h2.1 k hk
      · rename_i h3 h4
        have e : a = b := by rcases blt_tri a b with h | h | h <;> first | exact h | exact absurd h h3 | exact absurd h h4
        subst e
        refine List.pairwise_cons.2 ⟨fun k hk => ?_, mrg_sorted x y h1.2 h2.2⟩
        rcases (mrg_mem _ _ _).1 hk with hk | hk
        · exact h1.1 k hk
        · exact h2.1 k hk
termination_by a b => a.length + b.length

theorem zipKeys_nodup {m1 m2 : List (ByteArray × Tree)} (h1 : (m1.map (·.1)).Nodup) (h2 : (m2.map (·.1)).Nodup) : (m1.map (·.1) ++ (m2.map (·.1)).filter fun k => !(m1.map (·.1)).contains k).Nodup := by
  rw [List.nodup_append]
  refine ⟨h1, h2.filter _, fun a ha b hb => ?_⟩
  intro e; subst e
  have := (List.mem_filter.1 hb).2
  simp only [Bool.not_eq_true', List.contains_eq_mem, decide_eq_false_iff_not] at this
  exact this ha
theorem zipKeys_mem {m1 m2 : List (ByteArray × Tree)} (k : ByteArray) : k ∈ zipKeys m1 m2 ↔ k ∈ m1.map (·.1) ∨ k ∈ m2.map (·.1) := by
  unfold zipKeys
  rw [(sortN_perm _).mem_iff, List.mem_append, List.mem_filter]
  by_cases h : k ∈ m1.map (·.1)
  · simp [h]
  · simp only [h, false_or, List.contains_eq_mem, decide_false, Bool.not_false, and_true]
theorem zipKeys_eq {m1 m2 : List (ByteArray × Tree)} (h1 : (m1.map (·.1)).Nodup) (h2 : (m2.map (·.1)).Nodup) : zipKeys m1 m2 = mrg (sortN (m1.map (·.1))) (sortN (m2.map (·.1))) := by
  refine sorted_ext (sortN_sorted _ (zipKeys_nodup h1 h2)) (mrg_sorted _ _ (sortN_sorted _ h1) (sortN_sorted _ h2)) fun k => ?_
  rw [zipKeys_mem, mrg_mem, (sortN_perm _).mem_iff, (sortN_perm _).mem_iff]

/-- the fields of a map in increasing order -/
def srt (m : List (ByteArray × Tree)) : List (ByteArray × Tree) := (sortN (m.map (·.1))).map fun k => (k, (lookKV m k).getD .null)
theorem srt_keys (m : List (ByteArray × Tree)) : (srt m).map (·.1) = sortN (m.map (·.1)) := by
  simp [srt, List.map_map, Function.comp_def]
theorem srt_length (m : List (ByteArray × Tree)) : (srt m).length = m.length := by simp [srt, sortN_length]
theorem lookKV_none {m : List (ByteArray × Tree)} {k : ByteArray} (h : k ∉ m.map (·.1)) : lookKV m k = none := by
  cases ht : lookKV m k with
  | none => rfl
  | some t => exact absurd (List.mem_map_of_mem (f := (·.1)) (lookKV_in ht)) h
theorem srt_look {m : List (ByteArray × Tree)} {p : ByteArray × Tree} (h : p ∈ srt m) : lookKV m p.1 = some p.2 := by
  obtain ⟨k, hk, rfl⟩ := List.mem_map.1 h
  obtain ⟨t, h1, _⟩ := lookKV_some ((sortN_perm _).mem_iff.1 hk)
  simp [h1]
theorem cmpKs_mrg (z : Tree → Tree → Int) (m1 m2 : List (ByteArray × Tree)) : ∀ (a b : List (ByteArray × Tree)) (i : Nat), SortedK (a.map (·.1)) → SortedK (b.map (·.1)) → i + a.length = m1.length → i + b.length = m2.length →
    (∀ p ∈ a, lookKV m1 p.1 = some p.2) → (∀ q ∈ b, q.1 ∉ a.map (·.1) → lookKV m1 q.1 = none) → (∀ q ∈ b, lookKV m2 q.1 = some q.2) → (∀ p ∈ a, p.1 ∉ b.map (·.1) → lookKV m2 p.1 = none) →
    cmpKs z m1 m2 (mrg (a.map (·.1)) (b.map (·.1))) i = cmpFs z a b
  | [], [], i, _, _, _, _, _, _, _, _ => by simp only [List.map_nil]; rw [mrg]; rfl
  | [], q :: y, i, _, _, h1, h2, _, _, _, _ => by
    have e : cmpOne z m1.length m2.length i (lookKV m1 q.1) (lookKV m2 q.1) = -1 := by unfold cmpOne; rw [if_pos (by simpa using h1)]
    simp only [List.map_nil, List.map_cons]; rw [mrg, cmpKs, e]; rfl
  | p :: x, [], i, _, _, h1, h2, _, _, _, _ => by
    have e : cmpOne z m1.length m2.length i (lookKV m1 p.1) (lookKV m2 p.1) = 1 := by unfold cmpOne; rw [if_neg (by simp at h1; omega), if_pos (by simpa using h2)]
    simp only [List.map_nil, List.map_cons]; rw [mrg, cmpKs, e]; rfl
  | p :: x, q :: y, i, ha, hb, h1, h2, l1, l1', l2, l2' => by
    have g1 := List.pairwise_cons.1 ha
    have g2 := List.pairwise_cons.1 hb
    have n1 : ¬ i = m1.length := by simp at h1; omega
    have n2 : ¬ i = m2.length := by simp at h2; omega
    simp only [List.map_cons]
    rw [mrg, cmpFs]
    split
    · rename_i h
      have hn : lookKV m2 p.1 = none := l2' p (by simp) (by
        intro hm
        rcases List.mem_cons.1 hm with e | hm
        · rw [e, blt_irrefl] at h; cases h
        · have := blt_trans h (g2.1 _ hm); rw [blt_irrefl] at this; cases this)
      have e : cmpOne z m1.length m2.length i (lookKV m1 p.1) (lookKV m2 p.1) = -1 := by unfold cmpOne; rw [if_neg n1, if_neg n2, l1 p (by simp), hn]
      rw [cmpKs, e]; rfl
    · split
      · rename_i _ h
        have hn : lookKV m1 q.1 = none := l1' q (by simp) (by
          intro hm
          rcases List.mem_cons.1 hm with e | hm
          · rw [e, blt_irrefl] at h; cases h
          · have := blt_trans h (g1.1 _ hm); rw [blt_irrefl] at this; cases this)
        have e : cmpOne z m1.length m2.length i (lookKV m1 q.1) (lookKV m2 q.1) = 1 := by unfold cmpOne; rw [if_neg n1, if_neg n2, hn]
        rw [cmpKs, e]; rfl
      · rename_i h3 h4
        have e : p.1 = q.1 := by rcases blt_tri p.1 q.1 with h | h | h <;> first | exact h | exact absurd h h3 | exact absurd h h4
        have e1 : cmpOne z m1.length m2.length i (lookKV m1 p.1) (lookKV m2 p.1) = z p.2 q.2 := by unfold cmpOne; rw [if_neg n1, if_neg n2, l1 p (by simp), e, l2 q (by simp)]
        rw [cmpKs, e1, cmpKs_mrg z m1 m2 x y (i + 1) g1.2 g2.2 (by simp at h1; omega) (by simp at h2; omega) (fun r hr => l1 r (by simp [hr])) (fun r hr hn => l1' r (by simp [hr]) ?_) (fun r hr => l2 r (by simp [hr])) (fun r hr hn => l2' r (by simp [hr]) ?_)]
        · intro hm
          rcases List.mem_cons.1 hm with e' | hm
          · have h9 : blt q.1 r.1 = true := g2.1 r.1 (List.mem_map_of_mem hr); rw [show r.1 = p.1 from e', e, blt_irrefl] at h9; cases h9
          · exact hn hm
        · intro hm
          rcases List.mem_cons.1 hm with e' | hm
          · have h9 : blt p.1 r.1 = true := g1.1 r.1 (List.mem_map_of_mem hr); rw [show r.1 = q.1 from e', ← e, blt_irrefl] at h9; cases h9
          · exact hn hm
termination_by a b => a.length + b.length
theorem cmpMs_eq (z : Tree → Tree → Int) {m1 m2 : List (ByteArray × Tree)} (h1 : (m1.map (·.1)).Nodup) (h2 : (m2.map (·.1)).Nodup) : cmpMs z m1 m2 = cmpFs z (srt m1) (srt m2) := by
  unfold cmpMs
  rw [zipKeys_eq h1 h2, ← srt_keys, ← srt_keys]
  refine cmpKs_mrg z m1 m2 _ _ 0 (by rw [srt_keys]; exact sortN_sorted _ h1) (by rw [srt_keys]; exact sortN_sorted _ h2) (by simp [srt_length]) (by simp [srt_length]) (fun p hp => srt_look hp) (fun q hq hn => ?_) (fun q hq => srt_look hq) (fun p hp hn => ?_)
  · exact lookKV_none fun hm => hn (by rw [srt_keys]; exact (sortN_perm _).mem_iff.2 hm)
  · exact lookKV_none fun hm => hn (by rw [srt_keys]; exact (sortN_perm _).mem_iff.2 hm)
end Go.Proofs.Ytempfaefopfobaa
