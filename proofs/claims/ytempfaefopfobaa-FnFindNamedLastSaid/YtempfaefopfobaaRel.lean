/- Rel: in plain Lean: the plain form of a value is what fromTree makes of its tree; what a plain map has at a key is what the map has. -/
import Derived.Test.YtempfaefopfobaaFromT
import Derived.Test.YtempfaefopfobaaClean

namespace Go.Proofs.Ytempfaefopfobaa
open Go.ChangeShapes Go.WideShapes Go.ChangeAt Go.RowKit
set_option linter.unusedVariables false
set_option linter.unusedSimpArgs false

theorem sorted_ext : ∀ {a b : List ByteArray}, SortedK a → SortedK b → (∀ x, x ∈ a ↔ x ∈ b) → a = b
  | [], [], _, _, _ => rfl
  | [], y :: b, _, _, h => by have := (h y).2 (by simp); simp at this
  | x :: a, [], _, _, h => by have := (h x).1 (by simp); simp at this
  | x :: a, y :: b, ha, hb, h => by
    have h1 := List.pairwise_cons.1 ha
    have h2 := List.pairwise_cons.1 hb
    have e : x = y := by
      rcases List.mem_cons.1 ((h x).1 (by simp)) with rfl | hx
      · rfl
      · rcases List.mem_cons.1 ((h y).2 (by simp)) with rfl | hy
        · rfl
        · have := blt_asymm (h1.1 y hy)
          rw [h2.1 x hx] at this; cases this
    subst e
    have hxa : x ∉ a := fun hm => by have := h1.1 x hm; rw [blt_irrefl] at this; cases this
    have hxb : x ∉ b := fun hm => by have := h2.1 x hm; rw [blt_irrefl] at this; cases this
    rw [sorted_ext h1.2 h2.2 fun z => ⟨fun hz => by
      rcases List.mem_cons.1 ((h z).1 (by simp [hz])) with rfl | hz'
      · exact absurd hz hxa
      · exact hz', fun hz => by
      rcases List.mem_cons.1 ((h z).2 (by simp [hz])) with rfl | hz'
      · exact absurd hz hxb
      · exact hz'⟩]
theorem cnt_at {ks : List ByteArray} (h : SortedK ks) {i : Nat} {k : ByteArray} (hi : ks[i]? = some k) : cnt ks k = i := by
  have hlt := (List.getElem?_eq_some_iff.1 hi).1
  refine cnt_eq (by omega) (fun j a hj ha => h.get ha hi hj) (fun a ha => ?_)
  rw [hi] at ha; cases ha; exact blt_irrefl _
/-- what a plain map has at key -/
def fieldG (g : GV) (key : ByteArray) : Option GV := if g.keys[cnt g.keys key]? = some key then g.l[cnt g.keys key]? else none
theorem fieldG_at {g : GV} (h : MapG g) {i : Nat} {k : ByteArray} (hi : g.keys[i]? = some k) : fieldG g k = g.l[i]? := by
  unfold fieldG
  rw [cnt_at h.1 hi, if_pos hi]
theorem fieldG_none {g : GV} {k : ByteArray} (h : k ∉ g.keys) : fieldG g k = none := by
  unfold fieldG
  rw [if_neg (fun e => h (List.mem_of_getElem? e))]
theorem fieldG_some {g : GV} (h : MapG g) {k : ByteArray} : (fieldG g k).isSome ↔ k ∈ g.keys := by
  constructor
  · intro hs
    refine Classical.byContradiction fun hn => ?_
    rw [fieldG_none hn] at hs; cases hs
  · intro hm
    obtain ⟨i, hi⟩ := List.mem_iff_getElem?.1 hm
    rw [fieldG_at h hi]
    have := (List.getElem?_eq_some_iff.1 hi).1
    rw [List.getElem?_eq_getElem (by rw [← h.2]; exact this)]; rfl
theorem fieldG_withF {g v : GV} (h : MapG g) (key k' : ByteArray) : fieldG (withF g key v) k' = if k' = key then some v else fieldG g k' := by
  have hM := h.withF (v := v) key
  obtain ⟨kd, n, f, s, ks, l⟩ := g
  obtain ⟨h1, h2⟩ := h
  have hg : MapG (.mk kd n f s ks l) := ⟨h1, h2⟩
  simp only [GV.keys, GV.l] at h1 h2
  have hc := cnt_le ks key
  have hK : (withF (.mk kd n f s ks l) key v).keys = ks.take (cnt ks key) ++ [key] ++ ks.drop (if ks[cnt ks key]? = some key then cnt ks key + 1 else cnt ks key) := rfl
  have hL : (withF (.mk kd n f s ks l) key v).l = l.take (cnt ks key) ++ [v] ++ l.drop (if ks[cnt ks key]? = some key then cnt ks key + 1 else cnt ks key) := rfl
  have tk : (ks.take (cnt ks key)).length = cnt ks key := by simp; omega
  have tl : (l.take (cnt ks key)).length = cnt ks key := by simp; omega
  split
  · rename_i e
    subst e
    rw [fieldG_at hM (i := cnt ks k')]
    · rw [hL, List.append_assoc, List.getElem?_append_right (by omega), tl]; simp
    · rw [hK, List.append_assoc, List.getElem?_append_right (by omega), tk]; simp
  · rename_i hne
    by_cases hm : k' ∈ ks
    · obtain ⟨p, hp⟩ := List.mem_iff_getElem?.1 hm
      have hpl := (List.getElem?_eq_some_iff.1 hp).1
      rw [fieldG_at hg (i := p) hp]
      by_cases hpi : p < cnt ks key
      · rw [fieldG_at hM (i := p)]
        · rw [hL, List.append_assoc, List.getElem?_append_left (by omega), List.getElem?_take, if_pos hpi]; rfl
        · rw [hK, List.append_assoc, List.getElem?_append_left (by omega), List.getElem?_take, if_pos hpi]; exact hp
      · obtain ⟨j, hj⟩ : ∃ j, (if ks[cnt ks key]? = some key then cnt ks key + 1 else cnt ks key) = j := ⟨_, rfl⟩
        have hjp : j ≤ p ∧ cnt ks key ≤ j := by
          subst hj
          split
          · rename_i hk
            refine ⟨?_, by omega⟩
            have : p ≠ cnt ks key := fun e => by rw [e, hk] at hp; cases hp; exact hne rfl
            omega
          · exact ⟨by omega, Nat.le_refl _⟩
        rw [hj] at hK hL
        rw [fieldG_at hM (i := cnt ks key + 1 + (p - j))]
        · rw [hL, List.getElem?_append_right (by simp; omega), List.getElem?_drop]
          simp only [List.length_append, tl, List.length_singleton, GV.l]
          congr 1; omega
        · rw [hK, List.getElem?_append_right (by simp; omega), List.getElem?_drop, ← hp]
          simp only [List.length_append, tk, List.length_singleton]
          congr 1; omega
    · rw [fieldG_none (g := .mk kd n f s ks l) hm, fieldG_none]
      rw [hK]
      intro hx
      simp only [List.mem_append, List.mem_singleton] at hx
      rcases hx with (hx | hx) | hx
      · exact hm (List.mem_of_mem_take hx)
      · exact hne hx
      · exact hm (List.mem_of_mem_drop hx)
theorem lookKV_ins (m : List (ByteArray × Tree)) (key k' : ByteArray) (t : Tree) : lookKV (insKV m key t) k' = if k' = key then some t else lookKV m k' := by
  induction m with
  | nil =>
    by_cases h : key = k'
    · simp [insKV, lookKV, h]
    · simp [insKV, lookKV, h, Ne.symm h]
  | cons p m ih =>
    simp only [insKV]
    by_cases hp : p.1 = key
    · rw [if_pos hp]
      by_cases h : key = k'
      · simp [lookKV, h]
      · simp [lookKV, h, hp, Ne.symm h]
    · rw [if_neg hp]
      simp only [lookKV]
      by_cases hk : p.1 = k'
      · rw [if_pos hk, if_neg (fun e => hp (hk.trans e)), if_pos hk]
      · rw [if_neg hk, if_neg hk, ih]
theorem insKV_names (m : List (ByteArray × Tree)) (key : ByteArray) (t : Tree) {x : ByteArray} (hx : x ∈ (insKV m key t).map (·.1)) : x = key ∨ x ∈ m.map (·.1) := by
  induction m with
  | nil => simp [insKV] at hx; exact .inl hx
  | cons p m ih =>
    simp only [insKV] at hx
    split at hx
    · simp only [List.map_cons, List.mem_cons] at hx ⊢
      rcases hx with hx | hx
      · exact .inl hx
      · exact .inr (.inr hx)
    · simp only [List.map_cons, List.mem_cons] at hx ⊢
      rcases hx with hx | hx
      · exact .inr (.inl hx)
      · rcases ih hx with h | h
        · exact .inl h
        · exact .inr (.inr h)
theorem insKV_nodup {m : List (ByteArray × Tree)} (h : (m.map (·.1)).Nodup) (key : ByteArray) (t : Tree) : ((insKV m key t).map (·.1)).Nodup := by
  induction m with
  | nil => simp [insKV]
  | cons p m ih =>
    simp only [List.map_cons, List.nodup_cons] at h
    simp only [insKV]
    split
    · rename_i hp
      simp only [List.map_cons, List.nodup_cons]
      exact ⟨hp ▸ h.1, h.2⟩
    · rename_i hp
      simp only [List.map_cons, List.nodup_cons]
      refine ⟨fun hm => ?_, ih h.2⟩
      rcases insKV_names m key t hm with e | e
      · exact hp e
      · exact h.1 e
theorem lookKV_mem {m : List (ByteArray × Tree)} {k : ByteArray} : (lookKV m k).isSome ↔ k ∈ m.map (·.1) := by
  induction m with
  | nil => simp [lookKV]
  | cons p m ih =>
    simp only [lookKV, List.map_cons, List.mem_cons]
    split
    · rename_i h; simp [h]
    · rename_i h; rw [ih]; constructor
      · exact fun h => .inr h
      · rintro (e | e)
        · exact absurd e.symm h
        · exact e

/-- the plain map g and the map m hold the same -/
structure Rel (g : GV) (m : List (ByteArray × Tree)) : Prop where
  map : MapG g
  nodup : (m.map (·.1)).Nodup
  head : g = .mk 6 0 0 ByteArray.empty g.keys g.l
  at_ : ∀ k, fieldG g k = (lookKV m k).map fromT
theorem Rel.empty : Rel (.mk 6 0 0 ByteArray.empty [] []) [] := ⟨MapG.empty, by simp, rfl, fun k => by simp [fieldG, lookKV, GV.keys]⟩
theorem Rel.step {g : GV} {m : List (ByteArray × Tree)} (h : Rel g m) (key : ByteArray) (t : Tree) : Rel (withF g key (fromT t)) (insKV m key t) := by
  refine ⟨h.map.withF key, insKV_nodup h.nodup key t, rfl, fun k => ?_⟩
  rw [fieldG_withF h.map, lookKV_ins]
  split
  · rfl
  · exact h.at_ k
theorem Rel.fold {g : GV} {m : List (ByteArray × Tree)} (h : Rel g m) : ∀ (r : List (ByteArray × Tree)), Rel (foldW (r.map fun p => (p.1, fromT p.2)) g) (foldKV r m) := by
  intro r
  induction r generalizing g m with
  | nil => exact h
  | cons p r ih => exact ih (h.step p.1 p.2)
theorem Rel.eq {g : GV} {m : List (ByteArray × Tree)} (h : Rel g m) : g = fromT (.map m) := by
  have hk : g.keys = sortN (m.map (·.1)) := by
    refine sorted_ext h.map.1 (sortN_sorted _ h.nodup) fun x => ?_
    rw [(sortN_perm _).mem_iff, ← lookKV_mem, ← fieldG_some h.map, h.at_ x]
    simp
  rw [h.head]
  have hl : g.l = (sortN (m.map (·.1))).map (lookG (fromTm m)) := by
    rw [← hk]
    apply List.ext_getElem?
    intro i
    rw [List.getElem?_map]
    cases hi : g.keys[i]? with
    | none =>
      have := List.getElem?_eq_none_iff.1 hi
      rw [List.getElem?_eq_none (by rw [← h.map.2]; exact this)]; rfl
    | some k =>
      rw [← fieldG_at h.map hi, h.at_ k, Option.map_some, lookG_fromTm]
      have hm : (lookKV m k).isSome := by
        have := (fieldG_some h.map (k := k)).2 (List.mem_of_getElem? hi)
        rw [h.at_ k] at this; simpa using this
      obtain ⟨t, ht⟩ := Option.isSome_iff_exists.1 hm
      rw [ht]; rfl
  rw [hl, hk, fromT]

theorem zip_from (ks : List ByteArray) (ts : List Tree) : ks.zip (ts.map fromT) = (ks.zip ts).map fun p => (p.1, fromT p.2) := by
  induction ks generalizing ts with
  | nil => rfl
  | cons k ks ih =>
    cases ts with
    | nil => rfl
    | cons t ts => simp [ih]
theorem clean_plain : ∀ (N : Nat) (g : GV), SizeOf.sizeOf g ≤ N → cleanG g = fromT (plainT g) := by
  intro N
  induction N with
  | zero => intro g h; cases g; simp at h
  | succ N ih =>
    intro g h
    have hl : cleanGs g.l = (plainTs g.l).map fromT := by
      rw [cleanGs_eq, plainTs_eq, List.map_map]
      refine List.map_congr_left fun x hx => ?_
      obtain ⟨i, hi⟩ := List.mem_iff_getElem?.1 hx
      exact ih x (by have := GV.size_l hi; omega)
    obtain ⟨k, n, f, s, ks, l⟩ := g
    simp only [GV.l] at hl
    by_cases h1 : k = 1
    · subst h1
      by_cases h0 : n = 0 <;> simp [cleanG, plainT, fromT, h0]
    by_cases h2 : k = 2
    · subst h2; simp [cleanG, plainT, fromT]
    by_cases h3 : k = 3
    · subst h3; simp [cleanG, plainT, fromT]
    by_cases h4 : k = 4
    · subst h4; simp [cleanG, plainT, fromT]
    by_cases h5 : k = 5
    · subst h5; simp [cleanG, plainT, fromT, hl, fromTs_eq]
    by_cases h6 : k = 6
    · subst h6
      rw [show cleanG (.mk 6 n f s ks l) = foldW (ks.zip (cleanGs l)) (.mk 6 0 0 ByteArray.empty [] []) by simp [cleanG], hl, zip_from,
        show plainT (.mk 6 n f s ks l) = .map (foldKV (ks.zip (plainTs l)) []) by simp [plainT]]
      exact (Rel.empty.fold _).eq
    · simp [cleanG, plainT, fromT, h1, h2, h3, h4, h5, h6]
theorem clean_eq (g : GV) : cleanG g = fromT (plainT g) := clean_plain _ g (Nat.le_refl _)
theorem cleanGs_from (l : List GV) : cleanGs l = (plainTs l).map fromT := by
  rw [cleanGs_eq, plainTs_eq, List.map_map]
  exact List.map_congr_left fun x _ => clean_eq x
theorem rel_clean (g : GV) : Rel (cleanM g) (plainMapT g) := by
  unfold cleanM plainMapT
  rw [cleanGs_from, zip_from]
  exact Rel.empty.fold _
end Go.Proofs.Ytempfaefopfobaa
