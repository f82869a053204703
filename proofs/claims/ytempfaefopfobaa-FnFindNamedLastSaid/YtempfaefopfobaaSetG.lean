/- SetG: in plain Lean: the plain form is its own plain form; setting fields of a plain map. -/
import Derived.Test.YtempfaefopfobaaRel

namespace Go.Proofs.Ytempfaefopfobaa
open Go.ChangeShapes Go.WideShapes Go.ChangeAt Go.RowKit
set_option linter.unusedVariables false
set_option linter.unusedSimpArgs false

/-- a plain map under its own form -/
def MapF (g : GV) : Prop := MapG g ∧ g = .mk 6 0 0 ByteArray.empty g.keys g.l
theorem mapF_ext {a b : GV} (ha : MapF a) (hb : MapF b) (h : ∀ k, fieldG a k = fieldG b k) : a = b := by
  have hk : a.keys = b.keys := sorted_ext ha.1.1 hb.1.1 fun x => by rw [← fieldG_some ha.1, ← fieldG_some hb.1, h x]
  have hl : a.l = b.l := by
    apply List.ext_getElem?
    intro i
    cases hi : a.keys[i]? with
    | none =>
      have := List.getElem?_eq_none_iff.1 hi
      rw [List.getElem?_eq_none (by rw [← ha.1.2]; exact this), List.getElem?_eq_none (by rw [← hb.1.2, ← hk]; exact this)]
    | some k => rw [← fieldG_at ha.1 hi, h k, fieldG_at hb.1 (hk ▸ hi)]
  rw [ha.2, hb.2, hk, hl]
theorem MapF.withF {g v : GV} (h : MapG g) (key : ByteArray) : MapF (withF g key v) := ⟨h.withF key, rfl⟩
theorem MapF.empty : MapF (.mk 6 0 0 ByteArray.empty [] []) := ⟨MapG.empty, rfl⟩
theorem MapF.fold {g : GV} (h : MapF g) : ∀ (r : List (ByteArray × GV)), MapF (foldW r g) := by
  intro r
  induction r generalizing g with
  | nil => exact h
  | cons p r ih => exact ih (MapF.withF h.1 p.1)
theorem withF_comm {g v w : GV} (h : MapG g) {a b : ByteArray} (hne : a ≠ b) : withF (withF g a v) b w = withF (withF g b w) a v := by
  refine mapF_ext (MapF.withF (h.withF _) _) (MapF.withF (h.withF _) _) fun k => ?_
  rw [fieldG_withF (h.withF _), fieldG_withF h, fieldG_withF (h.withF _), fieldG_withF h]
  by_cases h1 : k = a
  · subst h1; simp [hne]
  · simp [h1]
theorem withF_last {g v w : GV} (h : MapG g) (a : ByteArray) : withF (withF g a v) a w = withF g a w := by
  refine mapF_ext (MapF.withF (h.withF _) _) (MapF.withF h _) fun k => ?_
  rw [fieldG_withF (h.withF _), fieldG_withF h, fieldG_withF h]
  split <;> rfl
/-- fields put in one after the other, no name twice -/
theorem fieldG_fold {g : GV} (h : MapG g) : ∀ (r : List (ByteArray × GV)), (r.map (·.1)).Nodup → ∀ k, fieldG (foldW r g) k = (match r.find? (fun p => p.1 == k) with | some p => some p.2 | none => fieldG g k) := by
  intro r
  induction r generalizing g with
  | nil => intro _ k; rfl
  | cons p r ih =>
    intro hn k
    rw [List.map_cons, List.nodup_cons] at hn
    rw [foldW, ih (h.withF _) hn.2 k, List.find?_cons]
    by_cases hp : p.1 = k
    · have hb : (p.1 == k) = true := by rw [hp]; exact beq_self_eq_true k
      rw [hb]
      have : r.find? (fun p => p.1 == k) = none := by
        rw [List.find?_eq_none]
        intro q hq he
        have : q.1 = k := eq_of_beq he
        exact hn.1 (by rw [hp, ← this]; exact List.mem_map_of_mem hq)
      rw [this, fieldG_withF h, if_pos hp.symm]
    · have hb : (p.1 == k) = false := by rw [beq_eq_false_iff_ne]; exact hp
      rw [hb]
      cases r.find? (fun p => p.1 == k) with
      | some q => rfl
      | none => simp only; rw [fieldG_withF h, if_neg (fun e => hp e.symm)]
theorem find_zip : ∀ (ks : List ByteArray) (l : List GV) (i : Nat) (k : ByteArray), ks.Nodup → ks[i]? = some k → ks.length = l.length → (ks.zip l).find? (fun p => p.1 == k) = (l[i]?).map fun x => (k, x)
  | [], _, _, _, _, h, _ => by simp at h
  | _ :: _, [], _, _, _, _, h => by simp at h
  | a :: ks, x :: l, 0, k, hn, h, hl => by
    simp at h; subst h
    simp
  | a :: ks, x :: l, i + 1, k, hn, h, hl => by
    rw [List.nodup_cons] at hn
    simp only [List.getElem?_cons_succ] at h
    have hne : a ≠ k := fun e => hn.1 (e ▸ List.mem_of_getElem? h)
    rw [List.zip_cons_cons, List.find?_cons]
    have : (a == k) = false := by rw [beq_eq_false_iff_ne]; exact hne
    simp only [this]
    exact find_zip ks l i k hn.2 h (by simpa using hl)
theorem mapF_fold {g : GV} (h : MapF g) : foldW (g.keys.zip g.l) (.mk 6 0 0 ByteArray.empty [] []) = g := by
  refine mapF_ext (MapF.fold MapF.empty _) h fun k => ?_
  rw [fieldG_fold MapG.empty _ (by rw [List.map_fst_zip (by rw [h.1.2]; exact Nat.le_refl _)]; exact h.1.1.nodup)]
  by_cases hk : k ∈ g.keys
  · obtain ⟨i, hi⟩ := List.mem_iff_getElem?.1 hk
    rw [find_zip _ _ i k h.1.1.nodup hi h.1.2, fieldG_at h.1 hi]
    have := (List.getElem?_eq_some_iff.1 hi).1
    rw [List.getElem?_eq_getElem (by rw [← h.1.2]; exact this)]; rfl
  · have : (g.keys.zip g.l).find? (fun p => p.1 == k) = none := by
      rw [List.find?_eq_none]
      intro q hq he
      have : q.1 = k := eq_of_beq he
      exact hk (this ▸ (List.of_mem_zip hq).1)
    rw [this, fieldG_none hk]
    exact fieldG_none (by simp [GV.keys])
/-- a plain map whose items are plain is its own plain form -/
theorem clean_self {g : GV} (h : MapF g) (hl : ∀ x ∈ g.l, cleanG x = x) : cleanM g = g := by
  unfold cleanM
  have : cleanGs g.l = g.l := by
    rw [cleanGs_eq]
    conv => rhs; rw [← List.map_id g.l]
    exact List.map_congr_left fun x hx => hl x hx
  rw [this]
  exact mapF_fold h
theorem withF_items {g v : GV} {key : ByteArray} {x : GV} (hx : x ∈ (withF g key v).l) : x = v ∨ x ∈ g.l := by
  simp only [withF, GV.l, List.mem_append, List.mem_singleton] at hx
  rcases hx with (hx | hx) | hx
  · exact .inr (List.mem_of_mem_take hx)
  · exact .inl hx
  · exact .inr (List.mem_of_mem_drop hx)
theorem foldW_items : ∀ (r : List (ByteArray × GV)) {g x : GV}, x ∈ (foldW r g).l → x ∈ r.map (·.2) ∨ x ∈ g.l
  | [], g, x, h => .inr h
  | p :: r, g, x, h => by
    rcases foldW_items r h with h | h
    · exact .inl (by simp; exact .inr (by simpa using h))
    · rcases withF_items h with h | h
      · exact .inl (by simp [h])
      · exact .inr h
theorem clean_clean : ∀ (N : Nat) (g : GV), SizeOf.sizeOf g ≤ N → cleanG (cleanG g) = cleanG g := by
  intro N
  induction N with
  | zero => intro g h; cases g; simp at h
  | succ N ih =>
    intro g h
    have hl : ∀ x ∈ cleanGs g.l, cleanG x = x := by
      intro x hx
      rw [cleanGs_eq] at hx
      obtain ⟨y, hy, rfl⟩ := List.mem_map.1 hx
      obtain ⟨i, hi⟩ := List.mem_iff_getElem?.1 hy
      exact ih y (by have := GV.size_l hi; omega)
    obtain ⟨k, n, f, s, ks, l⟩ := g
    simp only [GV.l] at hl
    by_cases h1 : k = 1
    · subst h1
      by_cases h0 : n = 0 <;> simp [cleanG, h0]
    by_cases h2 : k = 2
    · subst h2; simp [cleanG]
    by_cases h3 : k = 3
    · subst h3; simp [cleanG]
    by_cases h4 : k = 4
    · subst h4; simp [cleanG]
    by_cases h5 : k = 5
    · subst h5
      have : cleanGs (cleanGs l) = cleanGs l := by
        rw [cleanGs_eq (cleanGs l)]
        conv => rhs; rw [← List.map_id (cleanGs l)]
        exact List.map_congr_left fun x hx => hl x hx
      simp [cleanG, this]
    by_cases h6 : k = 6
    · subst h6
      have e : cleanG (.mk 6 n f s ks l) = foldW (ks.zip (cleanGs l)) (.mk 6 0 0 ByteArray.empty [] []) := by simp [cleanG]
      rw [e]
      have hF := MapF.fold MapF.empty (ks.zip (cleanGs l))
      have hc := clean_self hF (fun x hx => by
        rcases foldW_items _ hx with hx | hx
        · obtain ⟨p, hp, rfl⟩ := List.mem_map.1 hx
          exact hl _ (List.of_mem_zip hp).2
        · simp [GV.l] at hx)
      rw [hF.2] at hc ⊢
      rw [show ∀ a b, cleanG (.mk 6 0 0 ByteArray.empty a b) = cleanM (.mk 6 0 0 ByteArray.empty a b) from fun a b => by simp [cleanG, cleanM, GV.keys, GV.l]]
      exact hc
    · simp [cleanG, h1, h2, h3, h4, h5, h6, zeroG]
theorem clean_idem (g : GV) : cleanG (cleanG g) = cleanG g := clean_clean _ g (Nat.le_refl _)
/-- the plain map of a, key set to v -/
def setG (a : GV) (key : ByteArray) (v : GV) : GV := withF (cleanM a) key (cleanG v)
theorem cleanM_items {a x : GV} (hx : x ∈ (cleanM a).l) : cleanG x = x := by
  unfold cleanM at hx
  rcases foldW_items _ hx with hx | hx
  · obtain ⟨p, hp, rfl⟩ := List.mem_map.1 hx
    have := (List.of_mem_zip hp).2
    rw [cleanGs_eq] at this
    obtain ⟨y, _, e⟩ := List.mem_map.1 this
    rw [← e]; exact clean_idem y
  · simp [GV.l] at hx
theorem setG_clean (a : GV) (key : ByteArray) (v : GV) : cleanM (setG a key v) = setG a key v :=
  clean_self (MapF.withF (rel_clean a).map key) fun x hx => by
    rcases withF_items hx with rfl | hx
    · exact clean_idem v
    · exact cleanM_items hx
theorem setG_tree (a : GV) (key : ByteArray) (v : GV) : fromT (.map (insKV (plainMapT a) key (plainT v))) = setG a key v := by
  rw [← ((rel_clean a).step key (plainT v)).eq, ← clean_eq]; rfl
theorem setG_comm (a : GV) {key other : ByteArray} (v w : GV) (h : key ≠ other) : setG (setG a key v) other w = setG (setG a other w) key v := by
  unfold setG
  rw [show cleanM (withF (cleanM a) key (cleanG v)) = withF (cleanM a) key (cleanG v) from setG_clean a key v, show cleanM (withF (cleanM a) other (cleanG w)) = withF (cleanM a) other (cleanG w) from setG_clean a other w]
  exact withF_comm (rel_clean a).map h
theorem setG_last (a : GV) (key : ByteArray) (v w : GV) : setG (setG a key v) key w = setG a key w := by
  unfold setG
  rw [show cleanM (withF (cleanM a) key (cleanG v)) = withF (cleanM a) key (cleanG v) from setG_clean a key v]
  exact withF_last (rel_clean a).map key
theorem setG_has (a : GV) (key : ByteArray) (v : GV) (k : ByteArray) : (lookKV (plainMapT (setG a key v)) k).isSome = (decide (k = key) || (lookKV (plainMapT a) k).isSome) := by
  have h := (rel_clean (setG a key v)).at_ k
  rw [setG_clean] at h
  unfold setG at h
  rw [fieldG_withF (rel_clean a).map, (rel_clean a).at_ k] at h
  have h2 := congrArg Option.isSome h
  by_cases e : k = key
  · subst e; simp at h2; simp [setG, ← h2]
  · simp [e] at h2; simp [e, setG, h2]
end Go.Proofs.Ytempfaefopfobaa
