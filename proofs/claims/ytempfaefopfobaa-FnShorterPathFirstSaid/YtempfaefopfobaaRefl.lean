/- Refl: in plain Lean: a tree compares with itself as equal, and equals itself if it holds no NaN; a list and a beginning of it. -/
import Derived.Test.YtempfaefopfobaaEquScal

set_option maxRecDepth 100000
namespace Go.Proofs.Ytempfaefopfobaa
open Go.ChangeShapes Go.WideShapes Go.ChangeAt Go.RowKit
set_option linter.unusedVariables false
set_option linter.unusedSimpArgs false

/-- no NaN in it -/
inductive NoNaN : Tree → Prop
  | null : NoNaN .null
  | bool (b : Bool) : NoNaN (.bool b)
  | int (n : Int) : NoNaN (.int n)
  | flt (f : Nat) (h : feq f f = true) : NoNaN (.flt f)
  | str (s : ByteArray) : NoNaN (.str s)
  | list (l : List Tree) (h : ∀ t ∈ l, NoNaN t) : NoNaN (.list l)
  | map (m : List (ByteArray × Tree)) (h : ∀ p ∈ m, NoNaN p.2) : NoNaN (.map m)
theorem nonan_plain : ∀ (N : Nat) (g : GV), SizeOf.sizeOf g ≤ N → ordG g = true → NoNaN (plainT g)
  | 0, g, h, _ => by cases g; simp at h
  | N + 1, .mk k n f s ks l, h, ho => by
    have hl : ordGs l = true → ∀ t ∈ plainTs l, NoNaN t := by
      intro hol t ht
      obtain ⟨j, hj⟩ := List.mem_iff_getElem?.1 ht
      obtain ⟨g, hg, rfl⟩ := plainTs_get hj
      rw [ordGs_eq, List.all_eq_true] at hol
      exact nonan_plain N g (by have := GV.size_mk k n f s ks l hg; omega) (hol g (List.mem_of_getElem? hg))
    unfold ordG at ho
    unfold plainT
    by_cases h1 : k = 1
    · rw [if_pos h1]; exact .bool _
    rw [if_neg h1]
    by_cases h2 : k = 2
    · rw [if_pos h2]; exact .int _
    rw [if_neg h2] at ho ⊢
    by_cases h3 : k = 3
    · rw [if_pos h3] at ho ⊢; exact .flt _ ho
    rw [if_neg h3] at ho ⊢
    by_cases h4 : k = 4
    · rw [if_pos h4]; exact .str _
    rw [if_neg h4]
    by_cases h5 : k = 5
    · rw [if_pos h5] at ho ⊢; exact .list _ (hl ho)
    rw [if_neg h5] at ho ⊢
    by_cases h6 : k = 6
    · rw [if_pos h6] at ho ⊢
      refine .map _ (fold_all _ _ (by simp) fun p hp => hl ho p.2 ?_)
      exact (List.of_mem_zip (by simpa using hp : (p.1, p.2) ∈ ks.zip (plainTs l))).2
    · rw [if_neg h6]; exact .null
theorem noNaN {g : GV} (h : ordG g = true) : NoNaN (plainT g) := nonan_plain _ g (Nat.le_refl _) h

theorem datum_refl (d : Ieee.Datum) : d.order d = none ∨ d.order d = some .eq := by
  cases d <;> first | (right; simp [Ieee.Datum.order]; done) | exact .inl rfl
theorem fcmp_refl (f : Nat) : fcmp f f = 0 := by
  unfold fcmp
  have : FloatKind.f64.format.order f f = none ∨ FloatKind.f64.format.order f f = some .eq := datum_refl _
  rcases this with h | h <;> rw [h] <;> rfl
theorem icmp_refl (n : Int) : icmp n n = 0 := by unfold icmp; rw [if_neg (Int.lt_irrefl _), if_neg (Int.lt_irrefl _)]
theorem bcmp_refl (b : Bool) : bcmp b b = 0 := by cases b <;> rfl
theorem cmpLs_refl {z : Tree → Tree → Int} : ∀ {l : List Tree}, (∀ t ∈ l, z t t = 0) → cmpLs z l l = 0
  | [], _ => rfl
  | a :: l, h => by
    unfold cmpLs
    rw [if_pos (h a (by simp)), cmpLs_refl fun t ht => h t (by simp [ht])]
theorem cmpFs_refl {z : Tree → Tree → Int} : ∀ {l : List (ByteArray × Tree)}, (∀ p ∈ l, z p.2 p.2 = 0) → cmpFs z l l = 0
  | [], _ => rfl
  | p :: l, h => by
    unfold cmpFs
    rw [blt_irrefl, if_neg (by simp), if_neg (by simp), if_pos (h p (by simp)), cmpFs_refl fun t ht => h t (by simp [ht])]
theorem cmpT_refl : ∀ (N : Nat) (t : Tree), SizeOf.sizeOf t ≤ N → WfT t → cmpT t t = 0
  | 0, t, h, _ => by have := t.size_pos; omega
  | N + 1, t, h, w => by
    cases w with
    | null => exact cmpT_null_null
    | bool b => rw [cmpT_bool_bool]; exact bcmp_refl b
    | int n => rw [cmpT_int_int]; exact icmp_refl n
    | flt f => rw [cmpT_flt_flt]; exact fcmp_refl f
    | str s => rw [cmpT_str_str]; exact scmp_refl s
    | list l hl =>
      rw [cmpT_list]
      exact cmpLs_refl fun t ht => cmpT_refl N t (by have := Tree.mem_list ht; omega) (hl t ht)
    | map m hn hm =>
      rw [cmpT_map, cmpMs_eq cmpT hn hn]
      exact cmpFs_refl fun p hp => cmpT_refl N p.2 (by have := Tree.size_map (k := p.1) (t := p.2) (srt_mem hp); omega) (hm p (srt_mem hp))
theorem cmp_self {t : Tree} (h : WfT t) : cmpT t t = 0 := cmpT_refl _ t (Nat.le_refl _) h
theorem lookKV_of {m : List (ByteArray × Tree)} (hn : (m.map (·.1)).Nodup) {p : ByteArray × Tree} (hp : p ∈ m) : lookKV m p.1 = some p.2 := by
  induction m with
  | nil => simp at hp
  | cons q m ih =>
    rw [List.map_cons, List.nodup_cons] at hn
    unfold lookKV
    rcases List.mem_cons.1 hp with rfl | hp
    · rw [if_pos rfl]
    · rw [if_neg (fun e => hn.1 (by rw [e]; exact List.mem_map_of_mem hp)), ih hn.2 hp]
theorem eqLs_refl {z : Tree → Tree → Bool} : ∀ {l : List Tree}, (∀ t ∈ l, z t t = true) → eqLs z l l = true
  | [], _ => rfl
  | a :: l, h => by
    unfold eqLs
    rw [h a (by simp), eqLs_refl fun t ht => h t (by simp [ht])]; rfl
theorem eqT_refl : ∀ (N : Nat) (t : Tree), SizeOf.sizeOf t ≤ N → WfT t → NoNaN t → eqT t t = true
  | 0, t, h, _, _ => by have := t.size_pos; omega
  | N + 1, t, h, w, o => by
    cases w with
    | null => exact eqT_null_null
    | bool b => rw [eqT_bool_bool]; simp
    | int n => rw [eqT_int_int]; simp
    | flt f => cases o with | flt _ h => rw [eqT_flt_flt]; exact h
    | str s => rw [eqT_str_str]; simp
    | list l hl =>
      cases o with
      | list _ ho =>
        rw [eqT_list]
        exact eqLs_refl fun t ht => eqT_refl N t (by have := Tree.mem_list ht; omega) (hl t ht) (ho t ht)
    | map m hn hm =>
      cases o with
      | map _ ho =>
        rw [eqT_map]
        unfold eqMs
        rw [decide_eq_true rfl, Bool.true_and, List.all_eq_true]
        intro p hp
        have e : eqOne eqT m p = eqT p.2 p.2 := by unfold eqOne; rw [lookKV_of hn hp]
        rw [e]
        exact eqT_refl N p.2 (by have := Tree.size_map (k := p.1) (t := p.2) hp; omega) (hm p hp) (ho p hp)
theorem eq_self {t : Tree} (h : WfT t) (o : NoNaN t) : eqT t t = true := eqT_refl _ t (Nat.le_refl _) h o
theorem cmpLs_shorter {z : Tree → Tree → Int} : ∀ {l r : List Tree}, (∀ t ∈ l, z t t = 0) → r ≠ [] → cmpLs z l (l ++ r) = -1 ∧ cmpLs z (l ++ r) l = 1
  | [], [], _, h => absurd rfl h
  | [], _ :: _, _, _ => ⟨rfl, rfl⟩
  | a :: l, r, h, hr => by
    have := cmpLs_shorter (z := z) (l := l) (r := r) (fun t ht => h t (by simp [ht])) hr
    simp only [List.cons_append, cmpLs]
    rw [if_pos (h a (by simp)), if_pos (h a (by simp))]
    exact this
end Go.Proofs.Ytempfaefopfobaa
