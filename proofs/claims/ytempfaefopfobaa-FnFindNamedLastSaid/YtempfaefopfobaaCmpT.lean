/- CmpT: in plain Lean: how two trees compare and when they are equal; two lists of fields in increasing order. -/
import Derived.Test.YtempfaefopfobaaFromT
import Derived.Test.YtempfaefopfobaaCmpScal
import Derived.Test.YtempfaefopfobaaCmpKinds

namespace Go.Proofs.Ytempfaefopfobaa
open Go.ChangeShapes Go.WideShapes Go.ChangeAt Go.RowKit
set_option linter.unusedVariables false
set_option linter.unusedSimpArgs false

/-- two lists, item by item, then by their lengths -/
def cmpLs (z : Tree → Tree → Int) : List Tree → List Tree → Int
  | [], [] => 0
  | [], _ :: _ => -1
  | _ :: _, [] => 1
  | a :: x, b :: y => if z a b = 0 then cmpLs z x y else z a b
theorem cmpLs_step {z : Tree → Tree → Int} {l1 l2 : List Tree} {k : Nat} {a b : Tree} (h1 : l1[k]? = some a) (h2 : l2[k]? = some b) : cmpLs z (l1.drop k) (l2.drop k) = if z a b = 0 then cmpLs z (l1.drop (k + 1)) (l2.drop (k + 1)) else z a b := by
  obtain ⟨h3, rfl⟩ := List.getElem?_eq_some_iff.1 h1
  obtain ⟨h4, rfl⟩ := List.getElem?_eq_some_iff.1 h2
  rw [List.drop_eq_getElem_cons h3, List.drop_eq_getElem_cons h4]
  rfl
theorem cmpLs_congr {z z' : Tree → Tree → Int} : ∀ {l1 l2 : List Tree}, (∀ a ∈ l1, ∀ b ∈ l2, z a b = z' a b) → cmpLs z l1 l2 = cmpLs z' l1 l2
  | [], [], _ => rfl
  | [], _ :: _, _ => rfl
  | _ :: _, [], _ => rfl
  | a :: x, b :: y, h => by
    simp only [cmpLs]
    rw [h a (by simp) b (by simp), cmpLs_congr (l1 := x) (l2 := y) fun a' ha b' hb => h a' (by simp [ha]) b' (by simp [hb])]

/-- the names of two maps together, in increasing order -/
def zipKeys (m1 m2 : List (ByteArray × Tree)) : List ByteArray := sortN (m1.map (·.1) ++ (m2.map (·.1)).filter fun k => !(m1.map (·.1)).contains k)
/-- how two values under one name compare, at the i-th name -/
def cmpOne (z : Tree → Tree → Int) (n1 n2 i : Nat) (a b : Option Tree) : Int :=
  if i = n1 then -1 else if i = n2 then 1 else match a, b with | none, _ => 1 | some _, none => -1 | some a, some b => z a b
def cmpKs (z : Tree → Tree → Int) (m1 m2 : List (ByteArray × Tree)) : List ByteArray → Nat → Int
  | [], _ => 0
  | k :: ks, i => if cmpOne z m1.length m2.length i (lookKV m1 k) (lookKV m2 k) = 0 then cmpKs z m1 m2 ks (i + 1) else cmpOne z m1.length m2.length i (lookKV m1 k) (lookKV m2 k)
def cmpMs (z : Tree → Tree → Int) (m1 m2 : List (ByteArray × Tree)) : Int := cmpKs z m1 m2 (zipKeys m1 m2) 0
theorem lookKV_in {m : List (ByteArray × Tree)} {k : ByteArray} {t : Tree} (h : lookKV m k = some t) : (k, t) ∈ m := by
  induction m with
  | nil => simp [lookKV] at h
  | cons p m ih =>
    unfold lookKV at h
    split at h
    · rename_i hp; cases h; subst hp; simp
    · exact List.mem_cons_of_mem _ (ih h)
theorem cmpKs_congr {z z' : Tree → Tree → Int} {m1 m2 : List (ByteArray × Tree)} (h : ∀ p ∈ m1, ∀ q ∈ m2, z p.2 q.2 = z' p.2 q.2) : ∀ (ks : List ByteArray) (i : Nat), cmpKs z m1 m2 ks i = cmpKs z' m1 m2 ks i
  | [], _ => rfl
  | k :: ks, i => by
    have e : cmpOne z m1.length m2.length i (lookKV m1 k) (lookKV m2 k) = cmpOne z' m1.length m2.length i (lookKV m1 k) (lookKV m2 k) := by
      unfold cmpOne
      cases ha : lookKV m1 k with
      | none => rfl
      | some a =>
        cases hb : lookKV m2 k with
        | none => rfl
        | some b => simp only [h _ (lookKV_in ha) _ (lookKV_in hb)]
    unfold cmpKs
    rw [e, cmpKs_congr h ks (i + 1)]

/-- how the package compares two trees -/
def cmpF : Nat → Tree → Tree → Int
  | 0, _, _ => 0
  | n + 1, t1, t2 => match t1, t2 with
    | .list a, .list b => cmpLs (cmpF n) a b
    | .map a, .map b => cmpMs (cmpF n) a b
    | .null, .null => 0
    | .bool a, .bool b => bcmp a b
    | .int a, .int b => icmp a b
    | .flt a, .flt b => fcmp a b
    | .int a, .flt b => fcmp (floatOfInt .f64 a) b
    | .flt a, .int b => fcmp a (floatOfInt .f64 b)
    | .str a, .str b => scmp a b
    | a, b => cmpC (kcode a) (kcode b)
noncomputable def cmpT (t1 t2 : Tree) : Int := cmpF (SizeOf.sizeOf t1) t1 t2
theorem Tree.size_pos (t : Tree) : 0 < SizeOf.sizeOf t := by cases t <;> simp <;> omega
theorem Tree.mem_list {l : List Tree} {t : Tree} (h : t ∈ l) : SizeOf.sizeOf t < SizeOf.sizeOf (Tree.list l) := by
  obtain ⟨i, hi⟩ := List.mem_iff_getElem?.1 h
  exact Tree.size_list hi
theorem cmpF_eq : ∀ (n m : Nat) (t1 t2 : Tree), SizeOf.sizeOf t1 ≤ n → SizeOf.sizeOf t1 ≤ m → cmpF n t1 t2 = cmpF m t1 t2
  | 0, _, t1, _, h, _ => by have := t1.size_pos; omega
  | _ + 1, 0, t1, _, _, h => by have := t1.size_pos; omega
  | n + 1, m + 1, t1, t2, hn, hm => by
    cases t1 <;> cases t2 <;> try rfl
    · rename_i a b
      exact cmpLs_congr fun x hx y _ => cmpF_eq n m x y (by have := Tree.mem_list hx; omega) (by have := Tree.mem_list hx; omega)
    · rename_i a b
      refine cmpKs_congr (fun p hp q _ => cmpF_eq n m p.2 q.2 ?_ ?_) _ _
      · have := Tree.size_map (k := p.1) (t := p.2) hp; omega
      · have := Tree.size_map (k := p.1) (t := p.2) hp; omega
theorem cmpT_of {n : Nat} {t1 t2 : Tree} (h : SizeOf.sizeOf t1 ≤ n) : cmpF n t1 t2 = cmpT t1 t2 := cmpF_eq _ _ _ _ h (Nat.le_refl _)
theorem cmpT_succ (t1 t2 : Tree) : ∃ n, SizeOf.sizeOf t1 = n + 1 ∧ cmpT t1 t2 = cmpF (n + 1) t1 t2 := by
  have := t1.size_pos
  exact ⟨SizeOf.sizeOf t1 - 1, by omega, by rw [show SizeOf.sizeOf t1 - 1 + 1 = SizeOf.sizeOf t1 by omega]; rfl⟩
theorem cmpT_list (a b : List Tree) : cmpT (.list a) (.list b) = cmpLs cmpT a b := by
  obtain ⟨n, h1, h2⟩ := cmpT_succ (.list a) (.list b)
  rw [h2]
  exact cmpLs_congr fun x hx y _ => cmpT_of (by have := Tree.mem_list hx; omega)
theorem cmpT_map (a b : List (ByteArray × Tree)) : cmpT (.map a) (.map b) = cmpMs cmpT a b := by
  obtain ⟨n, h1, h2⟩ := cmpT_succ (.map a) (.map b)
  rw [h2]
  exact cmpKs_congr (fun p hp q _ => cmpT_of (by have := Tree.size_map (k := p.1) (t := p.2) hp; omega)) _ _
theorem cmpT_null_null : cmpT (.null) (.null) = 0 := by
  obtain ⟨n, h1, h2⟩ := cmpT_succ (.null) (.null)
  rw [h2]; rfl
theorem cmpT_bool_bool (a : Bool) (b : Bool) : cmpT (.bool a) (.bool b) = bcmp a b := by
  obtain ⟨n, h1, h2⟩ := cmpT_succ (.bool a) (.bool b)
  rw [h2]; rfl
theorem cmpT_int_int (a : Int) (b : Int) : cmpT (.int a) (.int b) = icmp a b := by
  obtain ⟨n, h1, h2⟩ := cmpT_succ (.int a) (.int b)
  rw [h2]; rfl
theorem cmpT_flt_flt (a : Nat) (b : Nat) : cmpT (.flt a) (.flt b) = fcmp a b := by
  obtain ⟨n, h1, h2⟩ := cmpT_succ (.flt a) (.flt b)
  rw [h2]; rfl
theorem cmpT_int_flt (a : Int) (b : Nat) : cmpT (.int a) (.flt b) = fcmp (floatOfInt .f64 a) b := by
  obtain ⟨n, h1, h2⟩ := cmpT_succ (.int a) (.flt b)
  rw [h2]; rfl
theorem cmpT_flt_int (a : Nat) (b : Int) : cmpT (.flt a) (.int b) = fcmp a (floatOfInt .f64 b) := by
  obtain ⟨n, h1, h2⟩ := cmpT_succ (.flt a) (.int b)
  rw [h2]; rfl
theorem cmpT_str_str (a : ByteArray) (b : ByteArray) : cmpT (.str a) (.str b) = scmp a b := by
  obtain ⟨n, h1, h2⟩ := cmpT_succ (.str a) (.str b)
  rw [h2]; rfl
theorem cmpT_kinds {t1 t2 : Tree} (h : rankC (kcode t1) ≠ rankC (kcode t2)) : cmpT t1 t2 = cmpC (kcode t1) (kcode t2) := by
  obtain ⟨n, h1, h2⟩ := cmpT_succ t1 t2
  rw [h2]
  cases t1 <;> cases t2 <;> first | rfl | exact absurd rfl h | (exact absurd (by decide) h)

/-! ### fields in increasing order -/
def cmpFs (z : Tree → Tree → Int) : List (ByteArray × Tree) → List (ByteArray × Tree) → Int
  | [], [] => 0
  | [], _ :: _ => -1
  | _ :: _, [] => 1
  | p :: x, q :: y => if blt p.1 q.1 = true then -1 else if blt q.1 p.1 = true then 1 else if z p.2 q.2 = 0 then cmpFs z x y else z p.2 q.2
end Go.Proofs.Ytempfaefopfobaa
