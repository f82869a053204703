/- LexZip: value.lexicalKeyOrderedMapZip with whatever function: the keys of both maps in increasing order, each handed over with the two values. -/
import Derived.Test.YtempfaefopfobaaLex
import Derived.Test.YtempfaefopfobaaCmpM
import Derived.Deep.Cut
import Derived.Deep.CutRange

set_option maxRecDepth 100000
namespace Go.Proofs.Ytempfaefopfobaa
open Go.ChangeShapes Go.WideShapes Go.ChangeAt Go.RowKit
set_option linter.unusedVariables false
set_option linter.unusedSimpArgs false

/-- a value that is there, or nothing -/
def OptV (W : World) (o : Option Tree) (x : Value) : Prop := match o with | none => x = .nilIface | some t => RepVal Any W t x
theorem OptV.ext {W W' : World} (h : Ext W W') {o : Option Tree} {x : Value} (hr : OptV W o x) : OptV W' o x := by
  cases o with
  | none => exact hr
  | some t => exact RepVal.ext h hr
/-- what is asked of the function that is handed over, and of the maps -/
structure ZipHyp (S : Nat → Prop) (F : FuncId) (caps : Array Value) (m1 m2 : List (ByteArray × Tree)) (r1 r2 : Nat) (M : Nat → Obj → Prop) (I : Nat → World → Prop) (cont : Nat → Bool) (w : World) : Prop where
  ent : ∀ args W, (callFunc F args).run Try.prog W = .ok (.enter F args) W
  h1 : RepM S w m1 r1
  h2 : RepM S w m2 r2
  fn : ∀ (k : Nat) (key : ByteArray) (x y : Value) (W : World), (zipKeys m1 m2)[k]? = some key → I k W → w.heap.size ≤ W.heap.size → OptV W (lookKV m1 key) x → OptV W (lookKV m2 key) y →
    Calls Try.prog F (#[.string key, x, y] ++ caps) W fun e W' => e = .returned (.bool (cont k)) ∧ I (k + 1) W' ∧ Mine M W W'
  st0 : ∀ W W', I 0 W → Still w.heap.size M W W' → I 0 W'
  ste : ∀ k W W', I k W → Ext W W' → I k W'
  i0 : I 0 w
  nm : ∀ b c t fr, w.heap.size ≤ b → (t = 218 ∨ t = 103 ∨ t = 26 ∨ t = 9) → ¬ M b (.cells c t fr)
  nr1 : ∀ o, ¬ M r1 o
  nr2 : ∀ o, ¬ M r2 o
  nS : ∀ b o, S b → ¬ M b o
theorem ZipHyp.ext {S : Nat → Prop} {F : FuncId} {caps : Array Value} {m1 m2 : List (ByteArray × Tree)} {r1 r2 : Nat} {M : Nat → Obj → Prop} {I : Nat → World → Prop} {cont : Nat → Bool} {w w' : World} (h : ZipHyp S F caps m1 m2 r1 r2 M I cont w) (E : Ext w w') : ZipHyp S F caps m1 m2 r1 r2 M I cont w' where
  ent := h.ent
  h1 := h.h1.ext E
  h2 := h.h2.ext E
  fn := fun k key x y W h1 h2 h3 => h.fn k key x y W h1 h2 (Nat.le_trans E.size h3)
  st0 := fun W W' h1 h2 => h.st0 W W' h1 (h2.weak E.size)
  ste := h.ste
  i0 := h.ste 0 _ _ h.i0 E
  nm := fun b c t fr hb => h.nm b c t fr (Nat.le_trans E.size hb)
  nr1 := h.nr1
  nr2 := h.nr2
  nS := h.nS
/-- how far n calls go on: to the first that says no -/
def Stops (cont : Nat → Bool) (n k : Nat) : Prop := k ≤ n ∧ (∀ j, j + 1 < k → cont j = true) ∧ (k < n → ∃ j, k = j + 1 ∧ cont j = false)
def Zipped (I : Nat → World → Prop) (cont : Nat → Bool) (n : Nat) (e : Ending) (w' : World) : Prop := ∃ (k : Nat) (b : Bool), e = .returned (.bool b) ∧ Stops cont n k ∧ I k w'
theorem ext_still {H : Nat} {M : Nat → Obj → Prop} {w W W' : World} (h : Ext w W) (hH : w.heap.size ≤ H) (k : Still H M W W') : Ext w W' :=
  Below.trans h ⟨k.os, k.tape, k.output, k.size, fun i hi => by
    have : i < W.heap.size := by have := h.size; omega
    obtain ⟨o, ho⟩ : ∃ o, W.heap[i]? = some o := ⟨_, Array.getElem?_eq_getElem this⟩
    rw [k.keep i o ho (.inl (by omega)), ho]⟩
theorem ext_mine {M : Nat → Obj → Prop} {w W W' : World} (h : Ext w W) (hM : ∀ b o, b < w.heap.size → ¬ M b o) (k : Mine M W W') : Ext w W' :=
  Below.trans h ⟨k.os, k.tape, k.output, k.size, fun i hi => by
    have : i < W.heap.size := by have := h.size; omega
    obtain ⟨o, ho⟩ : ∃ o, W.heap[i]? = some o := ⟨_, Array.getElem?_eq_getElem this⟩
    rw [k.keep i o ho (hM i o hi), ho]⟩
/-- the names of both maps as they are collected, in whatever order -/
theorem look_contains (m : List (ByteArray × Tree)) (k : ByteArray) : (lookKV m k).isSome = (m.map (·.1)).contains k := by
  rw [Bool.eq_iff_iff, List.contains_iff_mem]
  constructor
  · intro h
    obtain ⟨t, ht⟩ := Option.isSome_iff_exists.1 h
    exact List.mem_map_of_mem (f := (·.1)) (lookKV_in ht)
  · intro h
    obtain ⟨t, ht, _⟩ := lookKV_some h
    simp [ht]
def newKeys (m1 : List (ByteArray × Tree)) (l : List ByteArray) : List ByteArray := l.filter fun k => !(lookKV m1 k).isSome
theorem newKeys_step (m1 : List (ByteArray × Tree)) (ss l : List ByteArray) (k : ByteArray) : (if (lookKV m1 k).isSome = true then ss ++ newKeys m1 l else (ss ++ newKeys m1 l) ++ [k]) = ss ++ newKeys m1 (l ++ [k]) := by
  unfold newKeys
  rw [List.filter_append]
  split
  · rename_i h
    rw [List.filter_cons_of_neg (by simp [h])]; simp
  · rename_i h
    rw [List.filter_cons_of_pos (by simpa using h)]; simp
theorem collected_perm {m1 m2 : List (ByteArray × Tree)} {v1 v2 : List Nat} (h1 : v1.Perm (List.range m1.length)) (h2 : v2.Perm (List.range m2.length)) :
    (v1.map (nameAt m1) ++ newKeys m1 (v2.map (nameAt m2))).Perm (m1.map (·.1) ++ (m2.map (·.1)).filter fun k => !(m1.map (·.1)).contains k) := by
  have e1 := h1.map (nameAt m1)
  have e2 := h2.map (nameAt m2)
  rw [names_range] at e1 e2
  refine e1.append ?_
  unfold newKeys
  have := e2.filter fun k => !(lookKV m1 k).isSome
  simp only [look_contains] at this ⊢
  exact this
theorem zip_sorted {m1 m2 : List (ByteArray × Tree)} {xs : List ByteArray} (h1 : (m1.map (·.1)).Nodup) (h2 : (m2.map (·.1)).Nodup) (hs : SortedK xs) (hp : xs.Perm (m1.map (·.1) ++ (m2.map (·.1)).filter fun k => !(m1.map (·.1)).contains k)) : xs = zipKeys m1 m2 := by
  refine sortN_eq ?_ hs hp
  rw [List.nodup_append]
  refine ⟨h1, h2.filter _, fun a ha b hb e => ?_⟩
  subst e
  have := (List.mem_filter.1 hb).2
  simp only [Bool.not_eq_true', List.contains_eq_mem, decide_eq_false_iff_not] at this
  exact this ha
/-- the block of the variable, the row, the box of the first map, while the call is at work -/
structure ZSt (w W : World) (base bo : Nat) (r1 : Nat) (v : Value) (n : Nat) (xs : List ByteArray) : Prop where
  var : W.heap[bo]? = some (.cells #[v] 26)
  row : W.ownsRow base 9 1 v n (xs.map Value.string)
  ext : Ext w W
  box : W.heap[w.heap.size]? = some (.cells #[.iface 316 (.map (some r1))] 103)
theorem ZSt.ext' {w W W' : World} {base bo r1 : Nat} {v : Value} {n : Nat} {xs : List ByteArray} (h : ZSt w W base bo r1 v n xs) (E : Ext W W') : ZSt w W' base bo r1 v n xs :=
  ⟨E.block h.var, ownsRow_ext h.row E, h.ext.trans E, E.block h.box⟩
theorem ZSt.mine {M : Nat → Obj → Prop} {w W W' : World} {base bo r1 : Nat} {v : Value} {n : Nat} {xs : List ByteArray} (h : ZSt w W base bo r1 v n xs) (hb : w.heap.size ≤ base) (hbo : w.heap.size ≤ bo)
    (nm : ∀ b c t fr, w.heap.size ≤ b → (t = 218 ∨ t = 103 ∨ t = 26 ∨ t = 9) → ¬ M b (.cells c t fr)) (k : Mine M W W') (hE : Ext w W') : ZSt w W' base bo r1 v n xs :=
  ⟨k.keep _ _ h.var (nm _ _ _ _ hbo (by simp)), ownsRow_keep h.row fun b cs hb' hc => k.keep _ _ hc (nm _ _ _ _ (by omega) (by simp)), hE, k.keep _ _ h.box (nm _ _ _ _ (Nat.le_refl _) (by simp))⟩
def KI (w : World) (base bo r1 : Nat) (m : List (ByteArray × Tree)) (pre : List ByteArray) (f : List ByteArray → List ByteArray) (vis : List Nat) (W : World) : Prop :=
  (∃ v, ZSt w W base bo r1 v (pre ++ f (vis.map (nameAt m))).length (pre ++ f (vis.map (nameAt m)))) ∧ base ≤ W.heap.size
theorem KM_not {base bo b : Nat} {o : Obj} (h1 : b < base) (h2 : b ≠ bo) : ¬ KM base bo b o := by
  rintro (⟨e, _⟩ | ⟨h, _⟩)
  · exact h2 e
  · omega
theorem iter1_any (S : Nat → Prop) (m1 : List (ByteArray × Tree)) (r1 : Nat) (al : Addr) (w W : World) (base bo cap : Nat) (hM : RepM S w m1 r1) (hW : ZSt w W base bo r1 (.slice (some ⟨base, 0, none⟩) 0 cap) 0 []) (hB : w.heap.size ≤ base ∧ base ≤ bo ∧ bo < W.heap.size) :
    Calls Try.prog 209 #[.map (some r1), .iface 172 (.pointer (some al)), .func (.func 220) #[] #[.pointer (some ⟨bo, 0, none⟩)]] W fun e W' =>
      e = .returned (.bool true) ∧ ∃ v1 : List Nat, v1.Perm (List.range m1.length) ∧ ∃ v, ZSt w W' base bo r1 v (v1.map (nameAt m1)).length (v1.map (nameAt m1)) ∧ W.heap.size ≤ W'.heap.size := by
  have hlt := hM.lt
  have hroom := hM.room
  have hM' : RepM (fun b => b < w.heap.size) W m1 r1 := (hM.mono (Same.refl _ _) (fun b _ h => h) rfl : RepM (fun b => b < w.heap.size) w m1 r1).ext hW.ext
  have hK : ∀ b o, b < w.heap.size → ¬ KM base bo b o := fun b o hb => KM_not (by omega) (by omega)
  refine (iter_any (fun b => b < w.heap.size) 220 #[.pointer (some ⟨bo, 0, none⟩)] m1 r1 al (KM base bo) (fun vis W' => KI w base bo r1 m1 [] id vis W' ∧ W.heap.size ≤ W'.heap.size) (fun _ => False) W (enters_of Try.func220 (by kernel_rfl) rfl) hM' ?_ ?_ ?_ ?_ ?_ ?_ ?_).mono ?_
  · intro vis i p x W1 hnd hlv hni hp ⟨⟨⟨v, hz⟩, hb⟩, hsz⟩ _ _
    simp only [List.nil_append, id_eq] at hz
    have hv := vis_length (List.nodup_append.2 ⟨hnd, by simp, fun a ha b hb => by simp at hb; subst hb; exact fun e => hni (e ▸ ha)⟩) (n := m1.length) (vis := vis ++ [i]) (fun j hj => by
      rcases List.mem_append.1 hj with hj | hj
      · exact hlv j hj
      · simp at hj; subst hj; exact (List.getElem?_eq_some_iff.1 hp).1)
    refine (add_key p.1 x bo base (vis.map (nameAt m1)) W1 ⟨v, hz.var, hz.row⟩ hb (by simp at hv ⊢; omega)).mono ?_
    rintro e W2 ⟨rfl, ⟨v2, k1, k2⟩, hm⟩
    refine ⟨hm, .inl ⟨rfl, ⟨⟨v2, ?_⟩, Nat.le_trans hb hm.size⟩, Nat.le_trans hsz hm.size⟩⟩
    simp only [List.nil_append, id_eq, List.map_append, List.map_cons, List.map_nil, nameAt_of hp]
    exact ⟨k1, k2, ext_mine hz.ext hK hm, hm.keep _ _ hz.box (by rintro (⟨e, c, fr, e2⟩ | ⟨h, c, fr, e2⟩) <;> simp at e2)⟩
  · rintro vis W1 W2 ⟨⟨⟨v, hz⟩, hb⟩, hsz⟩ hs
    obtain ⟨v2, k1, k2⟩ := KeysSt.still ⟨v, hz.var, hz.row⟩ hs
    have e : v2 = v := by
      have := hs.keep _ _ hz.var (.inr (.inl ⟨rfl, _, _, rfl⟩))
      rw [k1] at this; simpa using this
    subst e
    exact ⟨⟨⟨v2, k1, k2, ext_still hz.ext (by omega) hs, hs.keep _ _ hz.box (.inl (by omega))⟩, Nat.le_trans hb hs.size⟩, Nat.le_trans hsz hs.size⟩
  · exact ⟨⟨⟨_, by simpa using hW.var, by simpa using hW.row, hW.ext, hW.box⟩, by omega⟩, Nat.le_refl _⟩
  · rintro v (⟨e, c, fr, e2⟩ | ⟨h, c, fr, e2⟩) <;> simp at e2
  · rintro b a x y z (⟨e, c, fr, e2⟩ | ⟨h, c, fr, e2⟩) <;> simp at e2
  · exact fun o => hK r1 o hlt
  · exact fun b o hb => hK b o hb
  · rintro e W2 (⟨rfl, vis, hp, ⟨⟨v, hz⟩, hb⟩, hsz⟩ | ⟨_, h⟩)
    · simp only [List.nil_append, id_eq] at hz
      exact ⟨rfl, vis, hp, v, hz, hsz⟩
    · exact h.elim
theorem iter2_any (S : Nat → Prop) (m1 m2 : List (ByteArray × Tree)) (r1 r2 : Nat) (al : Addr) (w W : World) (base bo : Nat) (v0 : Value) (ks : List ByteArray) (hM1 : RepM S w m1 r1) (hM : RepM S w m2 r2) (hW : ZSt w W base bo r1 v0 ks.length ks) (hB : w.heap.size ≤ base ∧ base ≤ bo ∧ bo < W.heap.size) (hks : ks.length ≤ m1.length) :
    Calls Try.prog 209 #[.map (some r2), .iface 172 (.pointer (some al)), .func (.func 221) #[] #[.pointer (some ⟨w.heap.size, 0, none⟩), .pointer (some ⟨bo, 0, none⟩)]] W fun e W' =>
      e = .returned (.bool true) ∧ ∃ v2 : List Nat, v2.Perm (List.range m2.length) ∧ ∃ v, ZSt w W' base bo r1 v (ks ++ newKeys m1 (v2.map (nameAt m2))).length (ks ++ newKeys m1 (v2.map (nameAt m2))) ∧ W.heap.size ≤ W'.heap.size := by
  have hlt := hM.lt
  have hroom := hM.room
  have hroom1 := hM1.room
  have hM' : RepM (fun b => b < w.heap.size) W m2 r2 := (hM.mono (Same.refl _ _) (fun b _ h => h) rfl : RepM (fun b => b < w.heap.size) w m2 r2).ext hW.ext
  have hK : ∀ b o, b < w.heap.size → ¬ KM base bo b o := fun b o hb => KM_not (by omega) (by omega)
  refine (iter_any (fun b => b < w.heap.size) 221 #[.pointer (some ⟨w.heap.size, 0, none⟩), .pointer (some ⟨bo, 0, none⟩)] m2 r2 al (KM base bo) (fun vis W' => KI w base bo r1 m2 ks (newKeys m1) vis W' ∧ W.heap.size ≤ W'.heap.size) (fun _ => False) W (enters_of Try.func221 (by kernel_rfl) rfl) hM' ?_ ?_ ?_ ?_ ?_ ?_ ?_).mono ?_
  · intro vis i p x W1 hnd hlv hni hp ⟨⟨⟨v, hz⟩, hb⟩, hsz⟩ _ _
    have hv := vis_length (List.nodup_append.2 ⟨hnd, by simp, fun a ha b hb => by simp at hb; subst hb; exact fun e => hni (e ▸ ha)⟩) (n := m2.length) (vis := vis ++ [i]) (fun j hj => by
      rcases List.mem_append.1 hj with hj | hj
      · exact hlv j hj
      · simp at hj; subst hj; exact (List.getElem?_eq_some_iff.1 hp).1)
    have hnk : (newKeys m1 (vis.map (nameAt m2))).length ≤ vis.length := by unfold newKeys; exact Nat.le_trans (List.length_filter_le _ _) (by simp)
    have hM1' : RepM (fun b => b < w.heap.size) W1 m1 r1 := (hM1.mono (Same.refl _ _) (fun b _ h => h) rfl : RepM (fun b => b < w.heap.size) w m1 r1).ext hz.ext
    refine (add_key2 _ m1 r1 w.heap.size p.1 x bo base (ks ++ newKeys m1 (vis.map (nameAt m2))) W1 hM1' hz.box ⟨v, hz.var, hz.row⟩ hb (by simp only [List.length_append] at hv ⊢; simp only [List.length_cons, List.length_nil] at hv; omega)).mono ?_
    rintro e W2 ⟨rfl, ⟨v2, k1, k2⟩, hm⟩
    refine ⟨hm, .inl ⟨rfl, ⟨⟨v2, ?_⟩, Nat.le_trans hb hm.size⟩, Nat.le_trans hsz hm.size⟩⟩
    rw [newKeys_step] at k2
    rw [List.map_append, List.map_cons, List.map_nil, nameAt_of hp]
    exact ⟨k1, k2, ext_mine hz.ext hK hm, hm.keep _ _ hz.box (by rintro (⟨e, c, fr, e2⟩ | ⟨h, c, fr, e2⟩) <;> simp at e2)⟩
  · rintro vis W1 W2 ⟨⟨⟨v, hz⟩, hb⟩, hsz⟩ hs
    obtain ⟨v2, k1, k2⟩ := KeysSt.still ⟨v, hz.var, hz.row⟩ hs
    have e : v2 = v := by
      have := hs.keep _ _ hz.var (.inr (.inl ⟨rfl, _, _, rfl⟩))
      rw [k1] at this; simpa using this
    subst e
    exact ⟨⟨⟨v2, k1, k2, ext_still hz.ext (by omega) hs, hs.keep _ _ hz.box (.inl (by omega))⟩, Nat.le_trans hb hs.size⟩, Nat.le_trans hsz hs.size⟩
  · exact ⟨⟨⟨v0, by simpa [newKeys] using hW⟩, by omega⟩, Nat.le_refl _⟩
  · rintro v (⟨e, c, fr, e2⟩ | ⟨h, c, fr, e2⟩) <;> simp at e2
  · rintro b a x y z (⟨e, c, fr, e2⟩ | ⟨h, c, fr, e2⟩) <;> simp at e2
  · exact fun o => hK r2 o hlt
  · exact fun b o hb => hK b o hb
  · rintro e W2 (⟨rfl, vis, hp, ⟨⟨v, hz⟩, hb⟩, hsz⟩ | ⟨_, h⟩)
    · exact ⟨rfl, vis, hp, v, hz, hsz⟩
    · exact h.elim
theorem draws_ext (W : World) (q : Nat) : Ext W (W.drewN q) := ⟨rfl, rfl, rfl, Nat.le_refl _, fun _ _ => rfl⟩
theorem ZSt.put {w W : World} {base bo r1 g n cap : Nat} {xs : List ByteArray} (h : ZSt w W base bo r1 (.slice (some ⟨g, 0, none⟩) n cap) n xs) (hb : w.heap.size ≤ base) (j : Nat) (a : ByteArray) :
    ZSt w (W.setCell ⟨g, j, none⟩ (.string a)) base bo r1 (.slice (some ⟨g, 0, none⟩) n cap) n (xs.set j a) ∧ W.grownBy (W.setCell ⟨g, j, none⟩ (.string a)) (some g) ∧ ∃ cs, W.heap[g]? = some (.cells cs 9) ∧ w.heap.size ≤ g := by
  obtain ⟨o1, g1⟩ := h.row.stored j (.string a)
  have hgb := own_ge h.row g rfl
  obtain ⟨cs, hcs⟩ : ∃ cs, W.heap[g]? = some (.cells cs 9) := by
    rcases h.row.2 with ⟨e, _⟩ | ⟨g', cap', cur, e, _, hg, _⟩
    · cases e
    · cases e; exact ⟨cur, hg⟩
  refine ⟨⟨(g1.block bo (Array.getElem?_eq_some_iff.1 h.var).1 (fun e => by cases e; rw [h.var] at hcs; simp at hcs)).trans h.var, by rw [List.map_set]; exact o1, ?_, (g1.block _ (Array.getElem?_eq_some_iff.1 h.box).1 (fun e => by have := Option.some.inj e; subst this; rw [h.box] at hcs; simp at hcs)).trans h.box⟩, g1, cs, hcs, by omega⟩
  exact Below.trans h.ext ⟨g1.os, g1.tape, g1.output, g1.size, fun i hi => g1.block i (by have := h.ext.size; omega) (fun e => by cases e; omega)⟩
theorem perm_insAt {xs : List ByteArray} {k : Nat} {key : ByteArray} (hk : xs[k]? = some key) (j : Nat) : (insAt (xs.take k) key j ++ xs.drop (k + 1)).Perm xs := by
  have h1 := (insAt_perm (xs.take k) key j).append_right (xs.drop (k + 1))
  have e : xs.take k ++ [key] ++ xs.drop (k + 1) = xs := by
    obtain ⟨hlt, rfl⟩ := List.getElem?_eq_some_iff.1 hk
    rw [← List.take_succ_eq_append_getElem hlt, List.take_append_drop]
  rwa [e] at h1
theorem insAt_full {xs : List ByteArray} {k : Nat} {key : ByteArray} (hk : xs[k]? = some key) : insAt (xs.take k) key k ++ xs.drop (k + 1) = xs := by
  obtain ⟨hlt, rfl⟩ := List.getElem?_eq_some_iff.1 hk
  have e : insAt (xs.take k) xs[k] k = xs.take k ++ [xs[k]] := by
    have := insAt_end (xs.take k) xs[k]
    rwa [List.length_take, Nat.min_eq_left (by omega)] at this
  rw [e, ← List.take_succ_eq_append_getElem hlt, List.take_append_drop]
theorem set_app {a b : List ByteArray} {j : Nat} (hj : j < a.length) (x : ByteArray) : (a ++ b).set j x = a.set j x ++ b := by rw [List.set_append_left _ _ hj]
theorem sort_fin {w wz : World} {base bo r1 n k j : Nat} {v : Value} {xs xs0 : List ByteArray} {key : ByteArray} {I : Nat → World → Prop} (hlt : k < n) (hxl : xs.length = n) (hkey : xs[k]? = some key) (hps : xs.Perm xs0 ∧ SortedK (xs.take k)) (hj : j ≤ k)
    (hz : ZSt w wz base bo r1 v n (insAt (xs.take k) key j ++ xs.drop (k + 1))) (hi : I 0 wz) (h1 : ∀ a ∈ (xs.take k).drop j, blt key a = true) (h2 : ∀ a ∈ (xs.take k).take j, blt a key = true) :
    (∃ (k' : Nat) (xs' : List ByteArray), Value.int .i64 ((k : Int) + 1) = .int .i64 k' ∧ 1 ≤ k' ∧ k' ≤ n ∧ Hid (ZSt w wz base bo r1 v n xs') ∧ Hid (xs'.Perm xs0 ∧ SortedK (xs'.take k')) ∧ Hid (I 0 wz)) ∧ n - (intOf (.int .i64 ((k : Int) + 1))).toNat < n - (intOf (.int .i64 k)).toNat := by
  have hl : (insAt (xs.take k) key j).length = k + 1 := by rw [insAt_length, List.length_take]; omega
  refine ⟨⟨k + 1, _, by go_num, by omega, by omega, hid hz, hid ⟨(perm_insAt hkey j).trans hps.1, ?_⟩, hid hi⟩, by simp [intOf]; omega⟩
  rw [List.take_append_of_le_length (by omega), List.take_of_length_le (by omega)]
  exact insAt_sorted hps.2 (by rw [List.length_take]; omega) h1 h2
/-- while the keys are handed over -/
structure FSt (S : Nat → Prop) (w W : World) (bo : Nat) (r1 r2 : Nat) (v : Value) (m1 m2 : List (ByteArray × Tree)) : Prop where
  var : W.heap[bo]? = some (.cells #[v] 26)
  row : W.ownsRow w.heap.size 9 1 v (zipKeys m1 m2).length ((zipKeys m1 m2).map Value.string)
  box : W.heap[w.heap.size]? = some (.cells #[.iface 316 (.map (some r1))] 103)
  h1 : RepM S W m1 r1
  h2 : RepM S W m2 r2
theorem FSt.ext' {S : Nat → Prop} {w W W' : World} {bo r1 r2 : Nat} {v : Value} {m1 m2 : List (ByteArray × Tree)} (h : FSt S w W bo r1 r2 v m1 m2) (E : Ext W W') : FSt S w W' bo r1 r2 v m1 m2 :=
  ⟨E.block h.var, ownsRow_ext h.row E, E.block h.box, h.h1.ext E, h.h2.ext E⟩
theorem RepM.mine {M : Nat → Obj → Prop} {S : Nat → Prop} {W W' : World} {m : List (ByteArray × Tree)} {r : Nat} (h : RepM S W m r) (nr : ∀ o, ¬ M r o) (nS : ∀ b o, S b → ¬ M b o) (k : Mine M W W') : RepM S W' m r := by
  obtain ⟨es, clock, ho, _⟩ := h.es
  exact h.mono (k.same nS) (fun _ h _ => h) ((k.keep _ _ ho (nr _)).trans ho.symm)
theorem FSt.mine {M : Nat → Obj → Prop} {S : Nat → Prop} {w W W' : World} {bo r1 r2 : Nat} {v : Value} {m1 m2 : List (ByteArray × Tree)} (h : FSt S w W bo r1 r2 v m1 m2) (hbo : w.heap.size ≤ bo)
    (nm : ∀ b c t fr, w.heap.size ≤ b → (t = 218 ∨ t = 103 ∨ t = 26 ∨ t = 9) → ¬ M b (.cells c t fr)) (nr1 : ∀ o, ¬ M r1 o) (nr2 : ∀ o, ¬ M r2 o) (nS : ∀ b o, S b → ¬ M b o) (k : Mine M W W') : FSt S w W' bo r1 r2 v m1 m2 :=
  ⟨k.keep _ _ h.var (nm _ _ _ _ hbo (by simp)), ownsRow_keep h.row fun b cs hb' hc => k.keep _ _ hc (nm _ _ _ _ hb' (by simp)), k.keep _ _ h.box (nm _ _ _ _ (Nat.le_refl _) (by simp)), h.h1.mine nr1 nS k, h.h2.mine nr2 nS k⟩
theorem getU_none (S : Nat → Prop) (m : List (ByteArray × Tree)) (r : Nat) (a : Addr) (key : ByteArray) (w : World) (hM : RepM S w m r) (hl : lookKV m key = none) :
    Calls Try.prog 206 #[.map (some r), .iface 172 (.pointer (some a)), .string key] w fun e w' => e = .returned (.tuple #[.nilIface, .bool false]) ∧ Ext w w' :=
  (getU_any S m r a key w hM).mono fun e w' h => by
    rcases h with ⟨_, h1, h2⟩ | ⟨t, x, h1, _⟩
    · exact ⟨h1, h2⟩
    · rw [hl] at h1; cases h1
theorem getU_some (S : Nat → Prop) (m : List (ByteArray × Tree)) (r : Nat) (a : Addr) (key : ByteArray) (t : Tree) (w : World) (hM : RepM S w m r) (hl : lookKV m key = some t) :
    Calls Try.prog 206 #[.map (some r), .iface 172 (.pointer (some a)), .string key] w fun e w' => ∃ b, e = .returned (.tuple #[.iface 203 (.pointer (some ⟨b, 0, none⟩)), .bool true]) ∧ RepVal Any w' t (.iface 203 (.pointer (some ⟨b, 0, none⟩))) ∧ Ext w w' :=
  (getU_any S m r a key w hM).mono fun e w' h => by
    rcases h with ⟨h1, _, _⟩ | ⟨t', x, h1, h2, h3, h4⟩
    · rw [hl] at h1; cases h1
    · rw [hl] at h1; cases h1
      have h5 := h3.weak (S' := Any) (fun _ _ _ => trivial)
      obtain ⟨b, v, rfl, _⟩ := h3
      exact ⟨b, h2, h5, h4⟩
theorem optv_none {W : World} {m : List (ByteArray × Tree)} {k : ByteArray} (h : lookKV m k = none) : OptV W (lookKV m k) .nilIface := by rw [h]; rfl
theorem optv_some {W : World} {m : List (ByteArray × Tree)} {k : ByteArray} {t : Tree} {x : Value} (h : lookKV m k = some t) (hr : RepVal Any W t x) : OptV W (lookKV m k) x := by rw [h]; exact hr
set_option maxHeartbeats 4000000 in
theorem lex_any (S : Nat → Prop) (F : FuncId) (caps : Array Value) (m1 m2 : List (ByteArray × Tree)) (r1 r2 : Nat) (al : Addr) (M : Nat → Obj → Prop) (I : Nat → World → Prop) (cont : Nat → Bool) (w : World) (hZ : ZipHyp S F caps m1 m2 r1 r2 M I cont w) :
    Calls Try.prog 217 #[.iface 172 (.pointer (some al)), .iface 316 (.map (some r1)), .iface 316 (.map (some r2)), .func (.func F) #[] caps] w (Zipped I cont (zipKeys m1 m2).length) := by
  obtain ⟨i0, hi, hz0, hz1, hz2⟩ := info_parts info_str
  have HZ := hid hZ
  have hent := hZ.ent
  have hr1 := hZ.h1.room
  have hr2 := hZ.h2.room
  clear hZ
  go_enter Try.func217, Try.ntmps217
  go_upto_if 26 with (first
    | (go_at_call_of 210 r1; refine (mlen_any S m1 r1 _ (HZ.out.h1.ext ((Ext.refl w).alloc _))).mono ?_; rintro e w1 ⟨rfl, rfl⟩))
  go_cut [10, 11] from 20 (fun s10 s11 wx => s10 = .int .i64 m2.length ∧ ∃ cap : Nat, s11 = .int .i64 cap ∧ cap ≤ m1.length + m2.length ∧ Hid (Ext w wx) ∧ Hid (wx.heap[w.heap.size]? = some (.cells #[.iface 316 (.map (some r1))] 103)))
  case first =>
    go_wp2_with (first
      | (go_at_call_of 210 r2; refine (mlen_any S m2 r2 _ (HZ.out.h2.ext ((Ext.refl w).alloc _))).mono ?_; rintro e w1 ⟨rfl, rfl⟩))
    all_goals
      go_meet
      case rel => first | exact ⟨rfl, m2.length, rfl, by omega, hid ((Ext.refl w).alloc _), hid (heap_alloc_new _ _)⟩ | exact ⟨rfl, m1.length, rfl, by omega, hid ((Ext.refl w).alloc _), hid (heap_alloc_new _ _)⟩
  case rest =>
    obtain ⟨rfl, cap, rfl, hcap, HE1, HB1⟩ := hcut
    rename World => w1
    go_upto_region 10 with fail
    go_cut [38] from 39 (fun sb wx => (∃ b : Bool, sb = .bool b ∧ Hid (b = true ↔ (m1 = [] ∧ m2 = []))) ∧ Hid (Ext w wx) ∧ Hid (wx.heap[w.heap.size]? = some (.cells #[.iface 316 (.map (some r1))] 103)))
    case first =>
      cases m1 with
      | nil =>
        cases m2 with
        | nil =>
          go_wp2_with fail
          go_meet
          case rel => exact ⟨⟨true, rfl, hid (by simp)⟩, HE1, HB1⟩
        | cons p m2 =>
          have hd : (((p :: m2).length : Int) == 0) = false := by simp; omega
          go_wp2_with fail
          go_meet
          case rel => exact ⟨⟨false, rfl, hid (by simp)⟩, HE1, HB1⟩
      | cons p m1 =>
        have hd : (((p :: m1).length : Int) == 0) = false := by simp; omega
        go_wp2_with fail
        go_meet
        case rel => exact ⟨⟨false, rfl, hid (by simp)⟩, HE1, HB1⟩
    case rest =>
      obtain ⟨⟨b, rfl, HBB⟩, HE2, HB2⟩ := hcut
      rename World => w2
      cases b
      · go_wp2_with (at_make; refine wpList_make_own _ rfl _ _ 26 rfl w2.heap.size 9 i0 _ 1 Try.underlying26 hi hz0 hz1 _ _ _ cap rfl rfl rfl ?c1 ?c2 ?c3 ?c4)
        case c1 => rw [hz2]; omega
        case c2 => unfold maxLen; omega
        case c3 => exact Nat.le_refl _
        intro w3 hown3 hg3
        have HE3 := hid (ext_grownBy hg3)
        have HW := hid (show ZSt w (w3.alloc (.cells #[.slice (some ⟨w2.heap.size, 0, none⟩) 0 cap] 26)) w2.heap.size w3.heap.size r1 (.slice (some ⟨w2.heap.size, 0, none⟩) 0 cap) 0 [] from
          ⟨heap_alloc_new _ _, ownsRow_ext hown3 ((Ext.refl _).alloc _), (HE2.out.trans HE3.out).alloc _, ((Ext.refl w3).alloc _).block (HE3.out.block HB2.out)⟩)
        have HB := hid (show w.heap.size ≤ w2.heap.size ∧ w2.heap.size ≤ w3.heap.size ∧ w3.heap.size < (w3.alloc (.cells #[.slice (some ⟨w2.heap.size, 0, none⟩) 0 cap] 26)).heap.size from ⟨HE2.out.size, HE3.out.size, by simp⟩)
        clear hown3 hg3
        go_upto_region 13 with fail
        generalize w3.alloc (.cells #[.slice (some ⟨w2.heap.size, 0, none⟩) 0 cap] 26) = W4 at *
        generalize w2.heap.size = base at *
        generalize w3.heap.size = bo at *
        have qb := (cell_of_heap HW.out.box 0).trans rfl
        go_upto_region 15 with (first
          | (go_at_call_has 209 r1; refine (iter1_any S m1 r1 al w W4 base bo cap HZ.out.h1 HW.out HB.out).mono ?_; rintro e W5 ⟨rfl, v1, hp1, v5, hz5, hs5⟩; have HP1 := hid hp1; have HZ5 := hid hz5; have HS5 := hid hs5; clear hp1 hz5 hs5))
        go_upto_region 17 with (first
          | (go_at_call_has 209 r2; refine (iter2_any S m1 m2 r1 r2 al w W5 base bo v5 (v1.map (nameAt m1)) HZ.out.h1 HZ.out.h2 HZ5.out (by have := HB.out; have := HS5.out; omega) (by have := HP1.out.length_eq; simp at this ⊢; omega)).mono ?_; rintro e W6 ⟨rfl, v2, hp2, v6, hz6, hs6⟩; have HP2 := hid hp2; have HZ6 := hid hz6; have HS6 := hid (Nat.le_trans HS5.out hs6); clear hp2 hz6 hs6))
        obtain ⟨xs0, hxs0⟩ : ∃ xs, xs = v1.map (nameAt m1) ++ newKeys m1 (v2.map (nameAt m2)) := ⟨_, rfl⟩
        rw [← hxs0] at HZ6
        have HPERM := hid (show xs0.Perm _ from hxs0 ▸ collected_perm HP1.out HP2.out)
        have HND := hid (show xs0.Nodup from HPERM.out.nodup_iff.2 (zipKeys_nodup HZ.out.h1.nodup HZ.out.h2.nodup))
        have hlen : xs0.length ≤ m1.length + m2.length := by
          have h1 := HPERM.out.length_eq
          rw [List.length_append] at h1
          have h2 := List.length_filter_le (fun k => !(m1.map (·.1)).contains k) (m2.map (·.1))
          simp only [List.length_map] at h1 h2
          omega
        have hpos : 0 < xs0.length := by
          rcases Nat.eq_zero_or_pos xs0.length with h | h
          · exfalso
            have h1 := HPERM.out.length_eq
            rw [h, List.length_append] at h1
            have e1 : m1 = [] := List.eq_nil_of_length_eq_zero (by simp only [List.length_map] at h1; omega)
            subst e1
            have e2 : m2 = [] := by
              cases m2 with
              | nil => rfl
              | cons p l => simp at h1
            exact absurd (HBB.out.2 ⟨rfl, e2⟩) (by simp)
          · exact h
        obtain ⟨g, cap6, rfl, hgb, hglt⟩ := HZ6.out.row.form hpos
        clear hgb hglt hxs0
        have HI6 := hid (show I 0 W6 from HZ.out.ste 0 _ _ HZ.out.i0 HZ6.out.ext)
        have HB6 := hid (show w.heap.size ≤ base ∧ base ≤ bo from ⟨HB.out.1, HB.out.2.1⟩)
        obtain ⟨n, hn⟩ : ∃ n, xs0.length = n := ⟨_, rfl⟩
        rw [hn] at HZ6 hlen hpos
        have HN := hid hn
        clear hn HP1 HP2 HZ5 HS5 HS6 HB HE1 HB1 HE2 HB2 HE3 HW HBB qb hcap
        go_wp2_with fail
        go_loopw [13] (fun i wr => ∃ (k : Nat) (xs : List ByteArray), i = .int .i64 k ∧ 1 ≤ k ∧ k ≤ n ∧ Hid (ZSt w wr base bo r1 (.slice (some ⟨g, 0, none⟩) n cap6) n xs) ∧ Hid (xs.Perm xs0 ∧ SortedK (xs.take k)) ∧ Hid (I 0 wr)) (fun i _ => n - (intOf i).toNat)
        case atStart => exact ⟨1, xs0, rfl, Nat.le_refl _, hpos, HZ6, hid ⟨List.Perm.refl _, by
          cases xs0 with
          | nil => exact List.Pairwise.nil
          | cons x l => exact List.pairwise_singleton _ _⟩, HI6⟩
        case round =>
          obtain ⟨k, xs, rfl, hk1, hk, HZS, HPS, HIw⟩ := hrel
          have qv := (cell_of_heap HZS.out.var 0).trans rfl
          by_cases hlt : k < n
          · have HXL := hid (show xs.length = n from HPS.out.1.length_eq.trans HN.out)
            obtain ⟨key, hkey⟩ : ∃ a, xs[k]? = some a := ⟨_, List.getElem?_eq_getElem (by have := HXL.out; omega)⟩
            have HKEY := hid hkey
            have HXN := hid (show xs.Nodup from HPS.out.1.nodup_iff.2 HND.out)
            clear hkey
            go_wp2_with fail
            clear qv
            obtain ⟨wo, rfl⟩ : ∃ wo : World, wo = wr := ⟨_, rfl⟩
            go_loopw [14] (fun j wx => ∃ jj : Nat, j = .int .i64 jj ∧ jj ≤ k ∧ Hid (ZSt w wx base bo r1 (.slice (some ⟨g, 0, none⟩) n cap6) n (insAt (xs.take k) key jj ++ xs.drop (k + 1))) ∧ Hid (∀ a ∈ (xs.take k).drop jj, blt key a = true) ∧ Hid (I 0 wx)) (fun j _ => (intOf j).toNat)
            case atStart => exact ⟨k, rfl, Nat.le_refl _, hid (by rw [insAt_full HKEY.out]; exact HZS.out), hid (by rw [List.drop_eq_nil_of_le (by simp; omega)]; simp), HIw⟩
            case round =>
              obtain ⟨jj, rfl, hjj, HZX, HA, HIx⟩ := hrel
              have qx := (cell_of_heap HZX.out.var 0).trans rfl
              have HT := hid (show (xs.take k).length = k by rw [List.length_take]; have := HXL.out; omega)
              cases jj with
              | zero =>
                have hd : decide ((0 : Int) < ((0 : Nat) : Int)) = false := by decide
                go_wp2_with fail
                go_quiet (fail)
                go_wp2_with fail
                exact sort_fin hlt HXL.out HKEY.out HPS.out hjj (HZX.out.ext' (draws_ext _ _)) (HZ.out.ste 0 _ _ HIx.out (draws_ext _ _)) HA.out (by simp)
              | succ j =>
                have hj1 : ((j + 1 : Nat) : Int).toNat = j + 1 := by omega
                obtain ⟨a, ha⟩ : ∃ a, (xs.take k)[j]? = some a := ⟨_, List.getElem?_eq_getElem (by have := HT.out; omega)⟩
                have c1 := HZX.out.row.cellAt (j + 1) (by omega)
                have c0 := HZX.out.row.cellAt j (by omega)
                have f1 := HZX.out.row.frozenAt (j + 1)
                have f0 := HZX.out.row.frozenAt j
                rw [List.getElem?_map, List.getElem?_append_left (by rw [insAt_length]; have := HT.out; omega), insAt_at _ key (by have := HT.out; omega)] at c1
                rw [List.getElem?_map, List.getElem?_append_left (by rw [insAt_length]; have := HT.out; omega), insAt_before _ key (Nat.lt_succ_self j) (by have := HT.out; omega), ha] at c0
                simp only [Option.map_some] at c1 c0
                have HAA := hid ha
                have hd : (0 : Int) < ((j + 1 : Nat) : Int) := by omega
                clear ha
                cases hlb : blt key a
                · have hlt' : Op.bytesLess key.toList a.toList = false := hlb
                  have HLT := hid hlb
                  clear hlb
                  go_wp2_with fail
                  go_quiet (fail)
                  go_wp2_with fail
                  have hab : blt a key = true := by
                    rcases blt_tri key a with h | h | h
                    · rw [HLT.out] at h; cases h
                    · exfalso
                      subst h
                      have e1 := HAA.out
                      rw [List.getElem?_take, if_pos (by omega)] at e1
                      have := (List.getElem?_inj (by have := HXL.out; omega) HXN.out).1 (e1.trans HKEY.out.symm)
                      omega
                    · exact h
                  exact sort_fin hlt HXL.out HKEY.out HPS.out hjj (HZX.out.ext' (draws_ext _ _)) (HZ.out.ste 0 _ _ HIx.out (draws_ext _ _)) HA.out (take_lt HPS.out.2 HAA.out hab)
                · have hlt' : Op.bytesLess key.toList a.toList = true := hlb
                  have HLT := hid hlb
                  clear hlb
                  go_wp2_with fail
                  go_quiet (fail)
                  go_wp2_with fail
                  go_region
                  go_wp2_with fail
                  go_roundw
                  case rel =>
                    obtain ⟨z1, g1, cs1, k1, l1⟩ := (HZX.out.ext' (draws_ext _ (nq + 1))).put HB6.out.1 (j + 1) a
                    obtain ⟨z2, g2, cs2, k2, l2⟩ := z1.put HB6.out.1 j key
                    refine ⟨j, rfl, by omega, hid ?_, hid ?_, hid ?_⟩
                    · have e : (((insAt (xs.take k) key (j + 1) ++ xs.drop (k + 1)).set (j + 1) a).set j key) = insAt (xs.take k) key j ++ xs.drop (k + 1) := by
                        rw [set_app (by rw [insAt_length]; have := HT.out; omega), set_app (by rw [List.length_set, insAt_length]; have := HT.out; omega), insAt_swap HAA.out]
                      rw [← e]; exact z2
                    · intro b hb
                      rw [List.drop_eq_getElem_cons (by have := HT.out; omega)] at hb
                      rcases List.mem_cons.1 hb with rfl | hb
                      · have := HAA.out
                        rw [List.getElem?_eq_getElem (by have := HT.out; omega)] at this
                        cases this; exact HLT.out
                      · exact HA.out b hb
                    · refine HZ.out.st0 _ _ HIx.out ((((draws_ext _ (nq + 1)).still _ _).trans (still_grown g1 l1 k1 (HZ.out.nm _ _ _ _ l1 (by simp)))).trans (still_grown g2 l2 k2 (HZ.out.nm _ _ _ _ l2 (by simp))))
                  case measure => show ((j : Nat) : Int).toNat < ((j + 1 : Nat) : Int).toNat; omega
          · have HXS := hid (show xs = zipKeys m1 m2 from by
              have hl := HPS.out.1.length_eq.trans HN.out
              have hs := HPS.out.2
              rw [List.take_of_length_le (by omega)] at hs
              exact zip_sorted HZ.out.h1.nodup HZ.out.h2.nodup hs (HPS.out.1.trans HPERM.out))
            have HNN := hid (show (zipKeys m1 m2).length = n from by rw [← HXS.out]; exact HPS.out.1.length_eq.trans HN.out)
            have HFS := hid (show FSt S w wr bo r1 r2 (.slice (some ⟨g, 0, none⟩) n cap6) m1 m2 from by
              have hr := HZS.out.row.mono HB6.out.1
              rw [HXS.out] at hr
              exact ⟨HZS.out.var, by rw [HNN.out]; exact hr, HZS.out.box, HZ.out.h1.ext HZS.out.ext, HZ.out.h2.ext HZS.out.ext⟩)
            have HSW := hid HZS.out.ext.size
            have HB7 := hid (show w.heap.size ≤ bo from Nat.le_trans HB6.out.1 HB6.out.2)
            go_wp2_with fail
            clear qv HZS HPS HZ6 HI6 HPERM HND HN HXS
            go_loopw [94] (fun ix wx => ∃ kk : Nat, ix = .int .i64 kk ∧ kk ≤ n ∧ Hid (FSt S w wx bo r1 r2 (.slice (some ⟨g, 0, none⟩) n cap6) m1 m2) ∧ Hid (I kk wx) ∧ Hid (∀ j, j < kk → cont j = true) ∧ Hid (w.heap.size ≤ wx.heap.size)) (fun ix _ => n - (intOf ix).toNat)
            case atStart => exact ⟨0, rfl, Nat.zero_le _, HFS, HIw, hid (fun j hj => by omega), HSW⟩
            case round =>
              clear HFS HIw HSW
              obtain ⟨kk, rfl, hkk, HFS, HIk, HCT, HSW⟩ := hrel
              by_cases hlt2 : kk < n
              · obtain ⟨key, hkey⟩ : ∃ a, (zipKeys m1 m2)[kk]? = some a := ⟨_, List.getElem?_eq_getElem (by have := HNN.out; omega)⟩
                have HKEY := hid hkey
                have hkk2 : ((kk : Nat) : Int).toNat = kk := by omega
                have hrow := HFS.out.row
                rw [HNN.out] at hrow
                have c0 := hrow.cellAt kk (by omega)
                clear hrow
                rw [List.getElem?_map, hkey] at c0
                simp only [Option.map_some] at c0
                have qb := (cell_of_heap HFS.out.box 0).trans rfl
                clear hkey
                cases hc : cont kk
                all_goals
                  have HC := hid hc
                  have HFN := hid (HZ.out.fn kk key)
                  clear hc
                  rcases hl1 : lookKV m1 key with _ | t1
                  all_goals
                    have HL1 := hid hl1
                    clear hl1
                    rcases hl2 : lookKV m2 key with _ | t2
                    all_goals
                      have HL2 := hid hl2
                      clear hl2
                      go_wp2_with (first
                        | (go_at_call_of 206 r1; refine (getU_none S m1 r1 al key _ HFS.out.h1 HL1.out).mono ?_; rintro e w7 ⟨rfl, hE⟩; have HE7 := hid hE; have HOV1 := hid (optv_none (W := w7) HL1.out); clear hE)
                        | (go_at_call_of 206 r1; refine (getU_some S m1 r1 al key t1 _ HFS.out.h1 HL1.out).mono ?_; rintro e w7 ⟨b7, rfl, hV, hE⟩; have HE7 := hid hE; have HOV1 := hid (optv_some HL1.out hV); clear hE hV)
                        | (go_at_call_of 206 r2; refine (getU_none S m2 r2 al key _ (HFS.out.h2.ext HE7.out) HL2.out).mono ?_; rintro e w8 ⟨rfl, hE⟩; have HE78 := hid hE; have HE8 := hid (HE7.out.trans hE); have HOV2 := hid (optv_none (W := w8) HL2.out); clear hE)
                        | (go_at_call_of 206 r2; refine (getU_some S m2 r2 al key t2 _ (HFS.out.h2.ext HE7.out) HL2.out).mono ?_; rintro e w8 ⟨b8, rfl, hV, hE⟩; have HE78 := hid hE; have HE8 := hid (HE7.out.trans hE); have HOV2 := hid (optv_some HL2.out hV); clear hE hV)
                        | ((with_reducible show Calls Try.prog F _ _ _); refine (HFN.out _ _ _ HKEY.out (HZ.out.ste kk _ _ HIk.out HE8.out) (Nat.le_trans HSW.out HE8.out.size) (HOV1.out.ext HE78.out) HOV2.out).mono ?_; rw [HC.out]; rintro e w9 ⟨rfl, hI9, hm⟩; have HI9 := hid hI9; have HF9 := hid ((HFS.out.ext' HE8.out).mine HB7.out HZ.out.nm HZ.out.nr1 HZ.out.nr2 HZ.out.nS hm); have HS9 := hid (Nat.le_trans (Nat.le_trans HSW.out HE8.out.size) hm.size); clear hI9 hm)
                        | (go_at_call 174; refine (free_any _ _ _ _).mono ?_; rintro e w10 ⟨rfl, rfl⟩))
                all_goals first
                  | exact ⟨⟨kk + 1, by go_num, by omega, HF9, HI9, hid (fun j hj => by
                      rcases Nat.lt_or_ge j kk with h | h
                      · exact HCT.out j h
                      · obtain rfl : j = kk := by omega
                        exact HC.out), HS9⟩, by simp [intOf]; omega⟩
                  | (go_ret; exact ⟨kk + 1, false, rfl, ⟨by have := HNN.out; omega, fun j hj => HCT.out j (by omega), fun _ => ⟨kk, rfl, HC.out⟩⟩, HI9.out⟩)
              · have HI := hid HIk.out
                go_wp2_with fail
                go_ret
                have hkn : kk = (zipKeys m1 m2).length := by rw [HNN.out]; omega
                exact ⟨kk, true, rfl, ⟨by omega, fun j hj => HCT.out j (by omega), fun h => absurd h (by omega)⟩, HIk.out⟩
      · have h0 := HBB.out.1 rfl
        have HI0 := hid (show I 0 w2 from HZ.out.ste 0 _ _ HZ.out.i0 HE2.out)
        go_wp2_with fail
        go_ret
        refine ⟨0, true, rfl, ⟨Nat.zero_le _, fun j hj => by omega, fun h => ?_⟩, HI0.out⟩
        obtain ⟨rfl, rfl⟩ := h0
        simp [zipKeys, sortN] at h
end Go.Proofs.Ytempfaefopfobaa
