/- ItemG: spec.Field of whatever clean value; spec.ItemElem. -/
import Derived.Test.YtempfaefopfobaaDoorGuessP
import Derived.Test.YtempfaefopfobaaDoorField

set_option maxRecDepth 100000
namespace Go.Proofs.YtempfaefopfobaaDoor
open Go.ChangeShapes Go.WideShapes Go.ChangeAt Go.RowKit
set_option linter.unusedVariables false
set_option linter.unusedSimpArgs false

theorem fromT_kind (t : Tree) : (fromT t).kind = kcode t := by cases t <;> rfl
theorem fromT_keys {t : Tree} (h : kcode t ≠ 6) : (fromT t).keys = [] := by cases t <;> first | rfl | exact absurd rfl h
set_option maxHeartbeats 1000000 in
theorem field_not (S : Nat → Prop) (g : GV) (key : ByteArray) (w : World) (cs : List Value) (hR : RepGV S w g cs) (h6 : (g.kind == 6) = false) (hk0 : g.keys = []) :
    Calls Tryd.prog 13 #[.agg cs.toArray, .string key] w fun e w' => ∃ cs', e = .returned (.tuple #[.agg cs'.toArray, .bool false]) ∧ RepGV S w' zeroG cs' ∧ Ext w w' := by
  cases hR with
  | @mk kd n f s ks l kv la lb lo lc hk hn hf hs hks hle hsz ha hcs hl =>
    simp only [GV.kind] at h6
    simp only [GV.keys] at hk0
    subst hk0
    have HKS := hid hks
    obtain ⟨ka, kb, ko, kc, rfl, _⟩ := hks
    have bx := hid (boxes2 w (.cells #[.int .i64 kd, .int .i64 n, .float .f64 f, .string s, .slice ka 0 kc, .slice la l.length lc] 26) (.cells #[.int .i64 0, .int .i64 0, .float .f64 0, .string ⟨#[]⟩, .slice none 0 0, .slice none 0 0] 26))
    clear hcs hl hk hn hf hs
    have FI := hid (fun (W : World) (hW : Ext w W) =>
      show Calls Tryd.prog 24 #[.agg #[.int .i64 kd, .int .i64 n, .float .f64 f, .string s, .slice ka 0 kc, .slice la l.length lc], .string key] W fun e w' => e = .returned (.tuple #[.int .i64 0, .bool false]) ∧ Ext W w' from
        fieldIndex_any kd n f s _ _ [] key W (HKS.out.ext hW) List.Pairwise.nil ⟨_, _, _, rfl⟩)
    go_enter Tryd.func13, Tryd.ntmps13
    go_wp2_with (go_at_call 24; refine (FI.out _ (((Ext.refl _).alloc _).alloc _)).mono ?_; rintro e w2 ⟨rfl, hE⟩; obtain ⟨x1, x2, hEE⟩ := bx.out w2 (Below.mono hE (by simp)); obtain ⟨⟨z0, z1, z2, z3, z4, z5⟩, f0, f1, f2, f3, f4, f5⟩ := slot6 x2; obtain ⟨⟨o0, o1, o2, o3, o4, o5⟩, _⟩ := slot6 x1; have X2 := hid x2; have HEE := hid hEE; have HE := hid hE; clear hE x1 x2 hEE)
    all_goals
      have x6 := set6_below HEE.out (b := w.heap.size + 1) (by omega) (.int .i64 0) (.int .i64 0) (.float .f64 0) (.string ⟨#[]⟩) (.slice none 0 0) (.slice none 0 0)
      have e6 := set6_heap X2.out (.int .i64 0) (.int .i64 0) (.float .f64 0) (.string ⟨#[]⟩) (.slice none 0 0) (.slice none 0 0)
      change bodyPost _ _ _ _ _ (set6 w2 (w.heap.size + 1) (.int .i64 0) (.int .i64 0) (.float .f64 0) (.string ⟨#[]⟩) (.slice none 0 0) (.slice none 0 0))
      generalize set6 w2 (w.heap.size + 1) (.int .i64 0) (.int .i64 0) (.float .f64 0) (.string ⟨#[]⟩) (.slice none 0 0) (.slice none 0 0) = WF at *
      obtain ⟨⟨y0, y1, y2, y3, y4, y5⟩, _⟩ := slot6 e6
      refine bodyPost_ret (v := .tuple #[.agg #[.int .i64 0, .int .i64 0, .float .f64 0, .string ⟨#[]⟩, .slice none 0 0, .slice none 0 0], .bool false]) (by simp [results, Tryd.results13, go_sem, y0, y1, y2, y3, y4, y5]) rfl ?_
      exact ⟨[_, _, _, _, _, _], rfl, zeroRep _ _, x6⟩
theorem plainT_map {g : GV} {m : List (ByteArray × Tree)} (h : plainT g = .map m) : m = plainMapT g := by
  cases g with
  | mk k n f s ks l =>
    unfold plainT at h
    by_cases h1 : k = 1
    · rw [if_pos h1] at h; cases h
    rw [if_neg h1] at h
    by_cases h2 : k = 2
    · rw [if_pos h2] at h; cases h
    rw [if_neg h2] at h
    by_cases h3 : k = 3
    · rw [if_pos h3] at h; cases h
    rw [if_neg h3] at h
    by_cases h4 : k = 4
    · rw [if_pos h4] at h; cases h
    rw [if_neg h4] at h
    by_cases h5 : k = 5
    · rw [if_pos h5] at h; cases h
    rw [if_neg h5] at h
    by_cases h6 : k = 6
    · rw [if_pos h6] at h; cases h; rfl
    · rw [if_neg h6] at h; cases h
/-- spec.Field of a clean value, be it a map or not -/
theorem fieldC (S : Nat → Prop) (g : GV) (key : ByteArray) (w : World) (cs : List Value) (hR : RepGV S w (cleanG g) cs) :
    Calls Tryd.prog 13 #[.agg cs.toArray, .string key] w fun e w' => ∃ cs', e = .returned (.tuple #[.agg cs'.toArray, .bool (fieldT (plainT g) key).isSome]) ∧ RepGV S w' ((fieldT (plainT g) key).elim zeroG fromT) cs' ∧ Ext w w' := by
  cases h6 : (kcode (plainT g) == 6)
  · have e1 : fieldT (plainT g) key = none := by
      cases ht : plainT g with
      | map m => rw [ht] at h6; cases h6
      | _ => rfl
    rw [e1]
    refine (field_not S (cleanG g) key w cs hR ?_ ?_)
    · rw [clean_eq, fromT_kind]; simp at h6 ⊢; omega
    · rw [clean_eq]; exact fromT_keys (by simpa using h6)
  · obtain ⟨m, hm⟩ : ∃ m, plainT g = .map m := by
      cases ht : plainT g with
      | map m => exact ⟨m, rfl⟩
      | _ => rw [ht] at h6; cases h6
    have hrel : Rel (cleanG g) m := by
      have h := rel_clean g
      have e := h.eq
      rw [← plainT_map hm, ← hm, ← clean_eq] at e
      rw [← e, plainT_map hm]; exact h
    have := field_S S (cleanG g) key w cs hR (by rw [hrel.head]; rfl) hrel.map
    rw [hm]
    show Calls _ _ _ _ fun e w' => ∃ cs', e = .returned (.tuple #[.agg cs'.toArray, .bool (lookKV m key).isSome]) ∧ RepGV S w' ((lookKV m key).elim zeroG fromT) cs' ∧ Ext w w'
    have e1 : (fieldG (cleanG g) key).isSome = (lookKV m key).isSome := by rw [hrel.at_ key]; simp
    have e2 : (fieldG (cleanG g) key).getD zeroG = (lookKV m key).elim zeroG fromT := by
      rw [hrel.at_ key]
      cases lookKV m key <;> rfl
    rwa [e1, e2] at this

theorem inv6 (S : Nat → Prop) (w : World) (g : GV) (cs : List Value) (h : RepGV S w g cs) : ∃ u2 u3 u4 u5 u6 u7 u8 u9 u10, cs = [.int .i64 g.kind, .int .i64 u2, .float .f64 u3, .string u4, .slice u5 u6 u7, .slice u8 u9 u10] := by
  cases h with
  | mk hk hn hf hs hks hle hsz ha hcs hl =>
    obtain ⟨a, b, o, cap, rfl, _⟩ := hks
    exact ⟨_, _, _, _, _, _, _, _, _, rfl⟩
/-- the box of the element to be (block O), its row of names, its row of values, while the fields are laid in: the values may lie anywhere else -/
structure EA (w0 W : World) (T : Nat → Prop) (O R : Nat) (kv lv : Value) (n m : Nat) (ks : List ByteArray) (xs : List Value) (gs : List GV) : Prop where
  below : Below O w0 W
  out : W.heap[O]? = some (.cells #[.int .i64 1, .string ⟨#[]⟩, kv, lv, .int .i64 0, .int .i64 0, .float .f64 0, .string ⟨#[]⟩, .slice none 0 0, .slice none 0 0, .int .i64 0] 29)
  hB : O + 1 ≤ W.heap.size
  krow : W.ownsRow (O + 1) 9 1 kv n (ks.map Value.string)
  lrow : W.ownsRow (O + 1) 26 6 lv m xs
  row : RowGV (fun b => T b ∧ b ≠ O ∧ b ≠ R ∧ some b ≠ lv.ownBlock ∧ some b ≠ kv.ownBlock) W xs gs
section
variable {w0 W w3 : World} {T : Nat → Prop} {O R n m c : Nat} {kv lv : Value} {ks : List ByteArray} {xs cs : List Value} {gs : List GV}
theorem EA.ext' (h : EA w0 W T O R kv lv n m ks xs gs) (E : Ext W w3) : EA w0 w3 T O R kv lv n m ks xs gs :=
  ⟨below_ext h.below E (by have := h.hB; omega), E.block h.out, Nat.le_trans h.hB E.size, ownsRow_ext h.krow E, ownsRow_ext h.lrow E, h.row.mono (E.same _) (fun _ h _ => h)⟩
theorem EA.out_kept (h : EA w0 W T O R kv lv n m ks xs gs) {row : Option Nat} (hg : W.grownBy w3 row) (hr : ∀ b, row = some b → O + 1 ≤ b) : w3.heap[O]? = some (.cells #[.int .i64 1, .string ⟨#[]⟩, kv, lv, .int .i64 0, .int .i64 0, .float .f64 0, .string ⟨#[]⟩, .slice none 0 0, .slice none 0 0, .int .i64 0] 29) :=
  (hg.block O (by have := h.hB; omega) (fun e => by have := hr O e.symm; omega)).trans h.out
theorem EA.below_kept (h : EA w0 W T O R kv lv n m ks xs gs) {row : Option Nat} (hg : W.grownBy w3 row) (hr : ∀ b, row = some b → O + 1 ≤ b) (v : Value) (j : Nat) : Below O w0 (w3.setCell ⟨O, j, none⟩ v) := by
  refine Below.setCell (h.below.trans ⟨hg.os, hg.tape, hg.output, ?_, fun i hi => ?_⟩) (Nat.le_refl _) _
  · have := hg.size; have := h.hB; omega
  · have := h.hB
    exact hg.block i (by omega) (fun e => by have := hr i e.symm; omega)
theorem EA.key (h : EA w0 W T O R kv lv n m ks xs gs) (s : ByteArray) {kv' : Value} (hg : W.grownBy w3 kv.ownBlock) (hown : w3.ownsRow (O + 1) 9 1 kv' (n + 1) (ks.map Value.string ++ [.string s]))
    (hat : ∀ g, kv'.ownBlock = some g → kv.ownBlock = some g ∨ W.heap.size ≤ g) : EA w0 (w3.setCell ⟨O, 2, none⟩ kv') T O R kv' lv (n + 1) m (ks ++ [s]) xs gs := by
  have hge := own_ge h.krow
  have hne : lv.ownBlock = none ∨ lv.ownBlock ≠ kv.ownBlock := own_apart h.lrow h.krow (by decide)
  have ho := h.out_kept hg hge
  refine ⟨h.below_kept hg hge _ _, (setCell_heap ho 2 _).trans rfl, by have := hg.size; have := h.hB; simp; omega, ?_, ownsRow_setCell_below (h.lrow.kept hg hne) (Nat.lt_succ_self _) _, ?_⟩
  · have := ownsRow_setCell_below hown (a := ⟨O, 2, none⟩) (Nat.lt_succ_self _) kv'
    simpa using this
  · refine h.row.mono (fun b o hb hob => ?_) (fun b hb hlt => ⟨hb.1, hb.2.1, hb.2.2.1, hb.2.2.2.1, fun e => ?_⟩)
    · rw [Below.heap_setCell _ _ _ _ (show b ≠ O from hb.2.1)]
      exact (hg.block b (Array.getElem?_eq_some_iff.1 hob).1 hb.2.2.2.2).trans hob
    · rcases hat b e.symm with h1 | h1
      · exact hb.2.2.2.2 h1.symm
      · omega
theorem EA.val (h : EA w0 W T O R kv lv n m ks xs gs) {gv : GV} {lv' : Value} (hg : W.grownBy w3 lv.ownBlock) (hown : w3.ownsRow (O + 1) 26 6 lv' (m + 1) (xs ++ cs))
    (hT : RepGV (fun b => T b ∧ b ≠ O ∧ b ≠ R ∧ some b ≠ lv.ownBlock ∧ some b ≠ kv.ownBlock) W gv cs) (hat : ∀ g, lv'.ownBlock = some g → lv.ownBlock = some g ∨ W.heap.size ≤ g) : EA w0 (w3.setCell ⟨O, 3, none⟩ lv') T O R kv lv' n (m + 1) ks (xs ++ cs) (gs ++ [gv]) := by
  have hge := own_ge h.lrow
  have hne : kv.ownBlock = none ∨ kv.ownBlock ≠ lv.ownBlock := own_apart h.krow h.lrow (by decide)
  have ho := h.out_kept hg hge
  have hs : Same (fun b => T b ∧ b ≠ O ∧ b ≠ R ∧ some b ≠ lv.ownBlock ∧ some b ≠ kv.ownBlock) W (w3.setCell ⟨O, 3, none⟩ lv') := fun b o hb hob => by
    rw [Below.heap_setCell _ _ _ _ (show b ≠ O from hb.2.1)]
    exact (hg.block b (Array.getElem?_eq_some_iff.1 hob).1 hb.2.2.2.1).trans hob
  have hS : ∀ b, (T b ∧ b ≠ O ∧ b ≠ R ∧ some b ≠ lv.ownBlock ∧ some b ≠ kv.ownBlock) → b < W.heap.size → T b ∧ b ≠ O ∧ b ≠ R ∧ some b ≠ lv'.ownBlock ∧ some b ≠ kv.ownBlock := fun b hb hlt => ⟨hb.1, hb.2.1, hb.2.2.1, fun e => by
    rcases hat b e.symm with h1 | h1
    · exact hb.2.2.2.1 h1.symm
    · omega, hb.2.2.2.2⟩
  exact ⟨h.below_kept hg hge _ _, (setCell_heap ho 3 _).trans rfl, by have := hg.size; have := h.hB; simp; omega, ownsRow_setCell_below (h.krow.kept hg hne) (Nat.lt_succ_self _) _, ownsRow_setCell_below hown (Nat.lt_succ_self _) _, (h.row.mono hs hS).append (RowGV.one (hT.mono hs hS))⟩
end
end Go.Proofs.YtempfaefopfobaaDoor
