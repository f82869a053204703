/- Lex: going over two maps together in increasing order of the keys: the functions that collect the keys. -/
import Derived.Test.YtempfaefopfobaaIter
import Derived.Test.YtempfaefopfobaaCmpT
import Derived.Shelf.Abstract

set_option maxRecDepth 100000
namespace Go.Proofs.Ytempfaefopfobaa
open Go.ChangeShapes Go.WideShapes Go.ChangeAt Go.RowKit
set_option linter.unusedVariables false
set_option linter.unusedSimpArgs false

theorem Mine.refl (M : Nat → Obj → Prop) (W : World) : Mine M W W := (Ext.refl W).mine M
theorem Mine.trans {M : Nat → Obj → Prop} {a b c : World} (h : Mine M a b) (k : Mine M b c) : Mine M a c :=
  ⟨k.os.trans h.os, k.tape.trans h.tape, k.output.trans h.output, Nat.le_trans h.size k.size, fun i o hi hm => k.keep i o (h.keep i o hi hm) hm⟩
theorem mine_grown {M : Nat → Obj → Prop} {W W' : World} {row : Option Nat} (hg : W.grownBy W' row) (hM : ∀ b o, row = some b → W.heap[b]? = some o → M b o) : Mine M W W' :=
  ⟨hg.os, hg.tape, hg.output, hg.size, fun b o hb hm => (hg.block b (Array.getElem?_eq_some_iff.1 hb).1 (fun e => hm (hM b o e.symm hb))).trans hb⟩
theorem Mine.weak {M M' : Nat → Obj → Prop} {W W' : World} (h : Mine M W W') (hM : ∀ b o, M b o → M' b o) : Mine M' W W' := ⟨h.os, h.tape, h.output, h.size, fun b o hb hm => h.keep b o hb (fun h => hm (hM b o h))⟩
theorem Still.weak {H H' : Nat} {M : Nat → Obj → Prop} {W W' : World} (h : Still H' M W W') (hH : H ≤ H') : Still H M W W' := ⟨h.os, h.tape, h.output, h.size, fun b o hb hm => h.keep b o hb (hm.imp (fun h => by omega) id)⟩
theorem ownsRow_keep {w w' : World} {base : Nat} {e : TypeId} {size : Nat} {v : Value} {n : Nat} {xs : List Value} (h : w.ownsRow base e size v n xs) (hk : ∀ b cs, base ≤ b → w.heap[b]? = some (.cells cs e) → w'.heap[b]? = some (.cells cs e)) : w'.ownsRow base e size v n xs := by
  refine ⟨h.1, ?_⟩
  rcases h.2 with hn | ⟨g, cap, cur, rfl, hb, hgg, rest⟩
  · exact .inl hn
  · exact .inr ⟨g, cap, cur, rfl, hb, hk g cur hb hgg, rest⟩

/-- the variable in block bo holds a list of strings of the call's own -/
def KeysSt (base bo : Nat) (W : World) (ss : List ByteArray) : Prop := ∃ v, W.heap[bo]? = some (.cells #[v] 26) ∧ W.ownsRow base 9 1 v ss.length (ss.map Value.string)
def KM (base bo : Nat) : Nat → Obj → Prop := fun b o => (b = bo ∧ ∃ c fr, o = .cells c 26 fr) ∨ (base ≤ b ∧ ∃ c fr, o = .cells c 9 fr)
theorem own_ne {base bo : Nat} {W : World} {v u : Value} {n : Nat} {xs : List Value} (h1 : W.heap[bo]? = some (.cells #[u] 26)) (h2 : W.ownsRow base 9 1 v n xs) : ∀ b, v.ownBlock = some b → b ≠ bo := by
  intro b hb e
  subst e
  rcases h2.2 with ⟨rfl, _⟩ | ⟨g', cap', cur, rfl, hb', hgg, _⟩
  · cases hb
  · simp only [Value.ownBlock, Option.some.injEq] at hb
    subst hb
    rw [h1] at hgg
    simp at hgg
theorem KeysSt.still {base bo H : Nat} {W W' : World} {ss : List ByteArray} (h : KeysSt base bo W ss) (hs : Still H (KM base bo) W W') : KeysSt base bo W' ss := by
  obtain ⟨v, h1, h2⟩ := h
  exact ⟨v, hs.keep _ _ h1 (.inr (.inl ⟨rfl, _, _, rfl⟩)), ownsRow_keep h2 fun b cs hb hc => hs.keep _ _ hc (.inr (.inr ⟨hb, _, _, rfl⟩))⟩
theorem KeysSt.ext {base bo : Nat} {W W' : World} {ss : List ByteArray} (h : KeysSt base bo W ss) (hs : Ext W W') : KeysSt base bo W' ss := h.still (hs.still 0 _)
theorem keys_step {base bo g cap : Nat} {W W1 : World} {v : Value} {ss : List ByteArray} {key : ByteArray} (h1 : W.heap[bo]? = some (.cells #[v] 26)) (h2 : W.ownsRow base 9 1 v ss.length (ss.map Value.string))
    (hb : base ≤ W.heap.size) (o : Obj) (hown : W1.ownsRow base 9 1 (.slice (some ⟨g, 0, none⟩) (ss.length + 1) cap) (ss.length + 1) (ss.map Value.string ++ [.string key])) (hg : (W.alloc o).grownBy W1 v.ownBlock) :
    KeysSt base bo (W1.setCell ⟨bo, 0, none⟩ (.slice (some ⟨g, 0, none⟩) (ss.length + 1) cap)) (ss ++ [key]) ∧ Mine (KM base bo) W (W1.setCell ⟨bo, 0, none⟩ (.slice (some ⟨g, 0, none⟩) (ss.length + 1) cap)) := by
  have hE : Ext W (W.alloc o) := (Ext.refl W).alloc o
  have hge := own_ge h2
  have hbo1 : W1.heap[bo]? = some (.cells #[v] 26) := (hg.block bo (Array.getElem?_eq_some_iff.1 (hE.block h1)).1 (fun e => own_ne h1 h2 _ e.symm rfl)).trans (hE.block h1)
  have hgs := setCell_grown hbo1 0 (.slice (some ⟨g, 0, none⟩) (ss.length + 1) cap) 0
  have hg3 : W1.grownBy (W1.setCell ⟨bo, 0, none⟩ (.slice (some ⟨g, 0, none⟩) (ss.length + 1) cap)) (some bo) := ⟨hgs.os, hgs.tape, hgs.output, hgs.size, hgs.block⟩
  refine ⟨⟨_, (setCell_heap hbo1 0 _).trans rfl, ?_⟩, ((hE.mine _).trans (mine_grown hg fun b o' e ho => ?_)).trans (mine_grown hg3 fun b o' e ho => .inl (by cases e; rw [hbo1] at ho; cases ho; exact ⟨rfl, _, _, rfl⟩))⟩
  · have := hown.kept hg3 (.inr (fun e => own_ne hbo1 hown _ e rfl))
    simpa using this
  · refine .inr ⟨hge b e, ?_⟩
    rcases h2.2 with ⟨rfl, _⟩ | ⟨g', cap', cur, rfl, hb', hgg, _⟩
    · cases e
    · simp only [Value.ownBlock, Option.some.injEq] at e
      subst e
      rw [hE.block hgg] at ho
      cases ho
      exact ⟨_, _, rfl⟩
theorem add_key (key : ByteArray) (x : Value) (bo base : Nat) (ss : List ByteArray) (W : World) (h : KeysSt base bo W ss) (hb : base ≤ W.heap.size) (hn : (ss.length + 1) * 16 ≤ 140737488351232) :
    Calls Try.prog 220 #[.string key, x, .pointer (some ⟨bo, 0, none⟩)] W fun e W' => e = .returned (.bool true) ∧ KeysSt base bo W' (ss ++ [key]) ∧ Mine (KM base bo) W W' := by
  obtain ⟨i0, hi, hz0, hz1, hz2⟩ := info_parts info_str
  obtain ⟨v, h1, h2⟩ := h
  have q0 := (cell_of_heap h1 0).trans rfl
  have q1 := free_of_heap h1 0
  have ST := hid (fun o g cap W1 => keys_step (g := g) (cap := cap) (W1 := W1) (key := key) h1 h2 hb o)
  have HO := hid h2
  have HH := hid h1
  have hge := hid (own_ne h1 h2)
  clear h1 h2
  go_enter Try.func220, Try.ntmps220
  go_wp2_with (first | (at_builtin; refine wpList_append_lies _ rfl (.tmp 6) (.tmp 8) 26 rfl base 9 i0 _ 1 16 Try.underlying26 hi hz0 hz1 hz2 rfl (by decide) v ss.length (ss.map Value.string) rfl (HO.out.alloc _) ⟨W.heap.size, 0, none⟩ 1 1 [.string key] rfl rfl (cell_one_new _ _ _) (by simp [Value.oneCell']) (by decide) (by unfold maxLen; omega) (by omega) (by simp; omega) (W.heap.size + 1) (by simp) ?_; intro g cap w3 hown3 hg3 hat hlt3; have ST3 := hid (ST.out _ g cap w3 hown3 hg3); have hbo3 : w3.heap[bo]? = some (.cells #[v] 26) := (hg3.block bo (by have := (Array.getElem?_eq_some_iff.1 HH.out).1; simp; omega) (fun e => hge.out _ e.symm rfl)).trans (((Ext.refl W).alloc _).block HH.out); have q2 := (cell_of_heap hbo3 0).trans rfl; have q3 := free_of_heap hbo3 0; clear hbo3 hown3 hg3 hat hlt3))
  go_ret
  exact ⟨rfl, ST3.out⟩
set_option maxHeartbeats 1000000 in
theorem add_key2 (S : Nat → Prop) (m1 : List (ByteArray × Tree)) (r1 b5 : Nat) (key : ByteArray) (x : Value) (bo base : Nat) (ss : List ByteArray) (W : World) (hM : RepM S W m1 r1) (h5 : W.heap[b5]? = some (.cells #[.iface 316 (.map (some r1))] 103))
    (h : KeysSt base bo W ss) (hb : base ≤ W.heap.size) (hn : (ss.length + 1) * 16 ≤ 140737488351232) :
    Calls Try.prog 221 #[.string key, x, .pointer (some ⟨b5, 0, none⟩), .pointer (some ⟨bo, 0, none⟩)] W fun e W' => e = .returned (.bool true) ∧ KeysSt base bo W' (if (lookKV m1 key).isSome = true then ss else ss ++ [key]) ∧ Mine (KM base bo) W W' := by
  obtain ⟨i0, hi, hz0, hz1, hz2⟩ := info_parts info_str
  have HAS := hid (has_any S m1 r1 key W hM)
  have q5 := (cell_of_heap h5 0).trans rfl
  have HB := hid hb
  have KS := hid h
  have HH5 := hid h5
  clear hM h5 h hb
  cases hl : (lookKV m1 key).isSome
  · rw [hl] at HAS
    clear hl
    rw [if_neg (by simp)]
    go_enter Try.func221, Try.ntmps221
    go_wp2_with (first
      | (go_at_call 207; refine HAS.out.mono ?_; rintro e w2 ⟨rfl, hE⟩; have HE := hid hE; have K2 := hid (KS.out.ext hE); have HB2 := hid (Nat.le_trans HB.out hE.size); clear hE; obtain ⟨v, h1, h2⟩ := KS.out.ext HE.out; have q0 := (cell_of_heap h1 0).trans rfl; have q1 := free_of_heap h1 0; have ST := hid (fun o g cap W1 => keys_step (g := g) (cap := cap) (W1 := W1) (key := key) h1 h2 HB2.out o); have HO := hid h2; have HH := hid h1; have hge := hid (own_ne h1 h2); clear h1 h2)
      | (at_builtin; refine wpList_append_lies _ rfl (.tmp 15) (.tmp 17) 26 rfl base 9 i0 _ 1 16 Try.underlying26 hi hz0 hz1 hz2 rfl (by decide) v ss.length (ss.map Value.string) rfl (HO.out.alloc _) ⟨w2.heap.size, 0, none⟩ 1 1 [.string key] rfl rfl (cell_one_new _ _ _) (by simp [Value.oneCell']) (by decide) (by unfold maxLen; omega) (by omega) (by have := HB2.out; simp; omega) (w2.heap.size + 1) (by simp) ?_; intro g cap w3 hown3 hg3 hat hlt3; have ST3 := hid (ST.out _ g cap w3 hown3 hg3); have hbo3 : w3.heap[bo]? = some (.cells #[v] 26) := (hg3.block bo (by have := (Array.getElem?_eq_some_iff.1 HH.out).1; simp; omega) (fun e => hge.out _ e.symm rfl)).trans (((Ext.refl w2).alloc _).block HH.out); have q2 := (cell_of_heap hbo3 0).trans rfl; have q3 := free_of_heap hbo3 0; clear hbo3 hown3 hg3 hat hlt3))
    go_ret
    exact ⟨rfl, ST3.out.1, (HE.out.mine _).trans ST3.out.2⟩
  · rw [hl] at HAS
    clear hl
    rw [if_pos rfl]
    go_enter Try.func221, Try.ntmps221
    go_wp2_with (first
      | (go_at_call 207; refine HAS.out.mono ?_; rintro e w2 ⟨rfl, hE⟩; have HE := hid hE; clear hE))
    go_ret
    exact ⟨rfl, KS.out.ext HE.out, HE.out.mine _⟩
end Go.Proofs.Ytempfaefopfobaa
