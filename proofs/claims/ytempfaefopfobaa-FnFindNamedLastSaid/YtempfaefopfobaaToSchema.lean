/- ToSchema: impl.toRef, toAtom, toListType, toField, toMap: a part of a schema as the package's own. -/
import Derived.Test.YtempfaefopfobaaSchema
import Derived.Test.YtempfaefopfobaaSetL
import Derived.Test.YtempfaefopfobaaPlain
import Derived.Test.YtempfaefopfobaaStep
import Derived.Deep.Cut
import Derived.Deep.RegionHeld3

namespace Go.Proofs.Ytempfaefopfobaa
open Go.ChangeShapes Go.WideShapes Go.ChangeAt Go.RowKit
set_option linter.unusedVariables false
set_option linter.unusedSimpArgs false

def ToOK (f : FuncId) (tag : Nat) (g : GS) : Prop := g.tag = tag → ∀ (w : World) (cs : List Value), RepGS Any w g cs →
  Calls Try.prog f #[.agg cs.toArray] w fun e w' => ∃ cs', e = .returned (.agg cs'.toArray) ∧ RepS (fun b => w.heap.size ≤ b) w' g cs' ∧ Ext w w'

section
variable {S : Nat → Prop} {w : World} {g : GS} {cs : List Value}
theorem RepS.formA (h : RepS S w g cs) (ht : g.tag = 2) : ∃ p q r, cs = [.pointer p, .pointer q, .pointer r] := by
  cases h with
  | @atom sc ls ms sp lp mp lb mb lcs mcs h1 hs hl0 hlb hl hm0 hmb hm =>
    obtain ⟨p, rfl⟩ := hs.form
    refine ⟨p, if ls.length = 0 then none else some ⟨lb, 0, none⟩, if ms.length = 0 then none else some ⟨mb, 0, none⟩, ?_⟩
    rw [hl0, hm0]
    split <;> split <;> rfl
  | _ => cases ht
theorem RepS.formR (h : RepS S w g cs) (ht : g.tag = 1) : ∃ p q r s t, cs = [.pointer p, .pointer q, .pointer r, .pointer s, .pointer t, .bool false] := by
  cases h with
  | refN hN hn h1 h2 hr => obtain ⟨p, rfl⟩ := hr.form; exact ⟨_, _, _, _, _, rfl⟩
  | refA ht' ha h2 hr => obtain ⟨p, rfl⟩ := hr.form; obtain ⟨_, _, _, e⟩ := ha.formA ht'; simp only [List.cons.injEq, and_true] at e; obtain ⟨rfl, rfl, rfl⟩ := e; exact ⟨_, _, _, _, _, rfl⟩
  | _ => cases ht
theorem RepGS.formA (h : RepGS S w g cs) (ht : g.tag = 2) : ∃ s p0 p1 p2 q0 q1 q2, cs = [.string s, .slice p0 p1 p2, .slice q0 q1 q2] := by
  cases h <;> first | exact ⟨_, _, _, _, _, _, _, rfl⟩ | cases ht
theorem RepGS.formR (h : RepGS S w g cs) (ht : g.tag = 1) : ∃ b n s p0 p1 p2 q0 q1 q2 r, cs = [.bool b, .string n, .string s, .slice p0 p1 p2, .slice q0 q1 q2, .string r] := by
  cases h with
  | ref h1 h2 ht' ha => obtain ⟨_, _, _, _, _, _, _, e⟩ := ha.formA ht'; simp only [List.cons.injEq, and_true] at e; obtain ⟨rfl, rfl, rfl⟩ := e; exact ⟨_, _, _, _, _, _, _, _, _, _, rfl⟩
  | _ => cases ht
end
theorem isEmpty_size (s : ByteArray) : s.toList.isEmpty = decide (s.size = 0) := by
  rw [Go.ByteArray.toList_eq]
  cases h : s.data.toList with
  | nil =>
    have : s.size = 0 := by have := congrArg List.length h; simpa using this
    simp [this]
  | cons x xs =>
    have : s.size ≠ 0 := by have := congrArg List.length h; simp at this; intro e; have e2 : s.data.size = 0 := e; omega
    simp [this]

set_option maxRecDepth 100000 in
set_option maxHeartbeats 2000000 in
theorem toRef_of (nm : Bool) (name rel : ByteArray) (a : GS) (ih : ToOK 106 2 a) : ToOK 82 1 (.ref nm name a rel) := by
  intro _ w cs hR
  cases hR with
  | @ref _ _ _ _ c0 c1 c2 h1 h2 ht ha =>
  have HA := hid ha
  have HI := hid ih
  have HT := hid ht
  obtain ⟨s, p0, p1, p2, q0, q1, q2, e⟩ := ha.formA ht
  simp only [List.cons.injEq, and_true] at e
  obtain ⟨rfl, rfl, rfl⟩ := e
  clear ha ih ht
  have hd := isEmpty_size rel
  cases nm
  · go_enter Try.func82, Try.ntmps82
    go_upto_region 6 with (go_at_call 106; refine (HI.out HT.out _ _ (HA.out.ext ((((Ext.refl _).alloc _).alloc _).alloc _))).mono ?_; rintro e w2 ⟨cs1, rfl, hT, hE⟩; obtain ⟨u0, u1, u2, rfl⟩ := hT.formA HT.out; have HT1 := hid hT; have HE1 := hid hE; obtain ⟨x1, x2, x3, hEE⟩ := boxes3 w _ _ _ w2 (Below.mono hE (by simp)); have X1 := hid x1; have X2 := hid x2; have X3 := hid x3; have HEE := hid hEE; obtain ⟨⟨t0, t1, t2, t3, t4, t5⟩, t6, t7, t8, t9, t10, t11⟩ := slot6 x3; clear hT hE x1 x2 x3 hEE)
    have HTy := hid (HT1.out.mono (S' := fun b => w.heap.size + 3 ≤ b) (w' := setL w2 (w.heap.size + 1 + 1) 1 [.pointer u0, .pointer u1, .pointer u2]) (fun b o hb ho => (setL_other (by simp at hb; omega) _).trans ho) (fun b hb _ => by simp at hb; omega))
    have x1 := (setL_other (W := w2) (b := w.heap.size + 1 + 1) (i := w.heap.size) (o := 1) (by omega) [.pointer u0, .pointer u1, .pointer u2]).trans X1.out
    have x2 := (setL_other (W := w2) (b := w.heap.size + 1 + 1) (i := w.heap.size + 1) (o := 1) (by omega) [.pointer u0, .pointer u1, .pointer u2]).trans X2.out
    have x3 := setL_heap (W := w2) (b := w.heap.size + 1 + 1) [.pointer u0, .pointer u1, .pointer u2] [.pointer none] [.pointer none, .pointer none, .pointer none, .pointer none, .bool false] X3.out (by simp)
    have HEx := hid (setL_below HEE.out (show w.heap.size ≤ w.heap.size + 1 + 1 by omega) 1 [.pointer u0, .pointer u1, .pointer u2])
    change Code.wp _ _ _ _ (setL w2 (w.heap.size + 1 + 1) 1 [.pointer u0, .pointer u1, .pointer u2])
    change (setL w2 (w.heap.size + 1 + 1) 1 [.pointer u0, .pointer u1, .pointer u2]).heap[w.heap.size + 1 + 1]? = some (.cells #[.pointer none, .pointer u0, .pointer u1, .pointer u2, .pointer none, .bool false] _) at x3
    clear X1 X2 X3 HEE HT1 HE1 t0 t1 t2 t3 t4 t5 t6 t7 t8 t9 t10 t11
    generalize setL w2 (w.heap.size + 1 + 1) 1 [.pointer u0, .pointer u1, .pointer u2] = wx at *
    have X1 := hid x1
    have X2 := hid x2
    have X3 := hid x3
    obtain ⟨⟨y0, y1, y2, y3, y4, y5⟩, -⟩ := slot6 x1
    obtain ⟨⟨z0, z1, z2, z3, z4, z5⟩, z6, z7, z8, z9, z10, z11⟩ := slot6 x2
    obtain ⟨⟨t0, t1, t2, t3, t4, t5⟩, t6, t7, t8, t9, t10, t11⟩ := slot6 x3
    have A2 := fun o => slot6 (((Ext.refl wx).alloc o).block x2)
    have A3 := fun o => slot6 (((Ext.refl wx).alloc o).block x3)
    clear x1 x2 x3
    by_cases hr : rel.size = 0
    all_goals
      simp only [hr, decide_true, decide_false] at hd
      have Hr := hid hr
      clear hr
      go_wp2_with fail
    · change bodyPost _ _ _ _ _ (setL wx (w.heap.size + 1) 0 [.pointer none, .pointer u0, .pointer u1, .pointer u2, .pointer none, .bool false])
      have q2 := setL_all X2.out [.pointer none, .pointer u0, .pointer u1, .pointer u2, .pointer none, .bool false] rfl
      have qE := hid (setL_below HEx.out (show w.heap.size ≤ w.heap.size + 1 by omega) 0 [.pointer none, .pointer u0, .pointer u1, .pointer u2, .pointer none, .bool false])
      have qT := hid (HTy.out.mono (S' := fun b => w.heap.size ≤ b) (w' := setL wx (w.heap.size + 1) 0 [.pointer none, .pointer u0, .pointer u1, .pointer u2, .pointer none, .bool false]) (fun b o hb ho => (setL_other (by omega) _).trans ho) (fun b hb _ => by omega))
      generalize setL wx (w.heap.size + 1) 0 [.pointer none, .pointer u0, .pointer u1, .pointer u2, .pointer none, .bool false] = WF at *
      obtain ⟨⟨o0, o1, o2, o3, o4, o5⟩, -⟩ := slot6 q2
      refine bodyPost_ret (v := .agg #[.pointer none, .pointer u0, .pointer u1, .pointer u2, .pointer none, .bool false]) (by simp [results, Try.results82, go_sem, o0, o1, o2, o3, o4, o5]) rfl ?_
      exact ⟨[_, _, _, _, _, _], rfl, .refA HT.out qT.out h2 (.inl ⟨Hr.out, rfl⟩), qE.out⟩
    · have hsz := HEx.out.size
      have hs3 := (Array.getElem?_eq_some_iff.1 X3.out).1
      have HE1 := hid (setL_below (Ext.alloc HEx.out (.cells #[.string rel] 127)) (show w.heap.size ≤ w.heap.size + 1 + 1 by omega) 4 [.pointer (some ⟨wx.heap.size, 0, none⟩)])
      have x2 := (setL_other (W := wx.alloc (.cells #[.string rel] 127)) (b := w.heap.size + 1 + 1) (i := w.heap.size + 1) (o := 4) (by omega) [.pointer (some ⟨wx.heap.size, 0, none⟩)]).trans (((Ext.refl wx).alloc _).block X2.out)
      have xr := (setL_other (W := wx.alloc (.cells #[.string rel] 127)) (b := w.heap.size + 1 + 1) (i := wx.heap.size) (o := 4) (by omega) [.pointer (some ⟨wx.heap.size, 0, none⟩)]).trans (heap_alloc_new _ _)
      have qT := hid (HTy.out.mono (S' := fun b => w.heap.size + 3 ≤ b) (w' := setL (wx.alloc (.cells #[.string rel] 127)) (w.heap.size + 1 + 1) 4 [.pointer (some ⟨wx.heap.size, 0, none⟩)]) (fun b o hb ho => (setL_other (by omega) _).trans (((Ext.refl wx).alloc _).block ho)) (fun b hb _ => by omega))
      change bodyPost _ _ _ _ _ (setL (setL (wx.alloc (.cells #[.string rel] 127)) (w.heap.size + 1 + 1) 4 [.pointer (some ⟨wx.heap.size, 0, none⟩)]) (w.heap.size + 1) 0 [.pointer none, .pointer u0, .pointer u1, .pointer u2, .pointer (some ⟨wx.heap.size, 0, none⟩), .bool false])
      generalize setL (wx.alloc (.cells #[.string rel] 127)) (w.heap.size + 1 + 1) 4 [.pointer (some ⟨wx.heap.size, 0, none⟩)] = W1 at *
      have q2 := setL_all x2 [.pointer none, .pointer u0, .pointer u1, .pointer u2, .pointer (some ⟨wx.heap.size, 0, none⟩), .bool false] rfl
      have qr := (setL_other (W := W1) (b := w.heap.size + 1) (i := wx.heap.size) (o := 0) (by omega) [.pointer none, .pointer u0, .pointer u1, .pointer u2, .pointer (some ⟨wx.heap.size, 0, none⟩), .bool false]).trans xr
      have qE := hid (setL_below HE1.out (show w.heap.size ≤ w.heap.size + 1 by omega) 0 [.pointer none, .pointer u0, .pointer u1, .pointer u2, .pointer (some ⟨wx.heap.size, 0, none⟩), .bool false])
      replace qT := hid (qT.out.mono (S' := fun b => w.heap.size ≤ b) (w' := setL W1 (w.heap.size + 1) 0 [.pointer none, .pointer u0, .pointer u1, .pointer u2, .pointer (some ⟨wx.heap.size, 0, none⟩), .bool false]) (fun b o hb ho => (setL_other (by omega) _).trans ho) (fun b hb _ => by omega))
      generalize setL W1 (w.heap.size + 1) 0 [.pointer none, .pointer u0, .pointer u1, .pointer u2, .pointer (some ⟨wx.heap.size, 0, none⟩), .bool false] = WF at *
      obtain ⟨⟨o0, o1, o2, o3, o4, o5⟩, -⟩ := slot6 q2
      refine bodyPost_ret (v := .agg #[.pointer none, .pointer u0, .pointer u1, .pointer u2, .pointer (some ⟨wx.heap.size, 0, none⟩), .bool false]) (by simp [results, Try.results82, go_sem, o0, o1, o2, o3, o4, o5]) rfl ?_
      exact ⟨[_, _, _, _, _, _], rfl, .refA HT.out qT.out h2 (.inr ⟨Hr.out, _, rfl, hsz, qr⟩), qE.out⟩
  · by_cases hr : rel.size = 0
    all_goals
      simp only [hr, decide_true, decide_false] at hd
      have Hr := hid hr
      clear hr
      go_enter Try.func82, Try.ntmps82
      go_wp2_with fail
    · refine bodyPost_ret (v := .agg #[.pointer (some ⟨w.heap.size + 1 + 1 + 1, 0, none⟩), .pointer none, .pointer none, .pointer none, .pointer none, .bool false]) (by simp [results, Try.results82, go_sem]) rfl ?_
      refine ⟨[_, _, _, _, _, _], rfl, .refN (by omega) ?_ h1 h2 (.inl ⟨Hr.out, rfl⟩), ((((Ext.refl _).alloc _).alloc _).alloc _).alloc _⟩
      have := heap_alloc_new (((w.alloc (.cells #[.bool true, .string name, .string s, .slice p0 p1 p2, .slice q0 q1 q2, .string rel] 55)).alloc (.cells #[.pointer (some ⟨w.heap.size + 1 + 1 + 1, 0, none⟩), .pointer none, .pointer none, .pointer none, .pointer none, .bool false] 126)).alloc (.cells #[.pointer (some ⟨w.heap.size + 1 + 1 + 1, 0, none⟩), .pointer none, .pointer none, .pointer none, .pointer none, .bool false] 126)) (.cells #[.string name] 9)
      simpa using this
    · refine bodyPost_ret (v := .agg #[.pointer (some ⟨w.heap.size + 1 + 1 + 1, 0, none⟩), .pointer none, .pointer none, .pointer none, .pointer (some ⟨w.heap.size + 1 + 1 + 1 + 1, 0, none⟩), .bool false]) (by simp [results, Try.results82, go_sem]) rfl ?_
      refine ⟨[_, _, _, _, _, _], rfl, .refN (by omega) ?_ h1 h2 (.inr ⟨Hr.out, _, rfl, by omega, ?_⟩), (((((Ext.refl _).alloc _).alloc _).alloc _).alloc _).alloc _⟩
      · have := ((Ext.refl _).alloc (.cells #[.string rel] 127)).block (heap_alloc_new (((w.alloc (.cells #[.bool true, .string name, .string s, .slice p0 p1 p2, .slice q0 q1 q2, .string rel] 55)).alloc (.cells #[.pointer (some ⟨w.heap.size + 1 + 1 + 1, 0, none⟩), .pointer none, .pointer none, .pointer none, .pointer (some ⟨w.heap.size + 1 + 1 + 1 + 1, 0, none⟩), .bool false] 126)).alloc (.cells #[.pointer (some ⟨w.heap.size + 1 + 1 + 1, 0, none⟩), .pointer none, .pointer none, .pointer none, .pointer (some ⟨w.heap.size + 1 + 1 + 1 + 1, 0, none⟩), .bool false] 126)) (.cells #[.string name] 9))
        simpa using this
      · have := heap_alloc_new ((((w.alloc (.cells #[.bool true, .string name, .string s, .slice p0 p1 p2, .slice q0 q1 q2, .string rel] 55)).alloc (.cells #[.pointer (some ⟨w.heap.size + 1 + 1 + 1, 0, none⟩), .pointer none, .pointer none, .pointer none, .pointer (some ⟨w.heap.size + 1 + 1 + 1 + 1, 0, none⟩), .bool false] 126)).alloc (.cells #[.pointer (some ⟨w.heap.size + 1 + 1 + 1, 0, none⟩), .pointer none, .pointer none, .pointer none, .pointer (some ⟨w.heap.size + 1 + 1 + 1 + 1, 0, none⟩), .bool false] 126)).alloc (.cells #[.string name] 9)) (.cells #[.string rel] 127)
        simpa using this

/-- A call under way: its argument's box, its result's cells (z), and the block O in which the result is put together (cs). -/
structure BSt (w W : World) (O : Nat) (bx : Obj) (z : List Value) (T : TypeId) (cs : List Value) : Prop where
  box : W.heap[w.heap.size]? = some bx
  res : W.heap[w.heap.size + 1]? = some (.cells z.toArray T)
  out : W.heap[O]? = some (.cells cs.toArray T)
  hO : w.heap.size + 1 < O
  ext : Ext w W
/-- the blocks that a call under way does not write again -/
def Keep (w : World) (O b : Nat) : Prop := w.heap.size + 1 < b ∧ b ≠ O
section
variable {w W W' : World} {O : Nat} {bx : Obj} {z cs : List Value} {T : TypeId}
theorem BSt.later (h : BSt w W O bx z T cs) (E : Ext W W') : BSt w W' O bx z T cs := ⟨E.block h.box, E.block h.res, E.block h.out, h.hO, h.ext.trans E⟩
theorem BSt.lt (h : BSt w W O bx z T cs) : O < W.heap.size := (Array.getElem?_eq_some_iff.1 h.out).1
theorem keep_set (o : Nat) (vs : List Value) : Same (Keep w O) W (setL W O o vs) := fun b _ hb ho => (setL_other hb.2 vs).trans ho
theorem keep_res (o : Nat) (vs : List Value) : Same (Keep w O) W (setL W (w.heap.size + 1) o vs) := fun b _ hb ho => (setL_other (by have := hb.1; omega) vs).trans ho
theorem BSt.set (pre post vs : List Value) (h : BSt w W O bx z T (pre ++ post)) (hl : vs.length ≤ post.length) : BSt w (setL W O pre.length vs) O bx z T (pre ++ (vs ++ post.drop vs.length)) :=
  ⟨(setL_other (by have := h.hO; omega) _).trans h.box, (setL_other (by have := h.hO; omega) _).trans h.res, setL_heap vs pre post h.out hl, h.hO, setL_below h.ext (by have := h.hO; omega) _ _⟩
theorem BSt.fin (h : BSt w W O bx z T cs) (hl : cs.length = z.length) : (setL W (w.heap.size + 1) 0 cs).heap[w.heap.size + 1]? = some (.cells cs.toArray T) ∧ Ext w (setL W (w.heap.size + 1) 0 cs) :=
  ⟨setL_all h.res cs hl, setL_below h.ext (by omega) _ _⟩
end
theorem slot3 {W : World} {b : Nat} {c0 c1 c2 : Value} {t : TypeId} (h : W.heap[b]? = some (.cells #[c0, c1, c2] t)) :
    (W.cell? ⟨b, 0, none⟩ = some c0 ∧ W.cell? ⟨b, 1, none⟩ = some c1 ∧ W.cell? ⟨b, 2, none⟩ = some c2) ∧ (W.frozen? ⟨b, 0, none⟩ = false ∧ W.frozen? ⟨b, 1, none⟩ = false ∧ W.frozen? ⟨b, 2, none⟩ = false) :=
  ⟨⟨(cell_of_heap h 0).trans rfl, (cell_of_heap h 1).trans rfl, (cell_of_heap h 2).trans rfl⟩, free_of_heap h 0, free_of_heap h 1, free_of_heap h 2⟩
theorem slot8 {W : World} {b : Nat} {c0 c1 c2 c3 c4 c5 c6 c7 : Value} {t : TypeId} (h : W.heap[b]? = some (.cells #[c0, c1, c2, c3, c4, c5, c6, c7] t)) :
    (W.cell? ⟨b, 0, none⟩ = some c0 ∧ W.cell? ⟨b, 1, none⟩ = some c1 ∧ W.cell? ⟨b, 2, none⟩ = some c2 ∧ W.cell? ⟨b, 3, none⟩ = some c3 ∧ W.cell? ⟨b, 4, none⟩ = some c4 ∧ W.cell? ⟨b, 5, none⟩ = some c5 ∧ W.cell? ⟨b, 6, none⟩ = some c6 ∧ W.cell? ⟨b, 7, none⟩ = some c7) ∧
    (W.frozen? ⟨b, 0, none⟩ = false ∧ W.frozen? ⟨b, 1, none⟩ = false ∧ W.frozen? ⟨b, 2, none⟩ = false ∧ W.frozen? ⟨b, 3, none⟩ = false ∧ W.frozen? ⟨b, 4, none⟩ = false ∧ W.frozen? ⟨b, 5, none⟩ = false ∧ W.frozen? ⟨b, 6, none⟩ = false ∧ W.frozen? ⟨b, 7, none⟩ = false) :=
  ⟨⟨(cell_of_heap h 0).trans rfl, (cell_of_heap h 1).trans rfl, (cell_of_heap h 2).trans rfl, (cell_of_heap h 3).trans rfl, (cell_of_heap h 4).trans rfl, (cell_of_heap h 5).trans rfl, (cell_of_heap h 6).trans rfl, (cell_of_heap h 7).trans rfl⟩,
   free_of_heap h 0, free_of_heap h 1, free_of_heap h 2, free_of_heap h 3, free_of_heap h 4, free_of_heap h 5, free_of_heap h 6, free_of_heap h 7⟩
theorem slot9 {W : World} {b : Nat} {c0 c1 c2 c3 c4 c5 c6 c7 c8 : Value} {t : TypeId} (h : W.heap[b]? = some (.cells #[c0, c1, c2, c3, c4, c5, c6, c7, c8] t)) :
    (W.cell? ⟨b, 0, none⟩ = some c0 ∧ W.cell? ⟨b, 1, none⟩ = some c1 ∧ W.cell? ⟨b, 2, none⟩ = some c2 ∧ W.cell? ⟨b, 3, none⟩ = some c3 ∧ W.cell? ⟨b, 4, none⟩ = some c4 ∧ W.cell? ⟨b, 5, none⟩ = some c5 ∧ W.cell? ⟨b, 6, none⟩ = some c6 ∧ W.cell? ⟨b, 7, none⟩ = some c7 ∧ W.cell? ⟨b, 8, none⟩ = some c8) ∧
    (W.frozen? ⟨b, 0, none⟩ = false ∧ W.frozen? ⟨b, 1, none⟩ = false ∧ W.frozen? ⟨b, 2, none⟩ = false ∧ W.frozen? ⟨b, 3, none⟩ = false ∧ W.frozen? ⟨b, 4, none⟩ = false ∧ W.frozen? ⟨b, 5, none⟩ = false ∧ W.frozen? ⟨b, 6, none⟩ = false ∧ W.frozen? ⟨b, 7, none⟩ = false ∧ W.frozen? ⟨b, 8, none⟩ = false) :=
  ⟨⟨(cell_of_heap h 0).trans rfl, (cell_of_heap h 1).trans rfl, (cell_of_heap h 2).trans rfl, (cell_of_heap h 3).trans rfl, (cell_of_heap h 4).trans rfl, (cell_of_heap h 5).trans rfl, (cell_of_heap h 6).trans rfl, (cell_of_heap h 7).trans rfl, (cell_of_heap h 8).trans rfl⟩,
   free_of_heap h 0, free_of_heap h 1, free_of_heap h 2, free_of_heap h 3, free_of_heap h 4, free_of_heap h 5, free_of_heap h 6, free_of_heap h 7, free_of_heap h 8⟩
end Go.Proofs.Ytempfaefopfobaa
