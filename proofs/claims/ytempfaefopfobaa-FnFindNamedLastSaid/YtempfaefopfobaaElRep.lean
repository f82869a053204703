/- ElRep: path elements, as they lie in memory: the package's own, and as they come in (impl.Elem). -/
import Derived.Test.YtempfaefopfobaaVal
import Derived.Test.YtempfaefopfobaaAt

set_option maxRecDepth 100000
namespace Go.Proofs.Ytempfaefopfobaa
open Go.ChangeShapes Go.WideShapes Go.ChangeAt Go.RowKit
set_option linter.unusedVariables false
set_option linter.unusedSimpArgs false

/-- a path element -/
inductive El where
  | fld (s : ByteArray) | key (fs : List (ByteArray × Tree)) | val (t : Tree) | idx (n : Int)
/-- a list of fields -/
def RepFs (S : Nat → Prop) (w : World) (v : Value) (fs : List (ByteArray × Tree)) : Prop :=
  ∃ a b o cap, v = .slice a fs.length cap ∧ fs.length ≤ cap ∧ fs.length * 88 ≤ 140737488351232 ∧ (0 < fs.length → a = some ⟨b, o, none⟩ ∧ S b) ∧
    ∀ (i : Nat) (p : ByteArray × Tree), fs[i]? = some p → p.1.size ≤ 140737488351232 ∧ w.cell? ⟨b, o + i * 2, none⟩ = some (.string p.1) ∧ ∃ x, w.cell? ⟨b, o + i * 2 + 1, none⟩ = some x ∧ RepVal S w p.2 x
theorem RepFs.mono {S S' : Nat → Prop} {w w' : World} (h : Same S w w') (hS : ∀ b, S b → b < w.heap.size → S' b) {v : Value} {fs : List (ByteArray × Tree)} : RepFs S w v fs → RepFs S' w' v fs := by
  rintro ⟨a, b, o, cap, h1, h2, h3, h4, h5⟩
  have hpos : ∀ i p, fs[i]? = some p → 0 < fs.length := fun i s hs => by have := (List.getElem?_eq_some_iff.1 hs).1; omega
  refine ⟨a, b, o, cap, h1, h2, h3, fun h0 => ⟨(h4 h0).1, hS _ (h4 h0).2 ?_⟩, fun i p hp => ?_⟩
  · exact World.block_lt_of_cell? w _ (h5 0 _ (List.getElem?_eq_getElem h0)).2.1
  · obtain ⟨k1, k2, x, k3, k4⟩ := h5 i p hp
    exact ⟨k1, h.cell (h4 (hpos i p hp)).2 k2, x, h.cell (h4 (hpos i p hp)).2 k3, k4.mono h hS⟩
theorem RepFs.ext {S : Nat → Prop} {w w' : World} (h : Ext w w') {v : Value} {fs : List (ByteArray × Tree)} (hr : RepFs S w v fs) : RepFs S w' v fs := hr.mono (h.same S) (fun _ h _ => h)
/-- the four pointers of a path element -/
def RepEl (S : Nat → Prop) (w : World) (e : El) (cs : List Value) : Prop :=
  ∃ b o, S b ∧ match e with
    | .fld s => cs = [.pointer (some ⟨b, o, none⟩), .pointer none, .pointer none, .pointer none] ∧ w.cell? ⟨b, o, none⟩ = some (.string s) ∧ s.size ≤ 140737488351232
    | .key fs => cs = [.pointer none, .pointer (some ⟨b, o, none⟩), .pointer none, .pointer none] ∧ ∃ v, w.cell? ⟨b, o, none⟩ = some v ∧ RepFs S w v fs
    | .val t => cs = [.pointer none, .pointer none, .pointer (some ⟨b, o, none⟩), .pointer none] ∧ ∃ x, w.cell? ⟨b, o, none⟩ = some x ∧ RepVal S w t x
    | .idx n => cs = [.pointer none, .pointer none, .pointer none, .pointer (some ⟨b, o, none⟩)] ∧ w.cell? ⟨b, o, none⟩ = some (.int .i64 n) ∧ (Lit.int .i64 n).wf = true
theorem RepEl.mono {S S' : Nat → Prop} {w w' : World} (h : Same S w w') (hS : ∀ b, S b → b < w.heap.size → S' b) {e : El} {cs : List Value} : RepEl S w e cs → RepEl S' w' e cs := by
  rintro ⟨b, o, hb, hr⟩
  have key : ∀ v, w.cell? ⟨b, o, none⟩ = some v → S' b ∧ w'.cell? ⟨b, o, none⟩ = some v := fun v hv => ⟨hS b hb (World.block_lt_of_cell? w _ hv), h.cell hb hv⟩
  cases e with
  | fld s => exact ⟨b, o, (key _ hr.2.1).1, hr.1, (key _ hr.2.1).2, hr.2.2⟩
  | key fs => obtain ⟨h1, v, h2, h3⟩ := hr; exact ⟨b, o, (key _ h2).1, h1, v, (key _ h2).2, h3.mono h hS⟩
  | val t => obtain ⟨h1, v, h2, h3⟩ := hr; exact ⟨b, o, (key _ h2).1, h1, v, (key _ h2).2, h3.mono h hS⟩
  | idx n => exact ⟨b, o, (key _ hr.2.1).1, hr.1, (key _ hr.2.1).2, hr.2.2⟩
theorem RepEl.ext {S : Nat → Prop} {w w' : World} (h : Ext w w') {e : El} {cs : List Value} (hr : RepEl S w e cs) : RepEl S w' e cs := hr.mono (h.same S) (fun _ h _ => h)
theorem RepEl.weak {S S' : Nat → Prop} {w : World} (hS : ∀ b, S b → b < w.heap.size → S' b) {e : El} {cs : List Value} (hr : RepEl S w e cs) : RepEl S' w e cs := hr.mono (Same.refl S w) hS

/-- impl.Elem -/
structure GE where
  kind : Int
  s : ByteArray
  keys : List ByteArray
  l : List GV
  v : GV
  n : Int
def RepGE (S : Nat → Prop) (w : World) (e : GE) (cs : List Value) : Prop :=
  ∃ ka kc la lc v0 v1 v2 v3 v4 v5, cs = [.int .i64 e.kind, .string e.s, .slice ka e.keys.length kc, .slice la e.l.length lc, v0, v1, v2, v3, v4, v5, .int .i64 e.n] ∧ (Lit.int .i64 e.kind).wf = true ∧ (Lit.int .i64 e.n).wf = true ∧ e.s.size ≤ 140737488351232 ∧
    RepStrs S w (.slice ka e.keys.length kc) e.keys ∧ RepVals S w (.slice la e.l.length lc) e.l ∧ RepGV S w e.v [v0, v1, v2, v3, v4, v5]
theorem RepGE.mono {S S' : Nat → Prop} {w w' : World} (h : Same S w w') (hS : ∀ b, S b → b < w.heap.size → S' b) {e : GE} {cs : List Value} : RepGE S w e cs → RepGE S' w' e cs := by
  rintro ⟨ka, kc, la, lc, v0, v1, v2, v3, v4, v5, h1, h2, h3, h4, h5, h6, h7⟩
  exact ⟨ka, kc, la, lc, v0, v1, v2, v3, v4, v5, h1, h2, h3, h4, h5.mono h hS, h6.mono h hS, h7.mono h hS⟩
theorem RepGE.ext {S : Nat → Prop} {w w' : World} (h : Ext w w') {e : GE} {cs : List Value} (hr : RepGE S w e cs) : RepGE S w' e cs := hr.mono (h.same S) (fun _ h _ => h)
theorem RepGE.weak {S S' : Nat → Prop} {w : World} (hS : ∀ b, S b → b < w.heap.size → S' b) {e : GE} {cs : List Value} (hr : RepGE S w e cs) : RepGE S' w e cs := hr.mono (Same.refl S w) hS
/-- the fields of a key -/
def keyT (e : GE) : List (ByteArray × Tree) := e.keys.zip (plainTs e.l)
/-- the element that the package makes of it -/
def toEl (e : GE) : El := if e.kind = 1 then .key (keyT e) else if e.kind = 2 then .val (plainT e.v) else if e.kind = 3 then .idx e.n else .fld e.s
theorem RepFs.weak {S S' : Nat → Prop} {w : World} (hS : ∀ b, S b → b < w.heap.size → S' b) {v : Value} {fs : List (ByteArray × Tree)} (hr : RepFs S w v fs) : RepFs S' w v fs := hr.mono (Same.refl S w) hS
theorem RepFs.form {S : Nat → Prop} {w : World} {v : Value} {fs : List (ByteArray × Tree)} (h : RepFs S w v fs) : ∃ a n c, v = .slice a n c := by
  obtain ⟨a, b, o, c, h, -⟩ := h
  exact ⟨_, _, _, h⟩
theorem repVal_form {S : Nat → Prop} {w : World} {x : Value} {t : Tree} (h : RepVal S w t x) : ∃ b, x = .iface 203 (.pointer (some ⟨b, 0, none⟩)) := by
  obtain ⟨b, v, h, -⟩ := h
  exact ⟨_, h⟩
theorem slot11 {W : World} {b : Nat} {c0 c1 c2 c3 c4 c5 c6 c7 c8 c9 c10 : Value} {t : TypeId} (h : W.heap[b]? = some (.cells #[c0, c1, c2, c3, c4, c5, c6, c7, c8, c9, c10] t)) :
    (W.cell? ⟨b, 0, none⟩ = some c0 ∧ W.cell? ⟨b, 1, none⟩ = some c1 ∧ W.cell? ⟨b, 2, none⟩ = some c2 ∧ W.cell? ⟨b, 3, none⟩ = some c3 ∧ W.cell? ⟨b, 4, none⟩ = some c4 ∧ W.cell? ⟨b, 5, none⟩ = some c5 ∧ W.cell? ⟨b, 6, none⟩ = some c6 ∧ W.cell? ⟨b, 7, none⟩ = some c7 ∧ W.cell? ⟨b, 8, none⟩ = some c8 ∧ W.cell? ⟨b, 9, none⟩ = some c9 ∧ W.cell? ⟨b, 10, none⟩ = some c10) ∧ (W.frozen? ⟨b, 0, none⟩ = false ∧ W.frozen? ⟨b, 1, none⟩ = false ∧ W.frozen? ⟨b, 2, none⟩ = false ∧ W.frozen? ⟨b, 3, none⟩ = false ∧ W.frozen? ⟨b, 4, none⟩ = false ∧ W.frozen? ⟨b, 5, none⟩ = false ∧ W.frozen? ⟨b, 6, none⟩ = false ∧ W.frozen? ⟨b, 7, none⟩ = false ∧ W.frozen? ⟨b, 8, none⟩ = false ∧ W.frozen? ⟨b, 9, none⟩ = false ∧ W.frozen? ⟨b, 10, none⟩ = false) :=
  ⟨⟨(cell_of_heap h 0).trans rfl, (cell_of_heap h 1).trans rfl, (cell_of_heap h 2).trans rfl, (cell_of_heap h 3).trans rfl, (cell_of_heap h 4).trans rfl, (cell_of_heap h 5).trans rfl, (cell_of_heap h 6).trans rfl, (cell_of_heap h 7).trans rfl, (cell_of_heap h 8).trans rfl, (cell_of_heap h 9).trans rfl, (cell_of_heap h 10).trans rfl⟩, ⟨free_of_heap h 0, free_of_heap h 1, free_of_heap h 2, free_of_heap h 3, free_of_heap h 4, free_of_heap h 5, free_of_heap h 6, free_of_heap h 7, free_of_heap h 8, free_of_heap h 9, free_of_heap h 10⟩⟩
theorem RepEl.form {S : Nat → Prop} {w : World} {e : El} {cs : List Value} (h : RepEl S w e cs) : ∃ q0 q1 q2 q3, cs = [.pointer q0, .pointer q1, .pointer q2, .pointer q3] := by
  obtain ⟨b, o, -, h⟩ := h
  cases e
  · exact ⟨_, _, _, _, h.1⟩
  · exact ⟨_, _, _, _, h.1⟩
  · exact ⟨_, _, _, _, h.1⟩
  · exact ⟨_, _, _, _, h.1⟩
theorem RepGE.form {S : Nat → Prop} {w : World} {e : GE} {cs : List Value} (h : RepGE S w e cs) : ∃ k s a1 n1 c1 a2 n2 c2 v0 v1 v2 v3 v4 v5 n, cs = [.int .i64 k, .string s, .slice a1 n1 c1, .slice a2 n2 c2, v0, v1, v2, v3, v4, v5, .int .i64 n] := by
  obtain ⟨ka, kc, la, lc, v0, v1, v2, v3, v4, v5, h, -⟩ := h
  exact ⟨_, _, _, _, _, _, _, _, _, _, _, _, _, _, _, h⟩
theorem second_heap (w : World) (a b : Obj) : ((w.alloc a).alloc b).heap[w.heap.size + 1]? = some b := by
  have := heap_alloc_new (w.alloc a) b
  rwa [show (w.alloc a).heap.size = w.heap.size + 1 by simp] at this
theorem third_heap (w : World) (a b c : Obj) : (((w.alloc a).alloc b).alloc c).heap[w.heap.size + 1 + 1]? = some c := by
  have := heap_alloc_new ((w.alloc a).alloc b) c
  rwa [show ((w.alloc a).alloc b).heap.size = w.heap.size + 1 + 1 by simp] at this
end Go.Proofs.Ytempfaefopfobaa
