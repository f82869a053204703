/- ElemIn: path elements as they come in (impl.Elem); impl.toKeys, toElem. -/
import Derived.Test.YtempfaefopfobaaDoorElRep
import Derived.Deep.AppendLies

set_option maxRecDepth 100000
namespace Go.Proofs.YtempfaefopfobaaDoor
open Go.ChangeShapes Go.WideShapes Go.ChangeAt Go.RowKit
set_option linter.unusedVariables false
set_option linter.unusedSimpArgs false

/-- what an append of one to a row of the call's own leaves: the values that were there, and those of what is new -/
theorem row_step {H : Nat} {e : TypeId} {sz n m g cap : Nat} {W w2 w3 : World} {v : Value} {xs ys : List Value} {o : Obj} (hH : H ≤ W.heap.size) (own : W.ownsRow H e sz v n xs) (hE : Ext W w2)
    (hown3 : w3.ownsRow H e sz (.slice (some ⟨g, 0, none⟩) m cap) m ys) (hg3 : (w2.alloc o).grownBy w3 v.ownBlock) (hat : v.ownBlock = some g ∨ g = w2.heap.size + 1) :
    Same (fun b => H ≤ b ∧ some b ≠ v.ownBlock) W w3 ∧ (∀ b, b < W.heap.size → some b ≠ v.ownBlock → b ≠ g) ∧ Same (fun b => W.heap.size ≤ b) w2 w3 ∧ (∀ b, W.heap.size ≤ b → b < w2.heap.size → b ≠ g) ∧ Below H W w3 ∧ W.heap.size ≤ w3.heap.size ∧ H ≤ g := by
  have hge := own_ge own
  have hlt := own_lt own
  have hs2 := hE.size
  have hs3 := hg3.size
  have hgb : H ≤ g := own_ge hown3 g rfl
  have key : ∀ b ob, some b ≠ v.ownBlock → w2.heap[b]? = some ob → w3.heap[b]? = some ob := fun b ob hne hob => by
    have hbl := (Array.getElem?_eq_some_iff.1 hob).1
    rw [hg3.block b (by simp; omega) hne]
    exact ((Ext.refl w2).alloc _).block hob
  refine ⟨fun b ob hb hob => key b ob hb.2 (hE.block hob), fun b hb hne e => ?_, fun b ob hb hob => key b ob (fun e => by have := hlt b e.symm; omega) hob, fun b hb hbl e => ?_, ⟨?_, ?_, ?_, ?_, fun i hi => ?_⟩, by simp at hs3; omega, hgb⟩
  · subst e
    rcases hat with h | h
    · exact hne h.symm
    · omega
  · subst e
    rcases hat with h | h
    · have := hlt b h; omega
    · omega
  · exact hg3.os.trans (((Ext.refl w2).alloc _).os.trans hE.os)
  · exact hg3.tape.trans (((Ext.refl w2).alloc _).tape.trans hE.tape)
  · exact hg3.output.trans (((Ext.refl w2).alloc _).output.trans hE.output)
  · simp at hs3; omega
  · rw [hg3.block i (by simp; omega) (fun e => by have := hge i e.symm; omega)]
    exact (Below.block ((Ext.refl w2).alloc _) i (by omega)).trans (Below.block hE i (by omega))

/-- cells that hold fields -/
def RowFs (S : Nat → Prop) (w : World) (xs : List Value) (fs : List (ByteArray × Tree)) : Prop :=
  xs.length = fs.length * 2 ∧ ∀ (i : Nat) (p : ByteArray × Tree), fs[i]? = some p → p.1.size ≤ 140737488351232 ∧ xs[i * 2]? = some (.string p.1) ∧ ∃ x, xs[i * 2 + 1]? = some x ∧ RepVal S w p.2 x
theorem RowFs.nil (S : Nat → Prop) (w : World) : RowFs S w [] [] := ⟨rfl, fun i g h => by simp at h⟩
theorem RowFs.mono {S S' : Nat → Prop} {w w' : World} {xs : List Value} {fs : List (ByteArray × Tree)} (h : RowFs S w xs fs) (hs : Same S w w') (hS : ∀ b, S b → b < w.heap.size → S' b) : RowFs S' w' xs fs :=
  ⟨h.1, fun i p hp => by obtain ⟨h1, h2, x, h3, h4⟩ := h.2 i p hp; exact ⟨h1, h2, x, h3, h4.mono hs hS⟩⟩
theorem RowFs.snoc {S : Nat → Prop} {w : World} {xs : List Value} {fs : List (ByteArray × Tree)} (h : RowFs S w xs fs) {k : ByteArray} {t : Tree} {x : Value} (hk : k.size ≤ 140737488351232) (hx : RepVal S w t x) : RowFs S w (xs ++ [.string k, x]) (fs ++ [(k, t)]) := by
  refine ⟨by simp [h.1]; omega, fun i p hp => ?_⟩
  by_cases hi : i < fs.length
  · rw [List.getElem?_append_left hi] at hp
    obtain ⟨h1, h2, y, h3, h4⟩ := h.2 i p hp
    exact ⟨h1, by rw [List.getElem?_append_left (by rw [h.1]; omega)]; exact h2, y, by rw [List.getElem?_append_left (by rw [h.1]; omega)]; exact h3, h4⟩
  · have hi' : i = fs.length := by have := (List.getElem?_eq_some_iff.1 hp).1; simp at this; omega
    subst hi'
    simp at hp
    subst hp
    refine ⟨hk, ?_, x, ?_, hx⟩
    · rw [List.getElem?_append_right (by rw [h.1]; omega), h.1, Nat.sub_self]; rfl
    · rw [List.getElem?_append_right (by rw [h.1]; omega), h.1, show fs.length * 2 + 1 - fs.length * 2 = 1 by omega]; rfl
theorem fs_of_row {S : Nat → Prop} {w : World} {base n c : Nat} {a : Option Addr} {xs : List Value} {fs : List (ByteArray × Tree)} {e : TypeId} (hown : w.ownsRow base e 2 (.slice a n c) n xs) (hrow : RowFs S w xs fs) (hS : ∀ b, base ≤ b → S b) (hsz : fs.length * 88 ≤ 140737488351232) : RepFs S w (.slice a n c) fs := by
  have hn : n = fs.length := by have := hown.1; have := hrow.1; omega
  subst hn
  rcases hown.2 with ⟨h, h0⟩ | ⟨g, cap, cur, h, hb, hg, hle, _⟩
  · simp only [Value.slice.injEq] at h
    obtain ⟨rfl, h1, rfl⟩ := h
    exact ⟨none, 0, 0, 0, rfl, by omega, hsz, fun h => absurd h (by omega), fun i p hp => by have := (List.getElem?_eq_some_iff.1 hp).1; omega⟩
  · cases h
    refine ⟨_, g, 0, _, rfl, hle, hsz, fun _ => ⟨rfl, hS g hb⟩, fun i p hp => ?_⟩
    obtain ⟨h1, h2, x, h3, h4⟩ := hrow.2 i p hp
    have hc := hown.cells (g := g) rfl
    have k1 := hc _ _ h2
    have k2 := hc _ _ h3
    rw [addr_add rfl] at k1 k2
    exact ⟨h1, k1, x, by rw [Nat.add_assoc]; exact k2, h4⟩

theorem info_field : (Tryd.prog.info? 55).map (fun i => (i.zero, i.size, i.bytes)) = some (some (.agg #[.string ByteArray.empty, .nilIface]), 2, 32) := by kernel_rfl
theorem zip_take_end {α β : Type} {a : List α} {b : List β} {k : Nat} (h : b.length ≤ k) : (a.zip b).take k = a.zip b := List.take_of_length_le (by simp; omega)
def set4 (W : World) (b : Nat) (v0 v1 v2 v3 : Value) : World := (((W.setCell ⟨b, 0, none⟩ v0).setCell ⟨b, 1, none⟩ v1).setCell ⟨b, 2, none⟩ v2).setCell ⟨b, 3, none⟩ v3
theorem set4_heap {W : World} {b : Nat} {c0 c1 c2 c3 : Value} {t : TypeId} (h : W.heap[b]? = some (.cells #[c0, c1, c2, c3] t)) (v0 v1 v2 v3 : Value) : (set4 W b v0 v1 v2 v3).heap[b]? = some (.cells #[v0, v1, v2, v3] t) :=
  (setCell_heap (setCell_heap (setCell_heap (setCell_heap h 0 v0) 1 v1) 2 v2) 3 v3).trans rfl
theorem slot4f {W : World} {b : Nat} {c0 c1 c2 c3 : Value} {t : TypeId} (h : W.heap[b]? = some (.cells #[c0, c1, c2, c3] t)) :
    (W.cell? ⟨b, 0, none⟩ = some c0 ∧ W.cell? ⟨b, 1, none⟩ = some c1 ∧ W.cell? ⟨b, 2, none⟩ = some c2 ∧ W.cell? ⟨b, 3, none⟩ = some c3) ∧ (W.frozen? ⟨b, 0, none⟩ = false ∧ W.frozen? ⟨b, 1, none⟩ = false ∧ W.frozen? ⟨b, 2, none⟩ = false ∧ W.frozen? ⟨b, 3, none⟩ = false) :=
  ⟨⟨(cell_of_heap h 0).trans rfl, (cell_of_heap h 1).trans rfl, (cell_of_heap h 2).trans rfl, (cell_of_heap h 3).trans rfl⟩, free_of_heap h 0, free_of_heap h 1, free_of_heap h 2, free_of_heap h 3⟩
theorem set4_other {W : World} {b i : Nat} (h : i ≠ b) (v0 v1 v2 v3 : Value) : (set4 W b v0 v1 v2 v3).heap[i]? = W.heap[i]? := by
  simp only [set4]
  iterate 4 rw [Below.heap_setCell _ _ _ _ h]
theorem set4_below {B : Nat} {a W : World} (h : Below B a W) {b : Nat} (hb : B ≤ b) (v0 v1 v2 v3 : Value) : Below B a (set4 W b v0 v1 v2 v3) :=
  (((h.setCell hb v0).setCell hb v1).setCell hb v2).setCell hb v3
/-- a result of four pointers is laid into its block: what is elsewhere stays -/
theorem put4 {w W : World} {R : Nat} {c0 c1 c2 c3 v0 v1 v2 v3 : Value} {S : Nat → Prop} {e : El} (hx : W.heap[R]? = some (.cells #[c0, c1, c2, c3] 40)) (hR : w.heap.size ≤ R) (hE : Ext w W) (hG : RepEl S W e [v0, v1, v2, v3])
    (hS : ∀ b, S b → b ≠ R ∧ w.heap.size ≤ b) (WF : World) (hWF : WF = set4 W R v0 v1 v2 v3) :
    WF.heap[R]? = some (.cells #[v0, v1, v2, v3] 40) ∧ RepEl (fun b => w.heap.size ≤ b) WF e [v0, v1, v2, v3] ∧ Ext w WF := by
  subst hWF
  exact ⟨set4_heap hx _ _ _ _, hG.mono (fun b o hb ho => (set4_other (hS b hb).1 _ _ _ _).trans ho) (fun b hb _ => (hS b hb).2), set4_below hE hR _ _ _ _⟩
end Go.Proofs.YtempfaefopfobaaDoor
