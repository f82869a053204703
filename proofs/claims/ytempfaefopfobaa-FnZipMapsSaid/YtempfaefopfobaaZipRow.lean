/- ZipRow: rows of what ZipMaps tells of each key; the function that ZipMaps hands over. -/
import Derived.Test.YtempfaefopfobaaMapZip
import Derived.Test.YtempfaefopfobaaElemIn
import Derived.Test.YtempfaefopfobaaFromEl
import Derived.Test.YtempfaefopfobaaLate

set_option maxRecDepth 100000
namespace Go.Proofs.Ytempfaefopfobaa
open Go.ChangeShapes Go.WideShapes Go.ChangeAt Go.RowKit
set_option linter.unusedVariables false
set_option linter.unusedSimpArgs false

def optG (o : Option Tree) : List GV := (o.map fromT).toList
/-- cells that hold a name and the values, or none, of two maps -/
def RowZ (S : Nat → Prop) (w : World) (xs : List Value) (zs : List (ByteArray × List GV × List GV)) : Prop :=
  xs.length = zs.length * 3 ∧ ∀ (i : Nat) (z : ByteArray × List GV × List GV), zs[i]? = some z → z.1.size ≤ 140737488351232 ∧ xs[i * 3]? = some (.string z.1) ∧ ∃ va vb, xs[i * 3 + 1]? = some va ∧ xs[i * 3 + 2]? = some vb ∧ RepVals S w va z.2.1 ∧ RepVals S w vb z.2.2
theorem RowZ.nil (S : Nat → Prop) (w : World) : RowZ S w [] [] := ⟨rfl, fun i g h => by simp at h⟩
theorem RowZ.mono {S S' : Nat → Prop} {w w' : World} {xs : List Value} {zs : List (ByteArray × List GV × List GV)} (h : RowZ S w xs zs) (hs : Same S w w') (hS : ∀ b, S b → b < w.heap.size → S' b) : RowZ S' w' xs zs :=
  ⟨h.1, fun i p hp => by obtain ⟨h1, h2, va, vb, h3, h4, h5, h6⟩ := h.2 i p hp; exact ⟨h1, h2, va, vb, h3, h4, h5.mono hs hS, h6.mono hs hS⟩⟩
theorem RowZ.snoc {S : Nat → Prop} {w : World} {xs : List Value} {zs : List (ByteArray × List GV × List GV)} (h : RowZ S w xs zs) {k : ByteArray} {la lb : List GV} {va vb : Value} (hk : k.size ≤ 140737488351232) (ha : RepVals S w va la) (hb : RepVals S w vb lb) :
    RowZ S w (xs ++ [.string k, va, vb]) (zs ++ [(k, la, lb)]) := by
  refine ⟨by simp [h.1]; omega, fun i p hp => ?_⟩
  by_cases hi : i < zs.length
  · rw [List.getElem?_append_left hi] at hp
    obtain ⟨h1, h2, a, b, h3, h4, h5, h6⟩ := h.2 i p hp
    exact ⟨h1, by rw [List.getElem?_append_left (by rw [h.1]; omega)]; exact h2, a, b, by rw [List.getElem?_append_left (by rw [h.1]; omega)]; exact h3, by rw [List.getElem?_append_left (by rw [h.1]; omega)]; exact h4, h5, h6⟩
  · have hi' : i = zs.length := by have := (List.getElem?_eq_some_iff.1 hp).1; simp at this; omega
    subst hi'
    simp at hp
    subst hp
    refine ⟨hk, ?_, va, vb, ?_, ?_, ha, hb⟩
    · rw [List.getElem?_append_right (by rw [h.1]; omega), h.1, Nat.sub_self]; rfl
    · rw [List.getElem?_append_right (by rw [h.1]; omega), h.1, show zs.length * 3 + 1 - zs.length * 3 = 1 by omega]; rfl
    · rw [List.getElem?_append_right (by rw [h.1]; omega), h.1, show zs.length * 3 + 2 - zs.length * 3 = 2 by omega]; rfl
/-- a row of one value, just made -/
theorem vals_one {S : Nat → Prop} {W : World} {b : Nat} {g : GV} {cs : List Value} {t : TypeId} (h : W.heap[b]? = some (.cells cs.toArray t)) (hl : cs.length = 6) (hb : S b) (hg : RepGV S W g cs) : RepVals S W (.slice (some ⟨b, 0, none⟩) 1 1) [g] := by
  have hc : cellsAt W b (0 + 0 * 6) cs := fun j v hv => by
    have := (slotL h j v hv).1
    simpa using this
  refine ⟨_, b, 0, 1, rfl, Nat.le_refl _, by simp, fun _ => ⟨rfl, hb⟩, fun i hi => ?_, fun i g' cs' hg' hlen hcs => ?_⟩
  · have : i = 0 := by simpa using hi
    subst this
    exact ⟨cs, hl, hc⟩
  · obtain ⟨h1, h2⟩ := List.getElem?_eq_some_iff.1 hg'
    have h0 : i = 0 := by simpa using h1
    subst h0
    simp at h2
    subst h2
    obtain rfl := cellsAt_unique hcs hc (hlen.trans hl.symm)
    exact hg
theorem vals_none (S : Nat → Prop) (W : World) : RepVals S W (.slice none 0 0) [] := RepVals.nil S W
theorem info_z : (Try.prog.info? 45).map (fun i => (i.zero, i.size, i.bytes)) = some (some (.agg #[.string ByteArray.empty, .slice none 0 0, .slice none 0 0]), 3, 64) := by kernel_rfl
/-- the variable of what has been told, and its row -/
structure ZI (base bo k : Nat) (zs : List (ByteArray × List GV × List GV)) (v : Value) (xs : List Value) (W : World) : Prop where
  var : W.heap[bo]? = some (.cells #[v] 42)
  row : W.ownsRow base 45 3 v k xs
  rep : RowZ (fun b => b ≠ bo ∧ some b ≠ v.ownBlock) W xs zs
  hb : bo < base
  hs : base ≤ W.heap.size
theorem ZI.ext {base bo k : Nat} {zs : List (ByteArray × List GV × List GV)} {v : Value} {xs : List Value} {W W' : World} (h : ZI base bo k zs v xs W) (E : Ext W W') : ZI base bo k zs v xs W' :=
  ⟨E.block h.var, ownsRow_ext h.row E, h.rep.mono (E.same _) (fun _ h _ => h), h.hb, Nat.le_trans h.hs E.size⟩
/-- what the function may write -/
def ZM (base bo : Nat) : Nat → Obj → Prop := fun b o => (b = bo ∧ ∃ c fr, o = .cells c 42 fr) ∨ (base ≤ b ∧ ∃ c fr, o = .cells c 45 fr)
/-- one more has been told -/
theorem ZI.more {base bo k g cap : Nat} {zs : List (ByteArray × List GV × List GV)} {v : Value} {xs : List Value} {W w2 w3 : World} {key : ByteArray} {la lb : List GV} {va vb : Value} {o : Obj} (h : ZI base bo k zs v xs W) (hE : Ext W w2)
    (hown : w3.ownsRow base 45 3 (.slice (some ⟨g, 0, none⟩) (k + 1) cap) (k + 1) (xs ++ [.string key, va, vb])) (hg : (w2.alloc o).grownBy w3 v.ownBlock) (hat : v.ownBlock = some g ∨ g = w2.heap.size + 1)
    (hk : key.size ≤ 140737488351232) (ha : RepVals (fun b => W.heap.size ≤ b ∧ b < w2.heap.size) w2 va la) (hb : RepVals (fun b => W.heap.size ≤ b ∧ b < w2.heap.size) w2 vb lb) :
    ZI base bo (k + 1) (zs ++ [(key, la, lb)]) (.slice (some ⟨g, 0, none⟩) (k + 1) cap) (xs ++ [.string key, va, vb]) (w3.setCell ⟨bo, 0, none⟩ (.slice (some ⟨g, 0, none⟩) (k + 1) cap)) ∧ Mine (ZM base bo) W (w3.setCell ⟨bo, 0, none⟩ (.slice (some ⟨g, 0, none⟩) (k + 1) cap)) := by
  obtain ⟨s1, s2, s3, s4, s5, s6, s7⟩ := row_step h.hs h.row hE hown hg hat
  have hbo := h.hb
  have hs := h.hs
  have hnv : some bo ≠ v.ownBlock := fun e => by have := own_ge h.row bo e.symm; omega
  have hv3 : w3.heap[bo]? = some (.cells #[v] 42) := by
    rw [hg.block bo (by have := hE.size; simp; omega) hnv]
    exact ((Ext.refl w2).alloc o).block (hE.block h.var)
  have hne : ∀ b, b ≠ bo → (w3.setCell ⟨bo, 0, none⟩ (.slice (some ⟨g, 0, none⟩) (k + 1) cap)).heap[b]? = w3.heap[b]? := fun b hb => Below.heap_setCell _ _ _ _ hb
  have new : ∀ {u : Value} {l : List GV}, RepVals (fun b => W.heap.size ≤ b ∧ b < w2.heap.size) w2 u l → RepVals (fun b => b ≠ bo ∧ some b ≠ (Value.slice (some ⟨g, 0, none⟩) (k + 1) cap).ownBlock) (w3.setCell ⟨bo, 0, none⟩ (.slice (some ⟨g, 0, none⟩) (k + 1) cap)) u l := fun hu =>
    hu.mono (fun b ob hb hob => by rw [hne b (by omega)]; exact s3 b ob hb.1 hob) (fun b hb hlt => ⟨by omega, fun e => s4 b hb.1 hb.2 (Option.some.inj e)⟩)
  refine ⟨⟨(setCell_heap hv3 0 _).trans rfl, ownsRow_setCell_below hown hbo _, ?_, hbo, by simp; omega⟩, ⟨?_, ?_, ?_, by simp; omega, fun b ob hob hm => ?_⟩⟩
  · refine (h.rep.mono (S' := fun b => b ≠ bo ∧ some b ≠ (Value.slice (some ⟨g, 0, none⟩) (k + 1) cap).ownBlock) (fun b ob hb hob => ?_) (fun b hb hlt => ⟨hb.1, fun e => s2 b hlt hb.2 (Option.some.inj e)⟩)).snoc hk (new ha) (new hb)
    rw [hne b hb.1]
    rcases Nat.lt_or_ge b base with h' | h'
    · exact (Below.block s5 b h').trans hob
    · exact s1 b ob ⟨h', hb.2⟩ hob
  · exact s5.os
  · exact s5.tape
  · exact s5.output
  · have hnb : b ≠ bo := fun e => hm (.inl ⟨e, by subst e; rw [h.var] at hob; cases hob; exact ⟨_, _, rfl⟩⟩)
    rw [hne b hnb]
    rcases Nat.lt_or_ge b base with h' | h'
    · exact (Below.block s5 b h').trans hob
    · refine s1 b ob ⟨h', fun e => hm (.inr ⟨h', ?_⟩)⟩ hob
      obtain ⟨cur, hc⟩ := own_cells h.row b e.symm
      rw [hob] at hc
      exact ⟨_, _, Option.some.inj hc⟩
/-- a slice of what has been told, as it is read -/
def RepZs (W : World) (v : Value) (zs : List (ByteArray × List GV × List GV)) : Prop :=
  ∃ a b cap, v = .slice a zs.length cap ∧ (0 < zs.length → a = some ⟨b, 0, none⟩) ∧ ∀ (i : Nat) (z : ByteArray × List GV × List GV), zs[i]? = some z → z.1.size ≤ 140737488351232 ∧ W.cell? ⟨b, i * 3, none⟩ = some (.string z.1) ∧
    ∃ va vb, W.cell? ⟨b, i * 3 + 1, none⟩ = some va ∧ W.cell? ⟨b, i * 3 + 2, none⟩ = some vb ∧ RepVals Any W va z.2.1 ∧ RepVals Any W vb z.2.2
theorem RepZs.ext {W W' : World} (E : Ext W W') {v : Value} {zs : List (ByteArray × List GV × List GV)} (h : RepZs W v zs) : RepZs W' v zs := by
  obtain ⟨a, b, cap, h1, h2, h3⟩ := h
  exact ⟨a, b, cap, h1, h2, fun i z hz => by
    obtain ⟨k1, k2, va, vb, k3, k4, k5, k6⟩ := h3 i z hz
    exact ⟨k1, E.cellS k2, va, vb, E.cellS k3, E.cellS k4, k5.ext E, k6.ext E⟩⟩
theorem zs_of_row {S : Nat → Prop} {W : World} {base n : Nat} {v : Value} {xs : List Value} {zs : List (ByteArray × List GV × List GV)} (hown : W.ownsRow base 45 3 v n xs) (hrow : RowZ S W xs zs) : RepZs W v zs := by
  have hn : n = zs.length := by have := hown.1; have := hrow.1; omega
  obtain ⟨a, c, rfl⟩ := own_form hown
  subst hn
  by_cases h0 : 0 < zs.length
  · obtain ⟨g, cap, hv, -, -⟩ := hown.form (by omega)
    simp only [Value.slice.injEq, true_and] at hv
    obtain ⟨rfl, rfl⟩ := hv
    refine ⟨_, g, _, rfl, fun _ => rfl, fun i z hz => ?_⟩
    obtain ⟨k1, k2, va, vb, k3, k4, k5, k6⟩ := hrow.2 i z hz
    have hi := (List.getElem?_eq_some_iff.1 hz).1
    exact ⟨k1, (hown.cellAt (i * 3) (by omega)).trans k2, va, vb, (hown.cellAt (i * 3 + 1) (by omega)).trans k3, (hown.cellAt (i * 3 + 2) (by omega)).trans k4, k5.mono (Same.refl _ _) (fun _ _ _ => trivial), k6.mono (Same.refl _ _) (fun _ _ _ => trivial)⟩
  · have : zs = [] := List.eq_nil_of_length_eq_zero (by omega)
    subst this
    exact ⟨a, 0, c, rfl, fun h => absurd h (by simp), fun i z hz => by simp at hz⟩
/-- one more in a row that no variable holds -/
theorem rowz_more {L H k g cap : Nat} {zs : List (ByteArray × List GV × List GV)} {v : Value} {xs : List Value} {W w2 w3 : World} {key : ByteArray} {la lb : List GV} {va vb : Value} {o : Obj} (hH : H ≤ W.heap.size) (own : W.ownsRow H 45 3 v k xs)
    (rep : RowZ (fun b => L ≤ b ∧ some b ≠ v.ownBlock) W xs zs) (hE : Ext W w2) (hown : w3.ownsRow H 45 3 (.slice (some ⟨g, 0, none⟩) (k + 1) cap) (k + 1) (xs ++ [.string key, va, vb])) (hg : (w2.alloc o).grownBy w3 v.ownBlock) (hat : v.ownBlock = some g ∨ g = w2.heap.size + 1)
    (hk : key.size ≤ 140737488351232) (ha : RepVals (fun b => L ≤ b ∧ (b < H ∨ W.heap.size < b)) w2 va la) (hb : RepVals (fun b => L ≤ b ∧ (b < H ∨ W.heap.size < b)) w2 vb lb) :
    RowZ (fun b => L ≤ b ∧ some b ≠ (Value.slice (some ⟨g, 0, none⟩) (k + 1) cap).ownBlock) w3 (xs ++ [.string key, va, vb]) (zs ++ [(key, la, lb)]) ∧ Below H W w3 := by
  obtain ⟨s1, s2, s3, s4, s5, s6, s7⟩ := row_step hH own hE hown hg hat
  have hle := hE.size
  have new : ∀ {u : Value} {l : List GV}, RepVals (fun b => L ≤ b ∧ (b < H ∨ W.heap.size < b)) w2 u l → RepVals (fun b => L ≤ b ∧ some b ≠ (Value.slice (some ⟨g, 0, none⟩) (k + 1) cap).ownBlock) w3 u l := fun hu =>
    hu.mono (fun b ob hb hob => by
      rcases hb.2 with h | h
      · exact (Below.block s5 b h).trans ((Below.block hE b (by omega)).symm.trans hob)
      · exact s3 b ob (Nat.le_of_lt h) hob) (fun b hb hlt => ⟨hb.1, fun e => by
      have e' : b = g := Option.some.inj e
      rcases hb.2 with h | h
      · omega
      · exact s4 b (Nat.le_of_lt h) hlt e'⟩)
  refine ⟨(rep.mono (S' := fun b => L ≤ b ∧ some b ≠ (Value.slice (some ⟨g, 0, none⟩) (k + 1) cap).ownBlock) (fun b ob hb hob => ?_) (fun b hb hlt => ⟨hb.1, fun e => s2 b hlt hb.2 (Option.some.inj e)⟩)).snoc hk (new ha) (new hb), s5⟩
  rcases Nat.lt_or_ge b H with h' | h'
  · exact (Below.block s5 b h').trans hob
  · exact s1 b ob ⟨h', hb.2⟩ hob
end Go.Proofs.Ytempfaefopfobaa
