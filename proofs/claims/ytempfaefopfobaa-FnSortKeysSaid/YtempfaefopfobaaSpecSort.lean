/- SpecSort: spec.SortKeys: the fields of a key in the order of their names, with plain values. -/
import Derived.Test.YtempfaefopfobaaSort
import Derived.Test.YtempfaefopfobaaFromEl
import Derived.Test.YtempfaefopfobaaStrBig
import Derived.Test.YtempfaefopfobaaSortKeys
import Derived.StillTailTactics
import Derived.BigRegion

set_option maxRecDepth 100000
namespace Go.Proofs.Ytempfaefopfobaa
open Go.ChangeShapes Go.WideShapes Go.ChangeAt Go.RowKit
set_option linter.unusedVariables false
set_option linter.unusedSimpArgs false

/-- vs laid over xs from o on -/
def setX : List Value → Nat → List Value → List Value
  | xs, _, [] => xs
  | xs, o, v :: vs => setX (xs.set o v) (o + 1) vs
theorem setX_length (xs : List Value) (o : Nat) (vs : List Value) : (setX xs o vs).length = xs.length := by
  induction vs generalizing xs o with
  | nil => rfl
  | cons v vs ih => simp [setX, ih]
theorem setX_get (xs : List Value) (o : Nat) (vs : List Value) (h : o + vs.length ≤ xs.length) (m : Nat) : (setX xs o vs)[m]? = if o ≤ m ∧ m < o + vs.length then vs[m - o]? else xs[m]? := by
  induction vs generalizing xs o with
  | nil => rw [setX, if_neg (by simp)]
  | cons v vs ih =>
    simp only [List.length_cons] at h
    rw [setX, ih _ _ (by simp; omega)]
    by_cases h1 : m = o
    · subst h1
      rw [if_neg (by omega), if_pos (by simp), List.getElem?_set_self (by omega)]
      simp
    · rw [List.getElem?_set_ne (Ne.symm h1)]
      by_cases h2 : o + 1 ≤ m ∧ m < o + 1 + vs.length
      · rw [if_pos h2, if_pos (by simp; omega), show m - o = (m - (o + 1)) + 1 by omega]
        simp
      · rw [if_neg h2, if_neg (by simp; omega)]
theorem own_setL {w : World} {base g n cap size : Nat} {e : TypeId} : ∀ (vs : List Value) {W : World} {xs : List Value} (o : Nat), W.ownsRow base e size (.slice (some ⟨g, 0, none⟩) n cap) n xs →
    (setL W g o vs).ownsRow base e size (.slice (some ⟨g, 0, none⟩) n cap) n (setX xs o vs) ∧ W.grownBy (setL W g o vs) (some g)
  | [], W, xs, o, h => ⟨h, World.grownBy.refl _ _⟩
  | v :: vs, W, xs, o, h => by
    obtain ⟨h1, h2⟩ := h.stored o v
    obtain ⟨h3, h4⟩ := own_setL (w := w) vs (o + 1) h1
    exact ⟨h3, grownBy_trans h2 h4⟩
theorem RowGV.put {S : Nat → Prop} {w : World} {xs cs : List Value} {gs : List GV} {g : GV} {j : Nat} (h : RowGV S w xs gs) (hj : j < gs.length) (hc : cs.length = 6) (hg : RepGV S w g cs) : RowGV S w (setX xs (j * 6) cs) (gs.set j g) := by
  have hl := h.1
  refine ⟨by rw [setX_length, List.length_set, hl], fun i g' hg' => ?_⟩
  by_cases hi : i = j
  · subst hi
    rw [List.getElem?_set_self hj] at hg'
    cases hg'
    have e : ((setX xs (i * 6) cs).drop (i * 6)).take 6 = cs := by
      apply List.ext_getElem?
      intro m
      rw [List.getElem?_take]
      split
      · rw [List.getElem?_drop, setX_get _ _ _ (by omega), if_pos (by omega), show i * 6 + m - i * 6 = m by omega]
      · rw [List.getElem?_eq_none (by omega)]
    rw [e]; exact hg
  · rw [List.getElem?_set_ne (Ne.symm hi)] at hg'
    have hi' := (List.getElem?_eq_some_iff.1 hg').1
    have e : ((setX xs (j * 6) cs).drop (i * 6)).take 6 = (xs.drop (i * 6)).take 6 := by
      apply List.ext_getElem?
      intro m
      rw [List.getElem?_take, List.getElem?_take]
      split
      · rw [List.getElem?_drop, List.getElem?_drop, setX_get _ _ _ (by omega), if_neg (by omega)]
      · rfl
    rw [e]; exact h.2 i g' hg'
section
variable {w0 W : World} {O B3 n gk ck gl cl : Nat} {ks : List ByteArray} {xs cs : List Value} {gs : List GV}
/-- a name is laid over that at a place -/
theorem EOSt.putKey (h : EOSt w0 W O B3 (.slice (some ⟨gk, 0, none⟩) n ck) (.slice (some ⟨gl, 0, none⟩) n cl) n n ks xs gs) (j : Nat) (s : ByteArray) :
    EOSt w0 (W.setCell ⟨gk, j, none⟩ (.string s)) O B3 (.slice (some ⟨gk, 0, none⟩) n ck) (.slice (some ⟨gl, 0, none⟩) n cl) n n (ks.set j s) xs gs := by
  have hgk := own_ge h.krow gk rfl
  have hne : gl ≠ gk := by
    have := own_apart h.lrow h.krow (by decide)
    simp [Value.ownBlock] at this; exact this
  obtain ⟨o1, g1⟩ := h.krow.stored j (.string s)
  have l1 := h.lrow.kept g1 (.inr (by simp [Value.ownBlock]; exact hne))
  have hs : Same (fun b => B3 ≤ b ∧ some b ≠ (some gl) ∧ some b ≠ (some gk)) W (W.setCell ⟨gk, j, none⟩ (.string s)) := fun b o hb hob =>
    (g1.block b (Array.getElem?_eq_some_iff.1 hob).1 hb.2.2).trans hob
  have hOB := h.hOB
  refine ⟨h.below.setCell (by show O ≤ gk; omega) _, ?_, hOB, Nat.le_trans h.hB g1.size, by rw [List.map_set]; exact o1, l1, h.row.mono hs (fun _ h _ => h)⟩
  rw [Below.heap_setCell _ _ _ _ (by show O ≠ gk; omega)]; exact h.out
/-- a value is laid over that at a place -/
theorem EOSt.putVal (h : EOSt w0 W O B3 (.slice (some ⟨gk, 0, none⟩) n ck) (.slice (some ⟨gl, 0, none⟩) n cl) n n ks xs gs) {j : Nat} (hj : j < n) {g : GV} (hc : cs.length = 6)
    (hT : RepGV (fun b => B3 ≤ b ∧ some b ≠ (some gl) ∧ some b ≠ (some gk)) W g cs) :
    EOSt w0 (setL W gl (j * 6) cs) O B3 (.slice (some ⟨gk, 0, none⟩) n ck) (.slice (some ⟨gl, 0, none⟩) n cl) n n ks (setX xs (j * 6) cs) (gs.set j g) := by
  have hgl := own_ge h.lrow gl rfl
  have hne : gl ≠ gk := by
    have := own_apart h.lrow h.krow (by decide)
    simp [Value.ownBlock] at this; exact this
  have hn : gs.length = n := by have := h.row.1; have := h.lrow.1; omega
  obtain ⟨o2, g2⟩ := own_setL (w := W) cs (j * 6) h.lrow
  have k2 := h.krow.kept g2 (.inr (by simp [Value.ownBlock]; exact fun e => hne e.symm))
  have hs : Same (fun b => B3 ≤ b ∧ some b ≠ (some gl) ∧ some b ≠ (some gk)) W (setL W gl (j * 6) cs) := fun b o hb hob => by
    rw [setL_other (fun e => hb.2.1 (by rw [e]))]
    exact hob
  have hOB := h.hOB
  refine ⟨setL_below h.below (by omega) _ _, ?_, hOB, Nat.le_trans h.hB g2.size, k2, o2, (h.row.mono hs (fun _ h _ => h)).put (by omega) hc (hT.mono hs (fun _ h _ => h))⟩
  rw [setL_other (by omega)]; exact h.out
/-- a name and a value are laid over those at a place -/
theorem EOSt.put (h : EOSt w0 W O B3 (.slice (some ⟨gk, 0, none⟩) n ck) (.slice (some ⟨gl, 0, none⟩) n cl) n n ks xs gs) {j : Nat} (hj : j < n) (s : ByteArray) {g : GV} (hc : cs.length = 6)
    (hT : RepGV (fun b => B3 ≤ b ∧ some b ≠ (some gl) ∧ some b ≠ (some gk)) W g cs) :
    EOSt w0 (setL (W.setCell ⟨gk, j, none⟩ (.string s)) gl (j * 6) cs) O B3 (.slice (some ⟨gk, 0, none⟩) n ck) (.slice (some ⟨gl, 0, none⟩) n cl) n n (ks.set j s) (setX xs (j * 6) cs) (gs.set j g) :=
  (h.putKey j s).putVal hj hc (hT.mono (fun b o hb hob => by rw [Below.heap_setCell _ _ _ _ (fun e => hb.2.2 (by rw [e]))]; exact hob) (fun _ h _ => h))
theorem EOSt.fresh (h : EOSt w0 W O B3 (.slice (some ⟨gk, 0, none⟩) n ck) (.slice (some ⟨gl, 0, none⟩) n cl) n n ks xs gs) {w8 : World} {g : GV} (hT : RepGV (fun b => W.heap.size ≤ b) w8 g cs) :
    RepGV (fun b => B3 ≤ b ∧ some b ≠ (some gl) ∧ some b ≠ (some gk)) w8 g cs := by
  refine hT.weak fun b hb _ => ⟨Nat.le_trans h.hB hb, fun e => ?_, fun e => ?_⟩
  · have := own_lt h.lrow gl rfl; cases e; omega
  · have := own_lt h.krow gk rfl; cases e; omega
theorem set6_raw {B : Nat} {a W : World} (h : Below B a W) {b : Nat} (hb : B ≤ b) (o : Nat) (v0 v1 v2 v3 v4 v5 : Value) : Below B a ((((((W.setCell ⟨b, o, none⟩ v0).setCell ⟨b, o + 1, none⟩ v1).setCell ⟨b, o + 2, none⟩ v2).setCell ⟨b, o + 3, none⟩ v3).setCell ⟨b, o + 4, none⟩ v4).setCell ⟨b, o + 5, none⟩ v5) := setL_below h hb o [v0, v1, v2, v3, v4, v5]
theorem key_raw {B : Nat} {a W : World} (h : Below B a W) {b : Nat} (hb : B ≤ b) (o : Nat) (v : Value) : Below B a (W.setCell ⟨b, o, none⟩ v) := h.setCell hb v
end
theorem ext_drew1 (w : World) : Ext w w.drew := ⟨rfl, rfl, rfl, Nat.le_refl _, fun _ _ => rfl⟩
/-- the cells of a value in a row -/
theorem row_cells {S : Nat → Prop} {W : World} {base g n cap : Nat} {xs : List Value} {gs : List GV} {e : TypeId} (hown : W.ownsRow base e 6 (.slice (some ⟨g, 0, none⟩) n cap) n xs) (hrow : RowGV S W xs gs) {i : Nat} {x : GV} (hx : gs[i]? = some x) :
    ∃ r1 r2 r3 r4 r5 r6 r7 r8 r9 r10, RepGV S W x [.int .i64 r1, .int .i64 r2, .float .f64 r3, .string r4, .slice r5 r6 r7, .slice r8 r9 r10] ∧
      (W.cell? ⟨g, i * 6, none⟩ = some (.int .i64 r1) ∧ W.cell? ⟨g, i * 6 + 1, none⟩ = some (.int .i64 r2) ∧ W.cell? ⟨g, i * 6 + 2, none⟩ = some (.float .f64 r3) ∧ W.cell? ⟨g, i * 6 + 3, none⟩ = some (.string r4) ∧ W.cell? ⟨g, i * 6 + 4, none⟩ = some (.slice r5 r6 r7) ∧ W.cell? ⟨g, i * 6 + 5, none⟩ = some (.slice r8 r9 r10)) := by
  have hi := (List.getElem?_eq_some_iff.1 hx).1
  have hl := hrow.1
  have hn := hown.1
  have hr := hrow.2 i x hx
  obtain ⟨r1, r2, r3, r4, r5, r6, r7, r8, r9, r10, he⟩ := hr.form
  rw [he] at hr
  have hc : ∀ j u, j < 6 → [.int .i64 r1, .int .i64 r2, .float .f64 r3, .string r4, .slice r5 r6 r7, .slice r8 r9 r10][j]? = some u → W.cell? ⟨g, i * 6 + j, none⟩ = some u := by
    intro j u hj hu
    rw [hown.cellAt _ (by omega)]
    rw [← he, List.getElem?_take, if_pos hj, List.getElem?_drop] at hu
    exact hu
  exact ⟨_, _, _, _, _, _, _, _, _, _, hr, hc 0 _ (by omega) rfl, hc 1 _ (by omega) rfl, hc 2 _ (by omega) rfl, hc 3 _ (by omega) rfl, hc 4 _ (by omega) rfl, hc 5 _ (by omega) rfl⟩
theorem row_frozen {W : World} {base g n cap : Nat} {xs : List Value} {e : TypeId} (hown : W.ownsRow base e 6 (.slice (some ⟨g, 0, none⟩) n cap) n xs) (i : Nat) :
    W.frozen? ⟨g, i * 6, none⟩ = false ∧ W.frozen? ⟨g, i * 6 + 1, none⟩ = false ∧ W.frozen? ⟨g, i * 6 + 2, none⟩ = false ∧ W.frozen? ⟨g, i * 6 + 3, none⟩ = false ∧ W.frozen? ⟨g, i * 6 + 4, none⟩ = false ∧ W.frozen? ⟨g, i * 6 + 5, none⟩ = false :=
  ⟨hown.frozenAt _, hown.frozenAt _, hown.frozenAt _, hown.frozenAt _, hown.frozenAt _, hown.frozenAt _⟩
theorem insL_at {α : Type} (l : List α) (x : α) {k : Nat} (hk : k ≤ l.length) : (l.take k ++ x :: l.drop k)[k]? = some x := by
  rw [List.getElem?_append_right (by simp; omega)]
  simp [Nat.min_eq_left hk]
/-- a list with something or other at a place -/
def insL {α : Type} (l : List α) (x : α) (k : Nat) : List α := l.take k ++ x :: l.drop k
theorem insL_length {α : Type} (l : List α) (x : α) (k : Nat) : (insL l x k).length = l.length + 1 := by simp [insL]; omega
theorem insL_end {α : Type} (l : List α) (x : α) : insL l x l.length = l ++ [x] := by simp [insL]
theorem insL_set {α : Type} (l : List α) (x y : α) {k : Nat} (hk : k ≤ l.length) : (insL l x k).set k y = insL l y k := by
  unfold insL
  rw [List.set_append_right _ _ (by simp; omega)]
  simp [Nat.min_eq_left hk]
theorem insL_before {α : Type} (l : List α) (x : α) {k j : Nat} (hj : j < k) (hk : k ≤ l.length) : (insL l x k)[j]? = l[j]? := by
  unfold insL
  rw [List.getElem?_append_left (by simp; omega), List.getElem?_take, if_pos hj]
theorem insL_shift {α : Type} (l : List α) (x a : α) {k : Nat} (h : l[k]? = some a) : (insL l x (k + 1)).set (k + 1) a = insL l a k := by
  have hk := (List.getElem?_eq_some_iff.1 h).1
  rw [insL_set _ _ _ (by omega)]
  unfold insL
  rw [List.take_add_one, h]
  simp only [Option.toList_some, List.append_assoc, List.cons_append, List.nil_append]
  rw [List.drop_eq_getElem_cons hk]
  have : l[k] = a := by rw [List.getElem?_eq_getElem hk] at h; exact Option.some.inj h
  rw [this]
theorem insP_fst {α : Type} (l : List (ByteArray × α)) (p : ByteArray × α) (k : Nat) : (insP l p k).map (·.1) = insL (l.map (·.1)) p.1 k := by simp [insP, insL, List.map_take, List.map_drop]
theorem insP_snd {α β : Type} (f : α → β) (l : List (ByteArray × α)) (p : ByteArray × α) (k : Nat) : (insP l p k).map (fun a => f a.2) = insL (l.map fun a => f a.2) (f p.2) k := by simp [insP, insL, List.map_take, List.map_drop]
def zipG (e : GE) : List (ByteArray × GV) := e.keys.zip e.l
set_option maxHeartbeats 16000000 in
theorem specSortKeys_any (e : GE) (cs : List Value) (w : World) (hR : RepGE Any w e cs) :
    Calls Try.prog 28 #[.agg cs.toArray] w fun en w' => ∃ cs', en = .returned (.agg cs'.toArray) ∧ RepGE (fun b => w.heap.size ≤ b) w' ⟨1, ByteArray.empty, (sortP (zipG e)).map (·.1), (sortP (zipG e)).map (fun a => cleanG a.2), zeroG, 0⟩ cs' ∧ Ext w w' := by
  obtain ⟨is, his, hs0, hs1, hs2⟩ := info_parts infoStr
  obtain ⟨i0, hi, hz0, hz1, hz2⟩ := info_parts info_val
  obtain ⟨ka, kc, la, lc, v0, v1, v2, v3, v4, v5, rfl, -, -, -, hk, hl, -⟩ := hR
  obtain ⟨ka', kb, ko, kc', hke, hks, kat⟩ := hk.at'
  obtain ⟨la', lb, lo, lc', hle, hls, lat⟩ := hl.at'
  simp only [Value.slice.injEq, true_and] at hke hle
  obtain ⟨rfl, rfl⟩ := hke
  obtain ⟨rfl, rfl⟩ := hle
  have HK := hid kat
  have HKK := hid kat
  have HL := hid lat
  obtain ⟨m, hm⟩ : ∃ m, m = min e.keys.length e.l.length := ⟨_, rfl⟩
  have HM := hid (show (if e.l.length < e.keys.length then (e.l.length : Int) else (e.keys.length : Int)) = (m : Int) by split <;> omega)
  have HZ := hid (show (zipG e).length = m by unfold zipG; rw [List.length_zip]; omega)
  have hm1 : m ≤ e.keys.length := by omega
  have hm2 : m ≤ e.l.length := by omega
  clear hk hl kat lat hm
  go_enter Try.func28, Try.ntmps28
  go_upto_region 2 with fail
  simp only [HM.out]
  have HWB := hid (show Ext w ((w.alloc (.cells #[.int .i64 e.kind, .string e.s, .slice ka e.keys.length kc, .slice la e.l.length lc, v0, v1, v2, v3, v4, v5, .int .i64 e.n] 34)).alloc (.cells #[.int .i64 0, .string ⟨#[]⟩, .slice none 0 0, .slice none 0 0, .int .i64 0, .int .i64 0, .float .f64 0, .string ⟨#[]⟩, .slice none 0 0, .slice none 0 0, .int .i64 0] 34)) ∧ ((w.alloc (.cells #[.int .i64 e.kind, .string e.s, .slice ka e.keys.length kc, .slice la e.l.length lc, v0, v1, v2, v3, v4, v5, .int .i64 e.n] 34)).alloc (.cells #[.int .i64 0, .string ⟨#[]⟩, .slice none 0 0, .slice none 0 0, .int .i64 0, .int .i64 0, .float .f64 0, .string ⟨#[]⟩, .slice none 0 0, .slice none 0 0, .int .i64 0] 34)).heap.size = w.heap.size + 1 + 1 ∧ ((w.alloc (.cells #[.int .i64 e.kind, .string e.s, .slice ka e.keys.length kc, .slice la e.l.length lc, v0, v1, v2, v3, v4, v5, .int .i64 e.n] 34)).alloc (.cells #[.int .i64 0, .string ⟨#[]⟩, .slice none 0 0, .slice none 0 0, .int .i64 0, .int .i64 0, .float .f64 0, .string ⟨#[]⟩, .slice none 0 0, .slice none 0 0, .int .i64 0] 34)).heap[w.heap.size]? = some (.cells #[.int .i64 e.kind, .string e.s, .slice ka e.keys.length kc, .slice la e.l.length lc, v0, v1, v2, v3, v4, v5, .int .i64 e.n] 34) ∧ ((w.alloc (.cells #[.int .i64 e.kind, .string e.s, .slice ka e.keys.length kc, .slice la e.l.length lc, v0, v1, v2, v3, v4, v5, .int .i64 e.n] 34)).alloc (.cells #[.int .i64 0, .string ⟨#[]⟩, .slice none 0 0, .slice none 0 0, .int .i64 0, .int .i64 0, .float .f64 0, .string ⟨#[]⟩, .slice none 0 0, .slice none 0 0, .int .i64 0] 34)).heap[w.heap.size + 1]? = some (.cells #[.int .i64 0, .string ⟨#[]⟩, .slice none 0 0, .slice none 0 0, .int .i64 0, .int .i64 0, .float .f64 0, .string ⟨#[]⟩, .slice none 0 0, .slice none 0 0, .int .i64 0] 34) from ⟨((Ext.refl w).alloc _).alloc _, by simp, first_heap w _ _, second_heap w _ _⟩)
  generalize ((w.alloc (.cells #[.int .i64 e.kind, .string e.s, .slice ka e.keys.length kc, .slice la e.l.length lc, v0, v1, v2, v3, v4, v5, .int .i64 e.n] 34)).alloc (.cells #[.int .i64 0, .string ⟨#[]⟩, .slice none 0 0, .slice none 0 0, .int .i64 0, .int .i64 0, .float .f64 0, .string ⟨#[]⟩, .slice none 0 0, .slice none 0 0, .int .i64 0] 34)) = wb at *
  have hwb : wb.heap.size = w.heap.size + 1 + 1 := HWB.out.2.1
  go_wp2_with fail
  clear hwb
  go_loopw [5] (fun i wr => ∃ (k : Nat) (kv lv : Value) (ks : List ByteArray) (xs : List Value) (gs : List GV), i = .int .i64 k ∧ k ≤ m ∧ Hid (ks = (sortP ((zipG e).take k)).map (·.1) ∧ gs = (sortP ((zipG e).take k)).map fun a => cleanG a.2) ∧ Hid (EOSt wb wr (w.heap.size + 1 + 1) (w.heap.size + 3) kv lv k k ks xs gs)) (fun i _ => m - (intOf i).toNat)
  case atStart => exact ⟨0, .slice none 0 0, .slice none 0 0, [], [], [], rfl, Nat.zero_le _, hid ⟨by simp [sortP], by simp [sortP]⟩, hid ⟨((Ext.refl wb).alloc _).mono (by rw [HWB.out.2.1]; exact Nat.le_refl _), by rw [← HWB.out.2.1]; exact heap_alloc_new wb _, by omega, by simp [HWB.out.2.1], World.ownsRow_nil _ _ _ _, World.ownsRow_nil _ _ _ _, RowGV.nil _ _⟩⟩
  case round =>
    obtain ⟨k, kv, lv, ks, xs, gs, rfl, hk, HQ, HO⟩ := hrel
    by_cases h1 : k < m
    · obtain ⟨s, hs⟩ : ∃ s, e.keys[k]? = some s := ⟨_, List.getElem?_eq_getElem (by omega)⟩
      obtain ⟨g, hg⟩ : ∃ g, e.l[k]? = some g := ⟨_, List.getElem?_eq_getElem (by omega)⟩
      obtain ⟨rfl, kc1, hsz⟩ := HK.out k s hs
      obtain ⟨rfl, r1, r2, r3, r4, r5, r6, r7, r8, r9, r10, hc1, hR1⟩ := HL.out k g hg
      have HP := hid (show (zipG e)[k]? = some (s, g) by unfold zipG; rw [List.getElem?_zip_eq_some]; exact ⟨hs, hg⟩)
      have HKC := hid kc1
      have HSZ := hid hsz
      have HC1 := hid hc1
      have HR1 := hid hR1
      have HX := hid (show ∀ W, Below (w.heap.size + 1 + 1) wb W → Ext w W ∧ W.cell? ⟨w.heap.size, 2, none⟩ = some (.slice (some ⟨kb, ko, none⟩) e.keys.length kc) ∧ W.cell? ⟨w.heap.size, 3, none⟩ = some (.slice (some ⟨lb, lo, none⟩) e.l.length lc) from fun W h => by
        have hE : Ext w W := HWB.out.1.trans (h.mono (by rw [HWB.out.2.1]; exact Nat.le_refl _))
        have hb := (Below.block h w.heap.size (by omega)).trans HWB.out.2.2.1
        obtain ⟨⟨-, -, q2, q3, -⟩, -⟩ := slot11 hb
        exact ⟨hE, q2, q3⟩)
      have HKS := hid (show ∀ a ∈ ks, a.size ≤ 140737488351232 by
        intro a ha
        rw [HQ.out.1] at ha
        obtain ⟨p, hp, rfl⟩ := List.mem_map.1 ha
        have h1 := List.mem_of_mem_take ((sortP_perm _).mem_iff.1 hp)
        obtain ⟨i, hi⟩ := List.mem_iff_getElem?.1 (List.of_mem_zip (show (p.1, p.2) ∈ e.keys.zip e.l from h1)).1
        exact (HKK.out i p.1 hi).2.2)
      have HACC := hid (show ks.length = k ∧ gs.length = k by rw [HQ.out.1, HQ.out.2]; simp [sortP_length]; have := HZ.out; omega)
      have hi0 : (0 : Int) ≤ (k : Int) := by omega
      have hi1 : (k : Int) < (m : Int) := by omega
      have hi2 : (k : Int) < (e.keys.length : Int) := by omega
      have hi3 : (k : Int) < (e.l.length : Int) := by omega
      obtain ⟨ka', kc', rfl⟩ := own_form HO.out.krow
      obtain ⟨la', lc', rfl⟩ := own_form HO.out.lrow
      obtain ⟨⟨z0, z1, z2, z3, z4, z5, z6, z7, z8, z9, z10⟩, -⟩ := slot11 HO.out.out
      clear hs hg kc1 hsz hc1 hR1
      go_wp2_with fail
      clear z0 z1 z2 z3 z4 z5 z6 z7 z8 z9 z10
      obtain ⟨wo, rfl⟩ : ∃ wo : World, wo = wr := ⟨_, rfl⟩
      go_loopw [6] (fun j wx => ∃ jj : Nat, j = .int .i64 jj ∧ jj ≤ k ∧ Hid (EOSt wb wx (w.heap.size + 1 + 1) (w.heap.size + 3) (.slice ka' k kc') (.slice la' k lc') k k ks xs gs) ∧ Hid (∀ a ∈ ks.drop jj, blt s a = true)) (fun j _ => (intOf j).toNat)
      case atStart => exact ⟨k, rfl, Nat.le_refl _, HO, hid (by rw [List.drop_eq_nil_of_le (by have := HACC.out.1; omega)]; simp)⟩
      case round =>
        obtain ⟨jj, rfl, hjj, HO, HA⟩ := hrel
        obtain ⟨⟨z0, z1, z2, z3, z4, z5, z6, z7, z8, z9, z10⟩, f0, f1, f2, f3, f4, f5, f6, f7, f8, f9, f10⟩ := slot11 HO.out.out
        obtain ⟨HE, q2, q3⟩ := HX.out _ HO.out.below
        have HEH := hid HE
        clear HE
        have j1 := HEH.out.cellS HKC.out
        have hcase : (jj = 0 ∧ True) ∨ ∃ j a, jj = j + 1 ∧ ks[j]? = some a ∧ ∃ b, blt s a = b ∧ decide (0 < scmp a s) = b := by
          cases jj with
          | zero => exact .inl ⟨rfl, trivial⟩
          | succ j =>
            obtain ⟨a, ha⟩ : ∃ a, ks[j]? = some a := ⟨_, List.getElem?_eq_getElem (by have := HACC.out.1; omega)⟩
            refine .inr ⟨j, a, rfl, ha, blt s a, rfl, ?_⟩
            rcases blt_tri s a with h | h | h
            · rw [(scmp_lt h).2, h]; rfl
            · subst h; rw [scmp_refl, blt_irrefl]; rfl
            · rw [(scmp_lt h).1, blt_asymm h]; rfl
        rcases hcase with ⟨h0, -⟩ | ⟨j, a, hj, ha, b, hb1, hb2⟩
        have hd : decide (0 < jj) = false := by rw [h0]; rfl
        have HEX := hid (show jj = 0 ∨ ∃ a, ks[jj - 1]? = some a ∧ blt s a = false from .inl h0)
        clear h0
        focus
          go_wp2_with fail
          go_quiet (fail)
          go_upto_region 9 with fail
        replace HO := hid (HO.out.ext' (show Ext wr (wr.drewN nq) from ⟨rfl, rfl, rfl, Nat.le_refl _, fun _ _ => rfl⟩))
        generalize wr.drewN nq = wq at *
        rotate_left
        have hd : 0 < jj := by omega
        have hjk : (j : Int) < (k : Int) := by omega
        have hj0 : (0 : Int) ≤ (j : Int) := by omega
        have hw1 : IntKind.i64.wrap (j : Int) = (j : Int) := by simp [IntKind.wrap, IntKind.signed, IntKind.bits]; omega
        have hw2 : IntKind.i64.wrap ((jj : Int) - 1) = (j : Int) := by rw [show (jj : Int) - 1 = (j : Int) by omega]; exact hw1
        have HJ := hid hj
        obtain ⟨gk, ck, hkv, -, -⟩ := HO.out.krow.form (by omega)
        simp only [Value.slice.injEq, true_and] at hkv
        obtain ⟨rfl, rfl⟩ := hkv
        have ck := HO.out.krow.cellAt j (by omega)
        rw [List.getElem?_map, ha] at ck
        simp only [Option.map_some] at ck
        have HGT := hid hb1
        have HAA := hid ha
        have HSS := hid (fun W => specStr_big a s W (HKS.out a (List.mem_of_getElem? ha)))
        have K := hid (show ∀ w' : World, Ext wr w' → (fun w' : World => w'.cell? ⟨w.heap.size + 1 + 1, 2, none⟩ = some (.slice (some ⟨gk, 0, none⟩) k kc') ∧ w'.cell? ⟨gk, j, none⟩ = some (.string a) ∧ w'.cell? ⟨w.heap.size, 2, none⟩ = some (.slice (some ⟨kb, ko, none⟩) e.keys.length kc) ∧ w'.cell? ⟨kb, ko + k, none⟩ = some (.string s)) w' from fun w' h => ⟨h.cellS z2, h.cellS ck, h.cellS q2, h.cellS j1⟩)
        generalize scmp a s = z at *
        clear hb1 ha hj
        cases b
        focus
         go_wp2_with fail
         go_region_held3 (fun w' : World => w'.cell? ⟨w.heap.size + 1 + 1, 2, none⟩ = some (.slice (some ⟨gk, 0, none⟩) k kc') ∧ w'.cell? ⟨gk, j, none⟩ = some (.string a) ∧ w'.cell? ⟨w.heap.size, 2, none⟩ = some (.slice (some ⟨kb, ko, none⟩) e.keys.length kc) ∧ w'.cell? ⟨kb, ko + k, none⟩ = some (.string s))
          (first | with_reducible exact K.out _ HE4.out | with_reducible exact K.out _ (Ext.refl wr).drew)
          (first | (go_at_call 70; refine (HSS.out _).mono ?_; rintro en w4 ⟨rfl, hE⟩; have HE4 := hid ((Ext.refl wr).drew.trans hE); clear hE))
         go_upto_region 9 with fail
        have HEX := hid (show jj = 0 ∨ ∃ a, ks[jj - 1]? = some a ∧ blt s a = false from .inr ⟨a, by rw [HJ.out]; exact HAA.out, HGT.out⟩)
        replace HO := hid (HO.out.ext' HE4.out)
        clear hb2 hjk hj0 hw1 hw2 K
        rename World => wq
        rotate_left
        focus
         go_wp2_with fail
         go_region_held3 (fun w' : World => w'.cell? ⟨w.heap.size + 1 + 1, 2, none⟩ = some (.slice (some ⟨gk, 0, none⟩) k kc') ∧ w'.cell? ⟨gk, j, none⟩ = some (.string a) ∧ w'.cell? ⟨w.heap.size, 2, none⟩ = some (.slice (some ⟨kb, ko, none⟩) e.keys.length kc) ∧ w'.cell? ⟨kb, ko + k, none⟩ = some (.string s))
          (first | with_reducible exact K.out _ HE4.out | with_reducible exact K.out _ (Ext.refl wr).drew)
          (first | (go_at_call 70; refine (HSS.out _).mono ?_; rintro en w4 ⟨rfl, hE⟩; have HE4 := hid ((Ext.refl wr).drew.trans hE); clear hE))
         go_wp2_with fail
        refine ⟨⟨j, by have := HJ.out; congr 1, by have := HJ.out; omega, hid (HO.out.ext' HE4.out), hid ?_⟩, by have := HJ.out; simp [intOf]; omega⟩
        intro b hb
        rw [List.drop_eq_getElem_cons (by have := HACC.out.1; omega)] at hb
        rcases List.mem_cons.1 hb with rfl | hb
        · have := HAA.out
          rw [List.getElem?_eq_getElem (by have := HACC.out.1; omega)] at this
          rw [Option.some.inj this]; exact HGT.out
        · exact HA.out b (by rw [HJ.out]; exact hb)
        all_goals
          have HSZ3 := hid HO.out.hB
          clear z0 z1 z2 z3 z4 z5 z6 z7 z8 z9 z10 f0 f1 f2 f3 f4 f5 f6 f7 f8 f9 f10
          obtain ⟨⟨z0, z1, z2, z3, z4, z5, z6, z7, z8, z9, z10⟩, f0, f1, f2, f3, f4, f5, f6, f7, f8, f9, f10⟩ := slot11 HO.out.out
          go_upto_region 10 with (at_builtin; refine wpList_append_lies _ rfl (.tmp 44) (.tmp 45) 26 rfl (w.heap.size + 3) 9 is _ 1 16 Try.underlying26 his hs0 hs1 hs2 rfl (by decide) _ k (ks.map Value.string) rfl ((HO.out.krow).alloc _) ⟨wq.heap.size, 0, none⟩ 1 1 [.string ⟨#[]⟩] rfl rfl (cells_new wq [.string ⟨#[]⟩] _) (by simp [Value.oneCell']) (by decide) (by unfold maxLen; omega) (by omega) (by have := HSZ3.out; simp; omega) (wq.heap.size + 1) (by simp) ?_; intro g3 cap3 w3 hown3 hg3 hat hlt3; have HO1 := hid (HO.out.ext' ((Ext.refl wq).alloc (.cells #[.string ⟨#[]⟩] 9))); have ho3 := HO1.out.out_kept hg3 (own_ge HO1.out.krow); clear z0 z1 z2 z3 z4 z5 z6 z7 z8 z9 z10 f0 f1 f2 f3 f4 f5 f6 f7 f8 f9 f10; obtain ⟨⟨z0, z1, z2, z3, z4, z5, z6, z7, z8, z9, z10⟩, f0, f1, f2, f3, f4, f5, f6, f7, f8, f9, f10⟩ := slot11 ho3; have HK3 := hid (And.intro hg3 (And.intro hown3 hat)); clear hown3 hg3 hat hlt3 ho3)
          have HO4 := hid (HO1.out.key ⟨#[]⟩ HK3.out.1 HK3.out.2.1 (fun g hg => by have h := HK3.out.2.2; simp [Value.ownBlock] at hg; subst hg; exact h.elim .inl (fun e => .inr (by rw [e]; simp))))
          generalize w3.setCell ⟨w.heap.size + 1 + 1, 2, none⟩ (.slice (some ⟨g3, 0, none⟩) (k + 1) cap3) = w4 at *
          have HSZ4 := hid HO4.out.hB
          clear z0 z1 z2 z3 z4 z5 z6 z7 z8 z9 z10 f0 f1 f2 f3 f4 f5 f6 f7 f8 f9 f10 HK3 HO1
          obtain ⟨⟨z0, z1, z2, z3, z4, z5, z6, z7, z8, z9, z10⟩, f0, f1, f2, f3, f4, f5, f6, f7, f8, f9, f10⟩ := slot11 HO4.out.out
          go_upto_region 11 with (at_builtin; refine wpList_append_lies _ rfl (.tmp 49) (.tmp 51) 27 rfl (w.heap.size + 3) 32 i0 _ 6 88 Try.underlying27 hi hz0 hz1 hz2 rfl (by decide) _ k xs rfl ((HO4.out.lrow).alloc _) ⟨w4.heap.size, 0, none⟩ 1 1 [.int .i64 0, .int .i64 0, .float .f64 0, .string ⟨#[]⟩, .slice none 0 0, .slice none 0 0] rfl rfl (cells_new w4 [.int .i64 0, .int .i64 0, .float .f64 0, .string ⟨#[]⟩, .slice none 0 0, .slice none 0 0] _) (by simp [Value.oneCell']) (by decide) (by unfold maxLen; omega) (by omega) (by have := HSZ4.out; simp; omega) (w4.heap.size + 1) (by simp) ?_; intro g5 cap5 w5 hown5 hg5 hat5 hlt5; have HO5 := hid (HO4.out.ext' ((Ext.refl w4).alloc (.cells #[.int .i64 0, .int .i64 0, .float .f64 0, .string ⟨#[]⟩, .slice none 0 0, .slice none 0 0] 32))); have ho5 := HO5.out.out_kept hg5 (own_ge HO5.out.lrow); clear z0 z1 z2 z3 z4 z5 z6 z7 z8 z9 z10 f0 f1 f2 f3 f4 f5 f6 f7 f8 f9 f10; obtain ⟨⟨z0, z1, z2, z3, z4, z5, z6, z7, z8, z9, z10⟩, f0, f1, f2, f3, f4, f5, f6, f7, f8, f9, f10⟩ := slot11 ho5; have HK5 := hid (And.intro hg5 (And.intro hown5 hat5)); clear hown5 hg5 hat5 hlt5 ho5)
          have HO6 := hid (HO5.out.val (gv := zeroG) HK5.out.1 HK5.out.2.1 (repZero _ _) (fun g hg => by have h := HK5.out.2.2; simp [Value.ownBlock] at hg; subst hg; exact h.elim .inl (fun e => .inr (by rw [e]; simp))))
          generalize w5.setCell ⟨w.heap.size + 1 + 1, 3, none⟩ (.slice (some ⟨g5, 0, none⟩) (k + 1) cap5) = w6 at *
          clear z0 z1 z2 z3 z4 z5 z6 z7 z8 z9 z10 f0 f1 f2 f3 f4 f5 f6 f7 f8 f9 f10 HK5 HO5 HO4
          obtain ⟨⟨z0, z1, z2, z3, z4, z5, z6, z7, z8, z9, z10⟩, f0, f1, f2, f3, f4, f5, f6, f7, f8, f9, f10⟩ := slot11 HO6.out.out
          go_wp2_with fail
          have HE6 := HO6
          clear z0 z1 z2 z3 z4 z5 z6 z7 z8 z9 z10 f0 f1 f2 f3 f4 f5 f6 f7 f8 f9 f10
          obtain ⟨wp, rfl⟩ : ∃ wp : World, wp = wr := ⟨_, rfl⟩
          go_loopw [7] (fun j wy => ∃ (i : Nat) (jk : ByteArray) (jg : GV) (zz : List Value), j = .int .i64 i ∧ jj ≤ i ∧ i ≤ k ∧ Hid (EOSt wb wy (w.heap.size + 1 + 1) (w.heap.size + 3) (.slice (some ⟨g3, 0, none⟩) (k + 1) cap3) (.slice (some ⟨g5, 0, none⟩) (k + 1) cap5) (k + 1) (k + 1) (insL ks jk i) zz (insL gs jg i))) (fun j _ => (intOf j).toNat)
          case atStart =>
            refine ⟨k, ⟨#[]⟩, zeroG, xs ++ [.int .i64 0, .int .i64 0, .float .f64 0, .string ⟨#[]⟩, .slice none 0 0, .slice none 0 0], rfl, hjj, Nat.le_refl _, hid ?_⟩
            have e1 := insL_end ks ⟨#[]⟩
            have e2 := insL_end gs zeroG
            rw [HACC.out.1] at e1
            rw [HACC.out.2] at e2
            rw [e1, e2]
            exact HE6.out
          case round =>
            obtain ⟨i, jk, jg, zz, rfl, hji, hik, HO⟩ := hrel
            obtain ⟨⟨z0, z1, z2, z3, z4, z5, z6, z7, z8, z9, z10⟩, f0, f1, f2, f3, f4, f5, f6, f7, f8, f9, f10⟩ := slot11 HO.out.out
            have HLK := hid (show (insL ks jk i).length = k + 1 by rw [insL_length, HACC.out.1])
            have HLG := hid (show (insL gs jg i).length = k + 1 by rw [insL_length, HACC.out.2])
            obtain ⟨o1, o2, o3, o4, o5, o6, o7, o8, o9, o10, hRo, t0, t1, t2, t3, t4, t5⟩ := row_cells HO.out.lrow HO.out.row (i := i) (x := jg) (insL_at gs jg (by have := HACC.out.2; omega))
            obtain ⟨y0, y1, y2, y3, y4, y5⟩ := row_frozen HO.out.lrow i
            have m0 := HO.out.krow.cellAt i (by omega)
            rw [List.getElem?_map, show (insL ks jk i)[i]? = some jk from insL_at ks jk (by have := HACC.out.1; omega)] at m0
            simp only [Option.map_some] at m0
            have m1 := HO.out.krow.frozenAt i
            have HJG := hid (show (insL gs jg i)[i]? = some jg from insL_at gs jg (by have := HACC.out.2; omega))
            clear hRo
            by_cases hlt : jj < i
            · obtain ⟨i', hi'⟩ : ∃ i', i = i' + 1 := ⟨i - 1, by omega⟩
              obtain ⟨a1, ha1⟩ : ∃ a, ks[i']? = some a := ⟨_, List.getElem?_eq_getElem (by have := HACC.out.1; omega)⟩
              obtain ⟨b1, hb1⟩ : ∃ b, gs[i']? = some b := ⟨_, List.getElem?_eq_getElem (by have := HACC.out.2; omega)⟩
              have HA1 := hid ha1
              have HB1 := hid hb1
              obtain ⟨p1, p2, p3, p4, p5, p6, p7, p8, p9, p10, hRp, c0, c1, c2, c3, c4, c5⟩ := row_cells HO.out.lrow HO.out.row (i := i') (x := b1) (by rw [insL_before gs jg (by omega) (by have := HACC.out.2; omega)]; exact hb1)
              have n0 := HO.out.krow.cellAt i' (by omega)
              rw [List.getElem?_map, insL_before ks jk (by omega) (by have := HACC.out.1; omega), ha1] at n0
              simp only [Option.map_some] at n0
              have HRP := hid hRp
              have HI := hid hi'
              have hw1 : IntKind.i64.wrap (i' : Int) = (i' : Int) := by simp [IntKind.wrap, IntKind.signed, IntKind.bits]; omega
              have hw2 : IntKind.i64.wrap ((i : Int) - 1) = (i' : Int) := by rw [show (i : Int) - 1 = (i' : Int) by omega]; exact hw1
              have g0 : (0 : Int) ≤ (i' : Int) := by omega
              have g1 : (i' : Int) < (k : Int) + 1 := by omega
              have g2 : (i : Int) < (k : Int) + 1 := by omega
              have g3' : i < k + 1 := by omega
              have g4' : i' < k + 1 := by omega
              have hgk := own_ge HO.out.krow g3 rfl
              have hgl := own_ge HO.out.lrow g5 rfl
              have hap : g5 ≠ g3 := by have := own_apart HO.out.lrow HO.out.krow (by decide); simpa [Value.ownBlock] using this
              have d1 : ¬ g3 = w.heap.size + 1 + 1 := by omega
              have d2 : ¬ w.heap.size + 1 + 1 = g3 := by omega
              have d3 : ¬ g5 = w.heap.size + 1 + 1 := by omega
              have d4 : ¬ w.heap.size + 1 + 1 = g5 := by omega
              have d5 : ¬ g5 = g3 := hap
              have d6 : ¬ g3 = g5 := fun e => hap e.symm
              clear ha1 hb1 hRp hi' hgk hgl hap
              go_wp2_with fail
              go_region
              all_goals
                go_wp2_with fail
                have h := (HO.out.put (j := i) g3' a1 rfl HRP.out).ext' (ext_drew1 _)
                simp only [setL, Nat.add_assoc, Nat.reduceAdd] at h
                have e1 : (insL ks jk i).set i a1 = insL ks a1 i' := by rw [HI.out]; exact insL_shift ks jk a1 HA1.out
                have e2 : (insL gs jg i).set i b1 = insL gs b1 i' := by rw [HI.out]; exact insL_shift gs jg b1 HB1.out
                rw [e1, e2] at h
                exact ⟨⟨i', a1, b1, _, by congr 1, by have := HI.out; omega, by have := HI.out; omega, hid h⟩, by have := HI.out; simp [intOf]; omega⟩
            · have hij : i = jj := by omega
              have HIJ := hid hij
              have HRE := hid (show Ext w wr from (HX.out _ HO.out.below).1)
              obtain ⟨-, q2, q3⟩ := HX.out _ HO.out.below
              have n1 := HRE.out.cellS HKC.out
              obtain ⟨c0, c1, c2, c3, c4, c5⟩ := cells6 (cellsAt_ext HRE.out HC1.out)
              have HRG := hid (HR1.out.ext HRE.out)
              have g2 : (jj : Int) < (k : Int) + 1 := by omega
              have g3' : jj < k + 1 := by omega
              subst hij
              have hgk := own_ge HO.out.krow g3 rfl
              have hgl := own_ge HO.out.lrow g5 rfl
              have hB3 := HO.out.hB
              have lt := fun {b o : Nat} {v : Value} (h : w.cell? ⟨b, o, none⟩ = some v) => (show b < w.heap.size + 3 from Nat.lt_of_lt_of_le (World.block_lt_of_cell? w _ h) (by omega))
              have kl := lt HKC.out
              have ll := lt (cells6 HC1.out).1
              have K := hid (show ∀ w' : World, Below (w.heap.size + 3) wr w' → (fun w' : World => w'.cell? ⟨w.heap.size + 1 + 1, 2, none⟩ = some (.slice (some ⟨g3, 0, none⟩) (k + 1) cap3) ∧ w'.cell? ⟨w.heap.size + 1 + 1, 3, none⟩ = some (.slice (some ⟨g5, 0, none⟩) (k + 1) cap5) ∧ w'.cell? ⟨w.heap.size, 2, none⟩ = some (.slice (some ⟨kb, ko, none⟩) e.keys.length kc) ∧ w'.cell? ⟨kb, ko + k, none⟩ = some (.string s) ∧ w'.cell? ⟨w.heap.size, 3, none⟩ = some (.slice (some ⟨lb, lo, none⟩) e.l.length lc) ∧ w'.cell? ⟨lb, lo + k * 6, none⟩ = some (.int .i64 r1) ∧ w'.cell? ⟨lb, lo + k * 6 + 1, none⟩ = some (.int .i64 r2) ∧ w'.cell? ⟨lb, lo + k * 6 + 2, none⟩ = some (.float .f64 r3) ∧ w'.cell? ⟨lb, lo + k * 6 + 3, none⟩ = some (.string r4) ∧ w'.cell? ⟨lb, lo + k * 6 + 4, none⟩ = some (.slice r5 r6 r7) ∧ w'.cell? ⟨lb, lo + k * 6 + 5, none⟩ = some (.slice r8 r9 r10)) w' from fun w' h => ⟨below_cell h (by show w.heap.size + 1 + 1 < _; omega) z2, below_cell h (by show w.heap.size + 1 + 1 < _; omega) z3, below_cell h (by show w.heap.size < _; omega) q2, below_cell h kl n1, below_cell h (by show w.heap.size < _; omega) q3, below_cell h ll c0, below_cell h ll c1, below_cell h ll c2, below_cell h ll c3, below_cell h ll c4, below_cell h ll c5⟩)
              have HG3 := hid hgk
              have HB3 := hid hB3
              have hap : g5 ≠ g3 := by have := own_apart HO.out.lrow HO.out.krow (by decide); simpa [Value.ownBlock] using this
              have d1 : ¬ g3 = w.heap.size + 1 + 1 := by omega
              have d2 : ¬ w.heap.size + 1 + 1 = g3 := by omega
              have d3 : ¬ g5 = w.heap.size + 1 + 1 := by omega
              have d4 : ¬ w.heap.size + 1 + 1 = g5 := by omega
              have d5 : ¬ g5 = g3 := hap
              have d6 : ¬ g3 = g5 := fun e => hap e.symm
              have d7 : ¬ w.heap.size = g3 := by omega
              have d8 : ¬ w.heap.size = g5 := by omega
              have kl' : kb < w.heap.size + 3 := kl
              have ll' : lb < w.heap.size + 3 := ll
              have d9 : ¬ kb = g3 := by omega
              have d10 : ¬ kb = g5 := by omega
              have d11 : ¬ lb = g3 := by omega
              have d12 : ¬ lb = g5 := by omega
              clear hgk hgl hB3 lt kl ll hap kl' ll'
              have HRG2 := hid (show ∀ W', Below (w.heap.size + 3) wr W' → RepGV Any W' g _ from fun W' h => HR1.out.ext (HX.out _ (HO.out.below.trans (h.mono (by omega)))).1)
              have HO0 := hid (HO.out.ext' (ext_drew1 wr))
              have HOK := hid ((HO.out.putKey i s).ext' (ext_drew1 _))
              have HB0 := hid (show Below (w.heap.size + 3) wr wr.drew from Below.drew (Below.refl _ _))
              have HBK := hid (show Below (w.heap.size + 3) wr (wr.setCell ⟨g3, i, none⟩ (.string s)).drew from Below.drew (key_raw (Below.refl _ _) HG3.out _ _))
              have HGL := hid (own_ge HO.out.lrow g5 rfl)
              have HC0 := hid (clean_any g _ _ (HRG2.out _ HB0.out))
              have HCK := hid (clean_any g _ _ (HRG2.out _ HBK.out))
              clear HRG
              go_wp2_with fail
              go_region_held3 (fun w' : World => w'.cell? ⟨w.heap.size + 1 + 1, 2, none⟩ = some (.slice (some ⟨g3, 0, none⟩) (k + 1) cap3) ∧ w'.cell? ⟨w.heap.size + 1 + 1, 3, none⟩ = some (.slice (some ⟨g5, 0, none⟩) (k + 1) cap5) ∧ w'.cell? ⟨w.heap.size, 2, none⟩ = some (.slice (some ⟨kb, ko, none⟩) e.keys.length kc) ∧ w'.cell? ⟨kb, ko + k, none⟩ = some (.string s) ∧ w'.cell? ⟨w.heap.size, 3, none⟩ = some (.slice (some ⟨lb, lo, none⟩) e.l.length lc) ∧ w'.cell? ⟨lb, lo + k * 6, none⟩ = some (.int .i64 r1) ∧ w'.cell? ⟨lb, lo + k * 6 + 1, none⟩ = some (.int .i64 r2) ∧ w'.cell? ⟨lb, lo + k * 6 + 2, none⟩ = some (.float .f64 r3) ∧ w'.cell? ⟨lb, lo + k * 6 + 3, none⟩ = some (.string r4) ∧ w'.cell? ⟨lb, lo + k * 6 + 4, none⟩ = some (.slice r5 r6 r7) ∧ w'.cell? ⟨lb, lo + k * 6 + 5, none⟩ = some (.slice r8 r9 r10))
                (first | with_reducible exact K.out _ HB0.out | with_reducible exact K.out _ HBK.out | with_reducible exact K.out _ HB8.out | with_reducible exact K.out _ (key_raw HB8.out HG3.out _ _) | with_reducible exact K.out _ (set6_raw HB8.out HGL.out _ _ _ _ _ _ _) | with_reducible exact K.out _ (set6_raw (key_raw HB8.out HG3.out _ _) HGL.out _ _ _ _ _ _ _) | with_reducible exact K.out _ (key_raw (set6_raw HB8.out HGL.out _ _ _ _ _ _ _) HG3.out _ _))
                (first
                  | (go_at_call 32; ((with_reducible refine HC0.out.mono ?_); rintro en w8 ⟨cs8, rfl, hT, hE⟩; obtain ⟨l1, l2, l3, l4, l5, l6, l7, l8, l9, l10, rfl⟩ := hT.form; have HT := hid (HO0.out.fresh hT); have HO8 := hid (HO0.out.ext' hE); have HB8 := hid (HB0.out.trans (hE.mono (Nat.le_trans HB3.out HB0.out.size))); clear t0 t1 t2 t3 t4 t5 m1 y0 y1 y2 y3 y4 y5; obtain ⟨o1, o2, o3, o4, o5, o6, o7, o8, o9, o10, hRo, t0, t1, t2, t3, t4, t5⟩ := row_cells HO8.out.lrow HO8.out.row (i := i) (x := jg) HJG.out; obtain ⟨y0, y1, y2, y3, y4, y5⟩ := row_frozen HO8.out.lrow i; replace m0 := hE.cellS (show wr.drew.cell? _ = _ from m0); have m1 := HO8.out.krow.frozenAt i; clear hT hE hRo))
                  | (go_at_call 32; ((with_reducible refine HCK.out.mono ?_); rintro en w8 ⟨cs8, rfl, hT, hE⟩; obtain ⟨l1, l2, l3, l4, l5, l6, l7, l8, l9, l10, rfl⟩ := hT.form; have HT := hid (HOK.out.fresh hT); have HO8 := hid (HOK.out.ext' hE); have HB8 := hid (HBK.out.trans (hE.mono (Nat.le_trans HB3.out HBK.out.size))); clear t0 t1 t2 t3 t4 t5 m1 y0 y1 y2 y3 y4 y5 m0; obtain ⟨o1, o2, o3, o4, o5, o6, o7, o8, o9, o10, hRo, t0, t1, t2, t3, t4, t5⟩ := row_cells HO8.out.lrow HO8.out.row (i := i) (x := jg) HJG.out; obtain ⟨y0, y1, y2, y3, y4, y5⟩ := row_frozen HO8.out.lrow i; clear hT hE hRo)))
              have h := HO8.out.put (j := i) g3' s rfl HT.out
              simp only [setL, Nat.add_assoc, Nat.reduceAdd] at h
              have HF := hid h
              have HN := hid (show (insL ks jk i).set i s = (sortP ((zipG e).take (k + 1))).map (·.1) ∧ (insL gs jg i).set i (cleanG g) = (sortP ((zipG e).take (k + 1))).map fun a => cleanG a.2 by
                obtain ⟨hq1, hq2⟩ := HQ.out
                have hd := sortP_done HP.out (j := i) hik (fun a ha => HA.out a.1 (by rw [hq1, ← List.map_drop]; exact List.mem_map_of_mem ha)) (HEX.out.imp id (fun ⟨a, q1, q2⟩ => by
                  rw [hq1, List.getElem?_map] at q1
                  obtain ⟨x, hx, rfl⟩ := Option.map_eq_some_iff.1 q1
                  exact ⟨x, hx, q2⟩))
                rw [insL_set _ _ _ (by have := HACC.out.1; omega), insL_set _ _ _ (by have := HACC.out.2; omega), ← hd, insP_fst, insP_snd, ← hq1, ← hq2]
                exact ⟨rfl, rfl⟩)
              clear h
              go_wp2_with fail
              exact ⟨⟨k + 1, _, _, _, _, _, by first | rfl | (congr 1; omega), by omega, HN, HF⟩, by simp [intOf]; omega⟩
    · have hkk : k = m := by omega
      have HQ' := hid (show ks = (sortP (zipG e)).map (·.1) ∧ gs = (sortP (zipG e)).map fun a => cleanG a.2 by have := HQ.out; rwa [List.take_of_length_le (by have := HZ.out; omega)] at this)
      have HL2 := hid (show ks.length = k ∧ gs.length = k by rw [HQ'.out.1, HQ'.out.2]; simp [sortP_length]; have := HZ.out; omega)
      have HQS := hid (show ∀ a ∈ ks, a.size ≤ 140737488351232 by
        intro a ha
        rw [HQ'.out.1] at ha
        obtain ⟨p, hp, rfl⟩ := List.mem_map.1 ha
        have h1 := (sortP_perm _).mem_iff.1 hp
        obtain ⟨i, hi⟩ := List.mem_iff_getElem?.1 (List.of_mem_zip (show (p.1, p.2) ∈ e.keys.zip e.l from h1)).1
        exact (HKK.out i p.1 hi).2.2)
      have HE := hid (show Ext w wr from HWB.out.1.trans (HO.out.below.mono (by rw [HWB.out.2.1]; exact Nat.le_refl _)))
      clear hkk
      obtain ⟨ka, kc, rfl⟩ := own_form HO.out.krow
      obtain ⟨la, lc, rfl⟩ := own_form HO.out.lrow
      obtain ⟨⟨z0, z1, z2, z3, z4, z5, z6, z7, z8, z9, z10⟩, f0, f1, f2, f3, f4, f5, f6, f7, f8, f9, f10⟩ := slot11 HO.out.out
      have HR := hid ((Below.block HO.out.below (w.heap.size + 1) (by omega)).trans HWB.out.2.2.2)
      obtain ⟨⟨y0, y1, y2, y3, y4, y5, y6, y7, y8, y9, y10⟩, g0, g1, g2, g3, g4, g5, g6, g7, g8, g9, g10⟩ := slot11 HR.out
      go_wp2_with fail
      have hB3 : w.heap.size + 1 < w.heap.size + 3 := by omega
      have hks : RepStrs (fun b => w.heap.size + 3 ≤ b) wr (.slice ka k kc) ks := strs_of_row HO.out.krow (fun b h => h) (by have := HL2.out.1; omega) HQS.out
      have hgs : RepVals (fun b => w.heap.size + 3 ≤ b) wr (.slice la k lc) gs := vals_own HO.out.lrow (HO.out.row.mono (Same.refl _ _) (fun b hb _ => hb.1)) (fun b h => h) (by have := HL2.out.2; omega)
      change bodyPost _ _ _ _ _ (setL wr (w.heap.size + 1) 0 [.int .i64 1, .string ⟨#[]⟩, .slice ka k kc, .slice la k lc, .int .i64 0, .int .i64 0, .float .f64 0, .string ⟨#[]⟩, .slice none 0 0, .slice none 0 0, .int .i64 0])
      obtain ⟨e4, hr4, x4⟩ := putE (e := ⟨1, ByteArray.empty, ks, gs, zeroG, 0⟩) (w := w) (W := wr) (S := fun b => w.heap.size + 3 ≤ b) (vs := [.int .i64 1, .string ⟨#[]⟩, .slice ka k kc, .slice la k lc, .int .i64 0, .int .i64 0, .float .f64 0, .string ⟨#[]⟩, .slice none 0 0, .slice none 0 0, .int .i64 0]) HR.out rfl (Nat.le_succ _) HE.out ⟨ka, kc, la, lc, _, _, _, _, _, _, by simp only [HL2.out.1, HL2.out.2]; rfl, wfk 1 rfl, wfk 0 rfl, es0, by simp only [HL2.out.1]; exact hks, by simp only [HL2.out.2]; exact hgs, repZero _ _⟩ (fun b hb => by have hb2 : w.heap.size + 3 ≤ b := hb; omega) _ rfl
      generalize setL wr (w.heap.size + 1) 0 [.int .i64 1, .string ⟨#[]⟩, .slice ka k kc, .slice la k lc, .int .i64 0, .int .i64 0, .float .f64 0, .string ⟨#[]⟩, .slice none 0 0, .slice none 0 0, .int .i64 0] = WF at *
      obtain ⟨⟨y0, y1, y2, y3, y4, y5, y6, y7, y8, y9, y10⟩, -⟩ := slot11 e4
      refine bodyPost_ret (v := .agg #[.int .i64 1, .string ⟨#[]⟩, .slice ka k kc, .slice la k lc, .int .i64 0, .int .i64 0, .float .f64 0, .string ⟨#[]⟩, .slice none 0 0, .slice none 0 0, .int .i64 0]) (by simp [results, Try.results28, go_sem, y0, y1, y2, y3, y4, y5, y6, y7, y8, y9, y10]) rfl ⟨_, rfl, ?_, x4⟩
      rw [← HQ'.out.1, ← HQ'.out.2]
      exact hr4
end Go.Proofs.Ytempfaefopfobaa
