/- ToMap: impl.toMap; and all five: any part of a schema. -/
import Derived.Test.YtempfaefopfobaaToAtom

namespace Go.Proofs.Ytempfaefopfobaa
open Go.ChangeShapes Go.WideShapes Go.ChangeAt Go.RowKit
set_option linter.unusedVariables false
set_option linter.unusedSimpArgs false

/-- the cells xs read, eight by eight, as the fields gs -/
def RowS (S : Nat → Prop) (w : World) (xs : List Value) (gs : List GS) : Prop := xs.length = gs.length * 8 ∧ ∀ i g, gs[i]? = some g → RepS S w g ((xs.drop (i * 8)).take 8)
theorem RowS.nil (S : Nat → Prop) (w : World) : RowS S w [] [] := ⟨rfl, fun i g h => by simp at h⟩
theorem RowS.mono {S S' : Nat → Prop} {w w' : World} {xs : List Value} {gs : List GS} (h : RowS S w xs gs) (hs : Same S w w') (hS : ∀ b, S b → b < w.heap.size → S' b) : RowS S' w' xs gs :=
  ⟨h.1, fun i g hg => (h.2 i g hg).mono hs hS⟩
theorem RowS.append {S : Nat → Prop} {w : World} {xs ys : List Value} {gs hs : List GS} (h : RowS S w xs gs) (k : RowS S w ys hs) : RowS S w (xs ++ ys) (gs ++ hs) := by
  refine ⟨by rw [List.length_append, h.1, k.1, List.length_append]; omega, fun i g hg => ?_⟩
  by_cases hi : i < gs.length
  · rw [List.getElem?_append_left hi] at hg
    have := h.2 i g hg
    rwa [List.drop_append_of_le_length (by rw [h.1]; omega), List.take_append_of_le_length (by rw [List.length_drop, h.1]; omega)]
  · rw [List.getElem?_append_right (by omega)] at hg
    have := k.2 _ g hg
    rw [List.drop_append, List.drop_of_length_le (by rw [h.1]; omega), List.nil_append, h.1]
    rwa [show i * 8 - gs.length * 8 = (i - gs.length) * 8 by omega]
theorem RowS.one {S : Nat → Prop} {w : World} {cs : List Value} {g : GS} (h : RepS S w g cs) (hl : cs.length = 8) : RowS S w cs [g] := by
  refine ⟨by simpa using hl, fun i g' hg => ?_⟩
  cases i with
  | zero => simp at hg; subst hg; rw [Nat.zero_mul, List.drop_zero, List.take_of_length_le (by omega)]; exact h
  | succ i => simp at hg
/-- a field without a default other than null -/
def NullF (g : GS) : Prop := match g with | .fld _ _ ds => (ds[0]?).elim Tree.null plainT = .null | _ => True
theorem RepS.formF {S : Nat → Prop} {w : World} {g : GS} {cs : List Value} (h : RepS S w g cs) (ht : g.tag = 5) : ∃ v p q r s t x, cs = [.string v, .pointer p, .pointer q, .pointer r, .pointer s, .pointer t, .bool false, x] ∧ (NullF g → x = .nilIface) ∧ (¬ NullF g → ∃ ty y, x = .iface ty y) := by
  cases h with
  | @fld _ _ ds _ _ _ _ _ _ x h1 ht' he hd =>
    obtain ⟨_, _, _, _, _, e⟩ := he.formR ht'
    simp only [List.cons.injEq, and_true] at e
    obtain ⟨rfl, rfl, rfl, rfl, rfl, rfl⟩ := e
    refine ⟨_, _, _, _, _, _, _, rfl, fun hn => ?_, fun hn => ?_⟩
    · have e : (ds[0]?).elim Tree.null plainT = .null := hn
      rw [e] at hd
      cases hd; rfl
    · have e : ¬ (ds[0]?).elim Tree.null plainT = .null := hn
      generalize (ds[0]?).elim Tree.null plainT = t at *
      cases hd <;> first | exact absurd rfl e | exact ⟨_, _, rfl⟩
  | _ => cases ht
/-- a row of fields, of the call's own, read as a list of fields -/
theorem flds_of_row {S : Nat → Prop} {w : World} {base n c : Nat} {a : Option Addr} {xs : List Value} {gs : List GS} {e : TypeId} (hown : w.ownsRow base e 8 (.slice a n c) n xs) (hrow : RowS S w xs gs) (hS : ∀ b, base ≤ b → S b) :
    n = gs.length ∧ ∃ fb, SlAt S w 8 a fb 0 gs.length c ∧ ∀ (i : Nat) (g : GS) (cs : List Value), gs[i]? = some g → cs.length = 8 → cellsAt w fb (0 + i * 8) cs → RepS S w g cs := by
  have hn : n = gs.length := by have := hown.1; have := hrow.1; omega
  refine ⟨hn, ?_⟩
  subst hn
  rcases hown.2 with ⟨h, h0⟩ | ⟨g, cap, cur, h, hb, hg, hle, _⟩
  · simp only [Value.slice.injEq] at h
    obtain ⟨rfl, h1, rfl⟩ := h
    exact ⟨0, ⟨by omega, fun h => absurd h (by omega), fun i hi => absurd hi (by omega)⟩, fun i g cs hg => by have := (List.getElem?_eq_some_iff.1 hg).1; omega⟩
  · cases h
    have hc := hown.cells (g := g) rfl
    have hat : ∀ i, i < gs.length → cellsAt w g (0 + i * 8) ((xs.drop (i * 8)).take 8) := by
      intro i hi j v hv
      rw [List.getElem?_take] at hv
      split at hv
      · rw [List.getElem?_drop] at hv
        have := hc _ v hv
        rw [addr_add rfl] at this
        rwa [← Nat.add_assoc] at this
      · cases hv
    have hlen : ∀ i, i < gs.length → ((xs.drop (i * 8)).take 8).length = 8 := by
      intro i hi
      rw [List.length_take, List.length_drop, hrow.1]; omega
    refine ⟨g, ⟨hle, fun _ => ⟨rfl, hS g hb⟩, fun i hi => ⟨_, hlen i hi, hat i hi⟩⟩, fun i g' cs hg' hcs hca => ?_⟩
    have hi := (List.getElem?_eq_some_iff.1 hg').1
    obtain rfl := cellsAt_unique hca (hat i hi) (hcs.trans (hlen i hi).symm)
    exact hrow.2 i g' hg'

theorem own_ge8 {w : World} {base : Nat} {e : TypeId} {size : Nat} {v : Value} {n : Nat} {xs : List Value} (h : w.ownsRow base e size v n xs) : ∀ g, v.ownBlock = some g → base ≤ g := by
  intro g hg
  rcases h.2 with ⟨rfl, _⟩ | ⟨g', cap, cur, rfl, hb, _⟩
  · cases hg
  · simp [Value.ownBlock] at hg; subst hg; exact hb
theorem own_lt8 {w : World} {base : Nat} {e : TypeId} {size : Nat} {v : Value} {n : Nat} {xs : List Value} (h : w.ownsRow base e size v n xs) : ∀ g, v.ownBlock = some g → g < w.heap.size := by
  intro g hg
  rcases h.2 with ⟨rfl, _⟩ | ⟨g', cap, cur, rfl, hb, hh, _⟩
  · cases hg
  · simp [Value.ownBlock] at hg; subst hg; exact (Array.getElem?_eq_some_iff.1 hh).1
theorem own_form8 {w : World} {base : Nat} {e : TypeId} {size : Nat} {v : Value} {n : Nat} {xs : List Value} (h : w.ownsRow base e size v n xs) : ∃ a c, v = .slice a n c := by
  rcases h.2 with ⟨rfl, rfl⟩ | ⟨g', cap, cur, rfl, _⟩ <;> exact ⟨_, _, rfl⟩

/-- the map type under way: its fields are a row of the call's own -/
structure MSt (w0 Wb W : World) (O B3 : Nat) (bx : Obj) (z us : List Value) (T e : TypeId) (lv : Value) (n : Nat) (xs : List Value) (gs : List GS) : Prop where
  st : BSt w0 W O bx z T (lv :: us)
  own : W.ownsRow B3 e 8 lv n xs
  row : RowS (fun b => B3 ≤ b ∧ some b ≠ lv.ownBlock) W xs gs
  hOB : O < B3
  hB : B3 ≤ W.heap.size
  h0 : n = 0 → lv = .slice none 0 0
  keep : Same (fun b => b < B3 ∧ b ≠ O) Wb W
section
variable {w0 Wb W w2 w3 : World} {O B3 n c' : Nat} {bx : Obj} {z us xs cs : List Value} {T e : TypeId} {lv : Value} {gs : List GS} {g : GS} {a' : Option Addr}
theorem MSt.later (h : MSt w0 Wb W O B3 bx z us T e lv n xs gs) (E : Ext W w2) : MSt w0 Wb w2 O B3 bx z us T e lv n xs gs :=
  ⟨h.st.later E, ownsRow_ext h.own E, h.row.mono (E.same _) (fun b hb _ => hb), h.hOB, Nat.le_trans h.hB E.size, h.h0, h.keep.trans (E.same _)⟩
theorem MSt.out3 (h : MSt w0 Wb w2 O B3 bx z us T e lv n xs gs) {o : Obj} (hg3 : (w2.alloc o).grownBy w3 lv.ownBlock) : w3.heap[O]? = some (.cells (lv :: us).toArray T) := by
  have hlt := h.st.lt
  have hOB := h.hOB
  rw [hg3.block O (by simp; omega) (fun e => by have := own_ge8 h.own O e.symm; omega)]
  exact ((Ext.refl w2).alloc _).block h.st.out
theorem MSt.step (h : MSt w0 Wb w2 O B3 bx z us T e lv n xs gs) (hT : RepS (fun b => B3 ≤ b ∧ some b ≠ lv.ownBlock) w2 g cs) (hl8 : cs.length = 8)
    (hown3 : w3.ownsRow B3 e 8 (.slice a' (n + 1) c') (n + 1) (xs ++ cs)) (hg3 : (w2.alloc (.cells cs.toArray e)).grownBy w3 lv.ownBlock)
    (hat : a' = lv.ownBlock.map (fun g => ⟨g, 0, none⟩) ∨ a' = some ⟨w2.heap.size + 1, 0, none⟩) :
    MSt w0 Wb (w3.setCell ⟨O, 0, none⟩ (.slice a' (n + 1) c')) O B3 bx z us T e (.slice a' (n + 1) c') (n + 1) (xs ++ cs) (gs ++ [g]) := by
  have hge := own_ge8 h.own
  have hlt := own_lt8 h.own
  have hs3 := hg3.size
  have hOB := h.hOB
  have hB := h.hB
  have hO := h.st.hO
  have hOl := h.st.lt
  have hs0 := h.st.ext.size
  have hnb : ∀ b, b < B3 → some b ≠ lv.ownBlock := fun b hb e => by have := hge b e.symm; omega
  have hset : ∀ b, b ≠ O → (w3.setCell ⟨O, 0, none⟩ (.slice a' (n + 1) c')).heap[b]? = w3.heap[b]? := fun b hb => Below.heap_setCell _ _ _ _ hb
  have hkeep : ∀ b o, b < B3 → b ≠ O → w2.heap[b]? = some o → (w3.setCell ⟨O, 0, none⟩ (.slice a' (n + 1) c')).heap[b]? = some o := by
    intro b o hb hne hob
    have hbl := (Array.getElem?_eq_some_iff.1 hob).1
    rw [hset b hne, hg3.block b (by simp; omega) (hnb b hb)]
    exact ((Ext.refl w2).alloc _).block hob
  have hsame : ∀ b o, B3 ≤ b → some b ≠ lv.ownBlock → w2.heap[b]? = some o → (w3.setCell ⟨O, 0, none⟩ (.slice a' (n + 1) c')).heap[b]? = some o := by
    intro b o hb hne hob
    have hbl := (Array.getElem?_eq_some_iff.1 hob).1
    rw [hset b (by omega), hg3.block b (by simp; omega) hne]
    exact ((Ext.refl w2).alloc _).block hob
  have hnew : ∀ b, b < w2.heap.size → some b ≠ lv.ownBlock → some b ≠ (Value.slice a' (n + 1) c').ownBlock := by
    intro b hb hne
    rcases hat with rfl | rfl
    · intro e
      apply hne
      cases hlv : lv.ownBlock with
      | none => rw [hlv] at e; simp [Value.ownBlock] at e
      | some q => rw [hlv] at e; simpa [Value.ownBlock] using e
    · simp [Value.ownBlock]; omega
  refine ⟨⟨hkeep _ _ (by omega) (by omega) h.st.box, hkeep _ _ (by omega) (by omega) h.st.res, ?_, hO, ?_⟩, ownsRow_setCell_below hown3 hOB _, ?_, hOB, by simp at hs3 ⊢; omega, fun h => by omega, h.keep.trans (fun b o hb hob => hkeep b o hb.1 hb.2 hob)⟩
  · have := setCell_heap (h.out3 hg3) 0 (.slice a' (n + 1) c')
    rw [this]; simp
  · refine Below.setCell (Below.trans h.st.ext ?_) (show w0.heap.size ≤ O by omega) _
    exact ⟨hg3.os.trans ((Ext.refl w2).alloc _).os, hg3.tape.trans ((Ext.refl w2).alloc _).tape, hg3.output.trans ((Ext.refl w2).alloc _).output, by simp at hs3; omega, fun i hi => (hg3.block i (by simp; omega) (hnb i (by omega))).trans (Below.block ((Ext.refl w2).alloc _) i (by omega))⟩
  · refine (h.row.mono (fun b o hb hob => hsame b o hb.1 hb.2 hob) (fun b hb hbl => ⟨hb.1, hnew b hbl hb.2⟩)).append (RowS.one (hT.mono (fun b o hb hob => hsame b o hb.1 hb.2 hob) (fun b hb hbl => ⟨hb.1, hnew b hbl hb.2⟩)) hl8)
end

theorem infoFld : (Try.prog.info? 212).map (fun i => (i.zero, i.size, i.bytes)) = some (some (.agg #[.string ByteArray.empty, .pointer none, .pointer none, .pointer none, .pointer none, .pointer none, .bool false, .nilIface]), 8, 80) := by kernel_rfl
theorem slot9o {W : World} {b : Nat} {t : TypeId} {c : Value} {us : List Value} (h : W.heap[b]? = some (.cells (c :: us).toArray t)) : W.cell? ⟨b, 0, none⟩ = some c ∧ W.frozen? ⟨b, 0, none⟩ = false := ⟨(cell_of_heap h 0).trans (by simp), free_of_heap h 0⟩
set_option maxRecDepth 100000 in
set_option maxHeartbeats 4000000 in
theorem toMap_of (fs : List GS) (el : GS) (rel : ByteArray) (ihe : ToOK 82 1 el) (ihf : ∀ (i : Nat) (g : GS), fs[i]? = some g → ToOK 135 5 g) : ToOK 126 4 (.mp fs el rel) := by
  intro _ w cs hR
  cases hR with
  | @mp _ _ _ fa fb fo fc c0 c1 c2 c3 c4 c5 h1 ht he hb hF hft hf =>
  obtain ⟨b, n, s, p0, p1, p2, q0, q1, q2, r, e'⟩ := he.formR ht
  simp only [List.cons.injEq, and_true] at e'
  obtain ⟨rfl, rfl, rfl, rfl, rfl, rfl⟩ := e'
  obtain ⟨i0, hi, hz0, hz1, hz2⟩ := info_parts infoFld
  have HA := hid he
  have HI := hid ihe
  have HIF := hid ihf
  have HT := hid ht
  have HF := hid hF
  have HFt := hid hft
  have HFF := hid hf
  have hfb : fs.length ≤ 140737488351232 := by omega
  clear he ihe ihf ht hF hft hf
  go_enter Try.func126, Try.ntmps126
  go_upto_region 1 with fail
  obtain ⟨x1, x2, hEE⟩ := boxes2 w (.cells #[.slice fa fs.length fc, .bool b, .string n, .string s, .slice p0 p1 p2, .slice q0 q1 q2, .string r, .string rel] 153) (.cells #[.slice none 0 0, .slice none 0 0, .pointer none, .pointer none, .pointer none, .pointer none, .pointer none, .bool false, .string ⟨#[]⟩] 195) _ (Below.refl _ _)
  generalize (w.alloc (.cells #[.slice fa fs.length fc, .bool b, .string n, .string s, .slice p0 p1 p2, .slice q0 q1 q2, .string r, .string rel] 153)).alloc (.cells #[.slice none 0 0, .slice none 0 0, .pointer none, .pointer none, .pointer none, .pointer none, .pointer none, .bool false, .string ⟨#[]⟩] 195) = w1 at *
  have X1 := hid x1
  have X2 := hid x2
  have HE1 := hid hEE
  have hsz1 : w.heap.size + 1 < w1.heap.size := (Array.getElem?_eq_some_iff.1 x2).1
  clear x1 x2 hEE
  have K := hid (show ∀ w' : World, Ext w1 w' → (fun w' : World => w'.cell? ⟨w.heap.size, 0, none⟩ = some (.slice fa fs.length fc) ∧ w'.cell? ⟨w.heap.size, 1, none⟩ = some (.bool b) ∧ w'.cell? ⟨w.heap.size, 2, none⟩ = some (.string n) ∧ w'.cell? ⟨w.heap.size, 3, none⟩ = some (.string s) ∧ w'.cell? ⟨w.heap.size, 4, none⟩ = some (.slice p0 p1 p2) ∧ w'.cell? ⟨w.heap.size, 5, none⟩ = some (.slice q0 q1 q2) ∧ w'.cell? ⟨w.heap.size, 6, none⟩ = some (.string r) ∧ w'.cell? ⟨w.heap.size, 7, none⟩ = some (.string rel)) w' from fun w' h => by
    obtain ⟨⟨z0, z1, z2, z3, z4, z5, z6, z7⟩, -⟩ := slot8 (h.block X1.out)
    exact ⟨z0, z1, z2, z3, z4, z5, z6, z7⟩)
  go_cut [3] from 4 (fun p wx => ∃ O u0 u1 u2 u3 u4, p = .pointer (some ⟨O, 0, none⟩) ∧ Hid (BSt w wx O (.cells #[.slice fa fs.length fc, .bool b, .string n, .string s, .slice p0 p1 p2, .slice q0 q1 q2, .string r, .string rel] 153) [.slice none 0 0, .slice none 0 0, .pointer none, .pointer none, .pointer none, .pointer none, .pointer none, .bool false, .string ⟨#[]⟩] 195 [.slice none 0 0, .slice none 0 0, .pointer u0, .pointer u1, .pointer u2, .pointer u3, .pointer u4, .bool false, .string rel]) ∧ Hid (RepS (Keep w O) wx el [.pointer u0, .pointer u1, .pointer u2, .pointer u3, .pointer u4, .bool false]))
  case first =>
    go_region_held3 (fun w' : World => w'.cell? ⟨w.heap.size, 0, none⟩ = some (.slice fa fs.length fc) ∧ w'.cell? ⟨w.heap.size, 1, none⟩ = some (.bool b) ∧ w'.cell? ⟨w.heap.size, 2, none⟩ = some (.string n) ∧ w'.cell? ⟨w.heap.size, 3, none⟩ = some (.string s) ∧ w'.cell? ⟨w.heap.size, 4, none⟩ = some (.slice p0 p1 p2) ∧ w'.cell? ⟨w.heap.size, 5, none⟩ = some (.slice q0 q1 q2) ∧ w'.cell? ⟨w.heap.size, 6, none⟩ = some (.string r) ∧ w'.cell? ⟨w.heap.size, 7, none⟩ = some (.string rel))
      (first | with_reducible exact K.out _ HE5.out | with_reducible exact K.out _ (HE5.out.alloc _) | with_reducible exact K.out _ ((Ext.refl w1).alloc _).drew | with_reducible exact K.out _ ((Ext.refl w1).drew.alloc _) | with_reducible exact K.out _ (Ext.refl w1).drew | with_reducible exact K.out _ (set9_raw HE5.out (Nat.le_refl _) _ _ _ _ _ _ _ _ _))
      (first
        | (go_at_call 82; refine (HI.out HT.out _ _ (HA.out.ext HE1.out.drew)).mono ?_; rintro e5 w5 ⟨cs5, rfl, hT, hE⟩; have HE5 := hid ((Ext.refl w1).drew.trans hE); obtain ⟨u0, u1, u2, u3, u4, rfl⟩ := hT.formR HT.out; have HT5 := hid hT; clear hT hE)
        | (go_at_call 82; refine (HI.out HT.out _ _ (HA.out.ext (HE1.out.alloc _).drew)).mono ?_; rintro e5 w5 ⟨cs5, rfl, hT, hE⟩; have HE5 := hid (((Ext.refl w1).alloc _).drew.trans hE); have X5 := hid (hE.block (show ((w1.alloc (.cells #[.slice none 0 0, .slice none 0 0, .pointer none, .pointer none, .pointer none, .pointer none, .pointer none, .bool false, .string ⟨#[]⟩] 195)).drew).heap[w1.heap.size]? = _ from heap_alloc_new w1 _)); obtain ⟨⟨z0, z1, z2, z3, z4, z5, z6, z7, z8⟩, y0, y1, y2, y3, y4, y5, y6, y7, y8⟩ := slot9 X5.out; obtain ⟨u0, u1, u2, u3, u4, rfl⟩ := hT.formR HT.out; have HT5 := hid hT; clear hT hE))
    all_goals (go_wp2_with fail; go_meet)
    case rel =>
      have hs5 := HE5.out.size
      refine ⟨w5.heap.size, u0, u1, u2, u3, u4, rfl, hid ⟨(HE5.out.alloc _).block X1.out, (HE5.out.alloc _).block X2.out, heap_alloc_new w5 _, by omega, HE1.out.trans (HE5.out.alloc _)⟩, hid (HT5.out.mono ((Ext.refl w5).alloc _ |>.same _) (fun b hb hlt => ?_))⟩
      have hb2 : w1.heap.size ≤ b := hb
      exact ⟨by omega, by omega⟩
    case rel =>
      have hs5 := HE5.out.size
      have hO : w1.heap.size < w5.heap.size := (Array.getElem?_eq_some_iff.1 X5.out).1
      change ∃ O u0 u1 u2 u3 u4, _ ∧ Hid (BSt w (setL w5 w1.heap.size 0 [_, _, _, _, _, _, _, _, _]) _ _ _ _ _) ∧ Hid (RepS _ (setL w5 w1.heap.size 0 [_, _, _, _, _, _, _, _, _]) _ _)
      refine ⟨w1.heap.size, u0, u1, u2, u3, u4, rfl, hid ?_, hid (HT5.out.mono (fun b o hb ho => (setL_other (by have hb2 : (w1.alloc _).heap.size ≤ b := hb; simp at hb2; omega) _).trans ho) (fun b hb hlt => ?_))⟩
      · exact ⟨(setL_other (by omega) _).trans (HE5.out.block X1.out), (setL_other (by omega) _).trans (HE5.out.block X2.out), setL_all X5.out [.slice none 0 0, .slice none 0 0, .pointer u0, .pointer u1, .pointer u2, .pointer u3, .pointer u4, .bool false, .string rel] rfl, by omega, setL_below (HE1.out.trans HE5.out) (by omega) _ _⟩
      · have hb2 : (w1.alloc _).heap.size ≤ b := hb
        simp at hb2
        exact ⟨by omega, by omega⟩
  case rest =>
    rename World => w2
    obtain ⟨O, u0, u1, u2, u3, u4, rfl, HB, HR⟩ := hcut
    clear K X1 X2 HE1 hsz1
    have hO := HB.out.hO
    obtain ⟨⟨z0, z1, z2, z3, z4, z5, z6, z7⟩, -⟩ := slot8 HB.out.box
    go_upto_region 3 with fail
    clear z0 z1 z2 z3 z4 z5 z6 z7
    go_loopg [15] fs.length (fun gk i wr => ∃ (k : Nat) (lv : Value) (xs : List Value), i = .int .i64 k ∧ k ≤ fs.length ∧ gk + k = fs.length ∧ MSt w w2 wr O w2.heap.size (.cells #[.slice fa fs.length fc, .bool b, .string n, .string s, .slice p0 p1 p2, .slice q0 q1 q2, .string r, .string rel] 153) [.slice none 0 0, .slice none 0 0, .pointer none, .pointer none, .pointer none, .pointer none, .pointer none, .bool false, .string ⟨#[]⟩] [.slice none 0 0, .pointer u0, .pointer u1, .pointer u2, .pointer u3, .pointer u4, .bool false, .string rel] 195 212 lv k xs (fs.take k))
    case atStart =>
      exact ⟨0, .slice none 0 0, [], rfl, Nat.zero_le _, by omega, ⟨HB.out, World.ownsRow_nil _ _ _ _, by simpa using RowS.nil _ _, HB.out.lt, Nat.le_refl _, fun _ => rfl, Same.refl _ _⟩⟩
    case round =>
      obtain ⟨k, lv, xs, rfl, hk, hgk, hM⟩ := hrel
      by_cases hlt : k < fs.length
      · obtain ⟨hfa, -⟩ := HF.out.2.1 (by omega)
        subst hfa
        obtain ⟨cs, hc1, hc2⟩ := HF.out.2.2 k hlt
        obtain ⟨g, hg⟩ : ∃ g, fs[k]? = some g := ⟨_, List.getElem?_eq_getElem hlt⟩
        have hgr := HFF.out k g cs hg hc1 hc2
        have Hg := hid (HFt.out g (List.mem_of_getElem? hg))
        obtain ⟨d0, d1, d2, d3, d4, d5, d6, d7, d8, d9, d10, d11, d12, d13, rfl⟩ := hgr.formF Hg.out
        obtain ⟨e0, e1, e2, e3, e4, e5, e6, e7⟩ := cells8 (cellsAt_ext hM.st.ext hc2)
        have HGr5 := hid ((hgr.ext hM.st.ext).ext ((Ext.refl wr).alloc (.cells #[.string d0, .bool d1, .string d2, .string d3, .slice d4 d5 d6, .slice d7 d8 d9, .string d10, .slice d11 d12 d13] 156)))
        have HP := hid (HIF.out k g hg)
        have HG := hid hg
        have HGK := hid hgk
        obtain ⟨va, vc, rfl⟩ := own_form8 hM.own
        have HM5 := hid (hM.later ((Ext.refl wr).alloc (.cells #[.string d0, .bool d1, .string d2, .string d3, .slice d4 d5 d6, .slice d7 d8 d9, .string d10, .slice d11 d12 d13] 156)))
        clear hM hg hgk hgr hc1 hc2
        go_upto_region 5 with fail
        have x5 := heap_alloc_new wr (.cells #[.string d0, .bool d1, .string d2, .string d3, .slice d4 d5 d6, .slice d7 d8 d9, .string d10, .slice d11 d12 d13] 156)
        generalize wr.alloc (.cells #[.string d0, .bool d1, .string d2, .string d3, .slice d4 d5 d6, .slice d7 d8 d9, .string d10, .slice d11 d12 d13] 156) = w5 at *
        obtain ⟨⟨z0, z1, z2, z3, z4, z5, z6, z7⟩, -⟩ := slot8 x5
        obtain ⟨o0, o1⟩ := slot9o HM5.out.st.out
        clear x5 e0 e1 e2 e3 e4 e5 e6 e7
        by_cases hnf : NullF g
        all_goals (have Hnf := hid hnf; clear hnf)
        · go_region_law (first
            | (refine step_call _ rfl 135 [.tmp 21] #[156] rfl (by kernel_rfl) [_] rfl (HP.out Hg.out _ _ (HGr5.out.ext (Ext.refl _).drew)) ?_; rintro e w6 ⟨cs6, rfl, hT, hE⟩; obtain ⟨r0, r1, r2, r3, r4, r5, x, rfl, hx1, hx2⟩ := hT.formF Hg.out; obtain rfl := hx1 Hnf.out; refine ⟨_, rfl, ?_⟩; have HT6 := hid hT; have HS6 := hid hE.size; have HM6 := hid (HM5.out.later ((Ext.refl w5).drew.trans hE)); obtain ⟨y0, y1⟩ := slot9o HM6.out.st.out; have A0 := fun o => slot9o (HM6.out.later ((Ext.refl w6).alloc o)).st.out; clear hT hE hx1 hx2)
            | (refine step_append_src _ rfl (.tmp 20) (.tmp 23) 192 rfl w2.heap.size 212 i0 _ 8 80 Try.underlying192 hi hz0 hz1 hz2 rfl (by decide) (.slice va k vc) k xs rfl (ownsRow_ext HM6.out.own ((Ext.refl w6).alloc _)) _ 1 1 [.string r0, .pointer r1, .pointer r2, .pointer r3, .pointer r4, .pointer r5, .bool false, .nilIface] rfl rfl (src_block _ _ _ _) (by simp [Value.oneCell']) (by unfold maxLen; omega) (by omega) (HM6.out.later ((Ext.refl w6).alloc _)).hB ?_; intro a5 c5 w3 hown3 hg3 hat; have hout3 := HM6.out.out3 hg3; obtain ⟨v0, v1⟩ := slot9o hout3; have HOWN3 := hid hown3; have HG3 := hid hg3; have HAT := hid hat; clear hown3 hg3 hat hout3))
          all_goals
            go_wp2_with fail
            go_roundg (gk - 1)
            case measure => have := HGK.out; omega
            case rel =>
              refine ⟨k + 1, .slice a5 (k + 1) c5, xs ++ [.string r0, .pointer r1, .pointer r2, .pointer r3, .pointer r4, .pointer r5, .bool false, .nilIface], by go_num, by omega, by have := HGK.out; omega, ?_⟩
              have e : fs.take (k + 1) = fs.take k ++ [g] := by rw [List.take_add_one, HG.out]; rfl
              rw [e]
              exact MSt.step HM6.out (HT6.out.weak (fun b hb _ => ⟨by have := HM5.out.hB; have hb2 : w5.heap.size ≤ b := hb; omega, fun e => by have := own_lt8 HM5.out.own b e.symm; have hb2 : w5.heap.size ≤ b := hb; omega⟩)) rfl HOWN3.out HG3.out (by simpa using HAT.out)
        · go_region_law (first
            | (refine step_call _ rfl 135 [.tmp 21] #[156] rfl (by kernel_rfl) [_] rfl (HP.out Hg.out _ _ (HGr5.out.ext (Ext.refl _).drew)) ?_; rintro e w6 ⟨cs6, rfl, hT, hE⟩; obtain ⟨r0, r1, r2, r3, r4, r5, x, rfl, hx1, hx2⟩ := hT.formF Hg.out; obtain ⟨ty, y, rfl⟩ := hx2 Hnf.out; refine ⟨_, rfl, ?_⟩; have HT6 := hid hT; have HS6 := hid hE.size; have HM6 := hid (HM5.out.later ((Ext.refl w5).drew.trans hE)); obtain ⟨y0, y1⟩ := slot9o HM6.out.st.out; have A0 := fun o => slot9o (HM6.out.later ((Ext.refl w6).alloc o)).st.out; clear hT hE hx1 hx2)
            | (refine step_append_src _ rfl (.tmp 20) (.tmp 23) 192 rfl w2.heap.size 212 i0 _ 8 80 Try.underlying192 hi hz0 hz1 hz2 rfl (by decide) (.slice va k vc) k xs rfl (ownsRow_ext HM6.out.own ((Ext.refl w6).alloc _)) _ 1 1 [.string r0, .pointer r1, .pointer r2, .pointer r3, .pointer r4, .pointer r5, .bool false, .iface ty y] rfl rfl (src_block _ _ _ _) (by simp [Value.oneCell']) (by unfold maxLen; omega) (by omega) (HM6.out.later ((Ext.refl w6).alloc _)).hB ?_; intro a5 c5 w3 hown3 hg3 hat; have hout3 := HM6.out.out3 hg3; obtain ⟨v0, v1⟩ := slot9o hout3; have HOWN3 := hid hown3; have HG3 := hid hg3; have HAT := hid hat; clear hown3 hg3 hat hout3))
          all_goals
            go_wp2_with fail
            go_roundg (gk - 1)
            case measure => have := HGK.out; omega
            case rel =>
              refine ⟨k + 1, .slice a5 (k + 1) c5, xs ++ [.string r0, .pointer r1, .pointer r2, .pointer r3, .pointer r4, .pointer r5, .bool false, .iface ty y], by go_num, by omega, by have := HGK.out; omega, ?_⟩
              have e : fs.take (k + 1) = fs.take k ++ [g] := by rw [List.take_add_one, HG.out]; rfl
              rw [e]
              exact MSt.step HM6.out (HT6.out.weak (fun b hb _ => ⟨by have := HM5.out.hB; have hb2 : w5.heap.size ≤ b := hb; omega, fun e => by have := own_lt8 HM5.out.own b e.symm; have hb2 : w5.heap.size ≤ b := hb; omega⟩)) rfl HOWN3.out HG3.out (by simpa using HAT.out)
      · obtain rfl : k = fs.length := by omega
        obtain ⟨va, vc, rfl⟩ := own_form8 hM.own
        have HM := hid hM
        obtain ⟨⟨y0, y1, y2, y3, y4, y5, y6, y7, y8⟩, -⟩ := slot9 hM.st.out
        obtain ⟨⟨v0, v1, v2, v3, v4, v5, v6, v7, v8⟩, z0, z1, z2, z3, z4, z5, z6, z7, z8⟩ := slot9 hM.st.res
        clear hM
        go_wp2_with fail
        obtain ⟨q2, qE⟩ := HM.out.st.fin rfl
        have QE := hid qE
        have hrow := HM.out.row
        rw [List.take_of_length_le (Nat.le_refl _)] at hrow
        obtain ⟨-, fb', hSl, hfl⟩ := flds_of_row (S := fun b => w2.heap.size ≤ b) HM.out.own (hrow.mono (Same.refl _ _) (fun b hb _ => hb.1)) (fun b hb => hb)
        have hlt2 := HB.out.lt
        have hsame : Same (fun b => w2.heap.size ≤ b) wr (setL wr (w.heap.size + 1) 0 [.slice va fs.length vc, .slice none 0 0, .pointer u0, .pointer u1, .pointer u2, .pointer u3, .pointer u4, .bool false, .string rel]) := fun b o hb ho => (setL_other (by omega) _).trans ho
        have hSl2 := hid (hSl.mono (S' := fun b => w.heap.size ≤ b) hsame (fun b hb _ => by omega) (by omega))
        have hfl2 := hid (show ∀ (i : Nat) (g : GS) (cs : List Value), fs[i]? = some g → cs.length = 8 → cellsAt (setL wr (w.heap.size + 1) 0 [.slice va fs.length vc, .slice none 0 0, .pointer u0, .pointer u1, .pointer u2, .pointer u3, .pointer u4, .bool false, .string rel]) fb' (0 + i * 8) cs → RepS (fun b => w.heap.size ≤ b) (setL wr (w.heap.size + 1) 0 [.slice va fs.length vc, .slice none 0 0, .pointer u0, .pointer u1, .pointer u2, .pointer u3, .pointer u4, .bool false, .string rel]) g cs from
          fun i g cs hg hlen hc => (hfl i g cs hg hlen (hSl.back hsame (List.getElem?_eq_some_iff.1 hg).1 hlen hc)).mono hsame (fun b hb _ => by omega))
        have hel := hid (((HR.out.weak (S' := fun b => Keep w O b ∧ b < w2.heap.size) (fun b hb hl => ⟨hb, hl⟩)).mono (S' := fun b => Keep w O b ∧ b < w2.heap.size) (HM.out.keep.weak (fun b hb => ⟨hb.2, hb.1.2⟩)) (fun b hb _ => hb)).mono (S' := fun b => w.heap.size ≤ b) (w' := setL wr (w.heap.size + 1) 0 [.slice va fs.length vc, .slice none 0 0, .pointer u0, .pointer u1, .pointer u2, .pointer u3, .pointer u4, .bool false, .string rel]) (fun b o hb ho => (setL_other (by have := hb.1.1; omega) _).trans ho) (fun b hb _ => by have := hb.1.1; omega))
        have hn := hid (show fs.length = 0 → va = none from fun h => by have := HM.out.h0 h; simp only [Value.slice.injEq] at this; exact this.1)
        clear hSl hfl hsame hrow qE
        change bodyPost _ _ _ _ _ (setL wr (w.heap.size + 1) 0 [.slice va fs.length vc, .slice none 0 0, .pointer u0, .pointer u1, .pointer u2, .pointer u3, .pointer u4, .bool false, .string rel])
        generalize setL wr (w.heap.size + 1) 0 [.slice va fs.length vc, .slice none 0 0, .pointer u0, .pointer u1, .pointer u2, .pointer u3, .pointer u4, .bool false, .string rel] = WF at *
        obtain ⟨⟨o0, o1, o2, o3, o4, o5, o6, o7, o8⟩, -⟩ := slot9 q2
        refine bodyPost_ret (v := .agg #[.slice va fs.length vc, .slice none 0 0, .pointer u0, .pointer u1, .pointer u2, .pointer u3, .pointer u4, .bool false, .string rel]) (by simp [results, Try.results126, go_sem, o0, o1, o2, o3, o4, o5, o6, o7, o8]) rfl ?_
        exact ⟨[_, _, _, _, _, _, _, _, _], rfl, .mp h1 HT.out hel.out ⟨hn.out, hb⟩ hSl2.out HFt.out hfl2.out, QE.out⟩
end Go.Proofs.Ytempfaefopfobaa
