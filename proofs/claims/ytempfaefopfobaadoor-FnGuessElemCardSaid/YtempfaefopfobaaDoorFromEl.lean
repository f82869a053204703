/- FromEl: impl.fromElem: the package's path elements as they are handed out. -/
import Derived.Test.YtempfaefopfobaaDoorCleanElem

set_option maxRecDepth 100000
namespace Go.Proofs.YtempfaefopfobaaDoor
open Go.ChangeShapes Go.WideShapes Go.ChangeAt Go.RowKit
set_option linter.unusedVariables false
set_option linter.unusedSimpArgs false

/-- what is handed out of a path element -/
def fromEl : El → GE
  | .fld s => ⟨0, s, [], [], zeroG, 0⟩
  | .key fs => ⟨1, ByteArray.empty, fs.map (·.1), fs.map (fun p => fromT p.2), zeroG, 0⟩
  | .val t => ⟨2, ByteArray.empty, [], [], fromT t, 0⟩
  | .idx n => ⟨3, ByteArray.empty, [], [], zeroG, n⟩

/-- the box of the element to be, its row of names, its row of values, while the fields are laid in -/
structure EOSt (w0 W : World) (O B3 : Nat) (kv lv : Value) (n m : Nat) (ks : List ByteArray) (xs : List Value) (gs : List GV) : Prop where
  below : Below O w0 W
  out : W.heap[O]? = some (.cells #[.int .i64 1, .string ⟨#[]⟩, kv, lv, .int .i64 0, .int .i64 0, .float .f64 0, .string ⟨#[]⟩, .slice none 0 0, .slice none 0 0, .int .i64 0] 29)
  hOB : O < B3
  hB : B3 ≤ W.heap.size
  krow : W.ownsRow B3 9 1 kv n (ks.map Value.string)
  lrow : W.ownsRow B3 26 6 lv m xs
  row : RowGV (fun b => B3 ≤ b ∧ some b ≠ lv.ownBlock ∧ some b ≠ kv.ownBlock) W xs gs
theorem own_cells {w : World} {base : Nat} {e : TypeId} {size : Nat} {v : Value} {n : Nat} {xs : List Value} (h : w.ownsRow base e size v n xs) : ∀ g, v.ownBlock = some g → ∃ cur, w.heap[g]? = some (.cells cur e) := by
  intro g hg
  rcases h.2 with ⟨rfl, _⟩ | ⟨g', cap, cur, rfl, hb, hh, _⟩
  · cases hg
  · simp [Value.ownBlock] at hg; subst hg; exact ⟨_, hh⟩
theorem own_apart {w : World} {base base' : Nat} {e e' : TypeId} {size size' : Nat} {v v' : Value} {n n' : Nat} {xs xs' : List Value} (h : w.ownsRow base e size v n xs) (h' : w.ownsRow base' e' size' v' n' xs') (he : e ≠ e') : v.ownBlock = none ∨ v.ownBlock ≠ v'.ownBlock := by
  cases hg : v.ownBlock with
  | none => exact .inl rfl
  | some g =>
    right
    intro e1
    obtain ⟨c1, h1⟩ := own_cells h g hg
    obtain ⟨c2, h2⟩ := own_cells h' g e1.symm
    rw [h1] at h2
    simp at h2
    exact he h2.2
section
variable {w0 W w3 : World} {O B3 n m c : Nat} {kv lv : Value} {ks : List ByteArray} {xs cs : List Value} {gs : List GV}
theorem EOSt.ext' (h : EOSt w0 W O B3 kv lv n m ks xs gs) (E : Ext W w3) : EOSt w0 w3 O B3 kv lv n m ks xs gs :=
  ⟨below_ext h.below E (by have := h.hOB; have := h.hB; omega), E.block h.out, h.hOB, Nat.le_trans h.hB E.size, ownsRow_ext h.krow E, ownsRow_ext h.lrow E, h.row.mono (E.same _) (fun _ h _ => h)⟩
theorem EOSt.out_kept (h : EOSt w0 W O B3 kv lv n m ks xs gs) {row : Option Nat} (hg : W.grownBy w3 row) (hr : ∀ b, row = some b → B3 ≤ b) : w3.heap[O]? = some (.cells #[.int .i64 1, .string ⟨#[]⟩, kv, lv, .int .i64 0, .int .i64 0, .float .f64 0, .string ⟨#[]⟩, .slice none 0 0, .slice none 0 0, .int .i64 0] 29) :=
  (hg.block O (by have := h.hOB; have := h.hB; omega) (fun e => by have := hr O e.symm; have := h.hOB; omega)).trans h.out
theorem EOSt.below_kept (h : EOSt w0 W O B3 kv lv n m ks xs gs) {row : Option Nat} (hg : W.grownBy w3 row) (hr : ∀ b, row = some b → B3 ≤ b) (v : Value) (j : Nat) : Below O w0 (w3.setCell ⟨O, j, none⟩ v) := by
  refine Below.setCell (h.below.trans ⟨hg.os, hg.tape, hg.output, ?_, fun i hi => ?_⟩) (Nat.le_refl _) _
  · have := hg.size; have := h.hB; omega
  · have := h.hOB
    have := h.hB
    exact hg.block i (by omega) (fun e => by have := hr i e.symm; omega)
theorem EOSt.key (h : EOSt w0 W O B3 kv lv n m ks xs gs) (s : ByteArray) {kv' : Value} (hg : W.grownBy w3 kv.ownBlock) (hown : w3.ownsRow B3 9 1 kv' (n + 1) (ks.map Value.string ++ [.string s]))
    (hat : ∀ g, kv'.ownBlock = some g → kv.ownBlock = some g ∨ W.heap.size ≤ g) : EOSt w0 (w3.setCell ⟨O, 2, none⟩ kv') O B3 kv' lv (n + 1) m (ks ++ [s]) xs gs := by
  have hge := own_ge h.krow
  have hne : lv.ownBlock = none ∨ lv.ownBlock ≠ kv.ownBlock := own_apart h.lrow h.krow (by decide)
  have ho := h.out_kept hg hge
  refine ⟨h.below_kept hg hge _ _, (setCell_heap ho 2 _).trans rfl, h.hOB, by have := hg.size; have := h.hB; simp; omega, ?_, ownsRow_setCell_below (h.lrow.kept hg hne) h.hOB _, ?_⟩
  · have := ownsRow_setCell_below hown (a := ⟨O, 2, none⟩) h.hOB kv'
    simpa using this
  · refine h.row.mono (fun b o hb hob => ?_) (fun b hb hlt => ⟨hb.1, hb.2.1, fun e => ?_⟩)
    · rw [Below.heap_setCell _ _ _ _ (by have := h.hOB; have := hb.1; show b ≠ O; omega)]
      exact (hg.block b (Array.getElem?_eq_some_iff.1 hob).1 hb.2.2).trans hob
    · rcases hat b e.symm with h1 | h1
      · exact hb.2.2 h1.symm
      · omega
theorem EOSt.val (h : EOSt w0 W O B3 kv lv n m ks xs gs) {gv : GV} {lv' : Value} (hg : W.grownBy w3 lv.ownBlock) (hown : w3.ownsRow B3 26 6 lv' (m + 1) (xs ++ cs))
    (hT : RepGV (fun b => B3 ≤ b ∧ some b ≠ lv.ownBlock ∧ some b ≠ kv.ownBlock) W gv cs) (hat : ∀ g, lv'.ownBlock = some g → lv.ownBlock = some g ∨ W.heap.size ≤ g) : EOSt w0 (w3.setCell ⟨O, 3, none⟩ lv') O B3 kv lv' n (m + 1) ks (xs ++ cs) (gs ++ [gv]) := by
  have hge := own_ge h.lrow
  have hne : kv.ownBlock = none ∨ kv.ownBlock ≠ lv.ownBlock := own_apart h.krow h.lrow (by decide)
  have ho := h.out_kept hg hge
  have hs : Same (fun b => B3 ≤ b ∧ some b ≠ lv.ownBlock ∧ some b ≠ kv.ownBlock) W (w3.setCell ⟨O, 3, none⟩ lv') := fun b o hb hob => by
    rw [Below.heap_setCell _ _ _ _ (by have := h.hOB; have := hb.1; show b ≠ O; omega)]
    exact (hg.block b (Array.getElem?_eq_some_iff.1 hob).1 hb.2.1).trans hob
  have hS : ∀ b, (B3 ≤ b ∧ some b ≠ lv.ownBlock ∧ some b ≠ kv.ownBlock) → b < W.heap.size → B3 ≤ b ∧ some b ≠ lv'.ownBlock ∧ some b ≠ kv.ownBlock := fun b hb hlt => ⟨hb.1, fun e => by
    rcases hat b e.symm with h1 | h1
    · exact hb.2.1 h1.symm
    · omega, hb.2.2⟩
  exact ⟨h.below_kept hg hge _ _, (setCell_heap ho 3 _).trans rfl, h.hOB, by have := hg.size; have := h.hB; simp; omega, ownsRow_setCell_below (h.krow.kept hg hne) h.hOB _, ownsRow_setCell_below hown h.hOB _, (h.row.mono hs hS).append (RowGV.one (hT.mono hs hS))⟩
theorem vals_own {S : Nat → Prop} {w : World} {base n c : Nat} {a : Option Addr} {xs : List Value} {gs : List GV} {e : TypeId} (hown : w.ownsRow base e 6 (.slice a n c) n xs) (hrow : RowGV S w xs gs) (hS : ∀ b, base ≤ b → S b) (hsz : gs.length * 88 ≤ 140737488351232) : RepVals S w (.slice a n c) gs := by
  obtain ⟨hn, hle, lb, h1, h2, h3⟩ := vals_of_row hown hrow hS
  exact ⟨a, lb, 0, c, by rw [hn], hle, hsz, h1, h2, h3⟩
end
set_option maxHeartbeats 1000000 in
theorem fe_fld (b o : Nat) (s : ByteArray) (hs : s.size ≤ 140737488351232) (w : World) (hc : w.cell? ⟨b, o, none⟩ = some (.string s)) : Calls Tryd.prog 9 #[.agg #[(.pointer (some ⟨b, o, none⟩)), .pointer none, .pointer none, .pointer none]] w fun en w' => ∃ cs', en = .returned (.agg cs'.toArray) ∧ RepGE (fun b => w.heap.size ≤ b) w' ⟨0, s, [], [], zeroG, 0⟩ cs' ∧ Ext w w' := by
  have q := (((Ext.refl w).alloc (.cells #[(.pointer (some ⟨b, o, none⟩)), .pointer none, .pointer none, .pointer none] 40)).alloc (.cells #[.int .i64 0, .string ⟨#[]⟩, .slice none 0 0, .slice none 0 0, .int .i64 0, .int .i64 0, .float .f64 0, .string ⟨#[]⟩, .slice none 0 0, .slice none 0 0, .int .i64 0] 29)).cellS hc
  clear hc
  go_enter Tryd.func9, Tryd.ntmps9
  go_wp2_with fail
  obtain ⟨⟨y0, y1, y2, y3, y4, y5, y6, y7, y8, y9, y10⟩, -⟩ := slot11 (second_heap w (.cells #[(.pointer (some ⟨b, o, none⟩)), .pointer none, .pointer none, .pointer none] 40) (.cells #[.int .i64 0, .string s, .slice none 0 0, .slice none 0 0, .int .i64 0, .int .i64 0, .float .f64 0, .string ⟨#[]⟩, .slice none 0 0, .slice none 0 0, .int .i64 0] 29))
  refine bodyPost_ret (v := .agg #[.int .i64 0, .string s, .slice none 0 0, .slice none 0 0, .int .i64 0, .int .i64 0, .float .f64 0, .string ⟨#[]⟩, .slice none 0 0, .slice none 0 0, .int .i64 0]) (by simp [results, Tryd.results9, go_sem, y0, y1, y2, y3, y4, y5, y6, y7, y8, y9, y10]) rfl ⟨_, rfl, ⟨none, 0, none, 0, _, _, _, _, _, _, rfl, wfk 0 rfl, wfk 0 rfl, hs, RepStrs.nil _ _, RepVals.nil _ _, repZero _ _⟩, ((Ext.refl w).alloc _).alloc _⟩
set_option maxHeartbeats 1000000 in
theorem fe_idx (b o : Nat) (n : Int) (hn : (Lit.int .i64 n).wf = true) (w : World) (hc : w.cell? ⟨b, o, none⟩ = some (.int .i64 n)) : Calls Tryd.prog 9 #[.agg #[.pointer none, .pointer none, .pointer none, (.pointer (some ⟨b, o, none⟩))]] w fun en w' => ∃ cs', en = .returned (.agg cs'.toArray) ∧ RepGE (fun b => w.heap.size ≤ b) w' ⟨3, ByteArray.empty, [], [], zeroG, n⟩ cs' ∧ Ext w w' := by
  have q := (((Ext.refl w).alloc (.cells #[.pointer none, .pointer none, .pointer none, (.pointer (some ⟨b, o, none⟩))] 40)).alloc (.cells #[.int .i64 0, .string ⟨#[]⟩, .slice none 0 0, .slice none 0 0, .int .i64 0, .int .i64 0, .float .f64 0, .string ⟨#[]⟩, .slice none 0 0, .slice none 0 0, .int .i64 0] 29)).cellS hc
  clear hc
  go_enter Tryd.func9, Tryd.ntmps9
  go_wp2_with fail
  obtain ⟨⟨y0, y1, y2, y3, y4, y5, y6, y7, y8, y9, y10⟩, -⟩ := slot11 (second_heap w (.cells #[.pointer none, .pointer none, .pointer none, (.pointer (some ⟨b, o, none⟩))] 40) (.cells #[.int .i64 3, .string ⟨#[]⟩, .slice none 0 0, .slice none 0 0, .int .i64 0, .int .i64 0, .float .f64 0, .string ⟨#[]⟩, .slice none 0 0, .slice none 0 0, .int .i64 n] 29))
  refine bodyPost_ret (v := .agg #[.int .i64 3, .string ⟨#[]⟩, .slice none 0 0, .slice none 0 0, .int .i64 0, .int .i64 0, .float .f64 0, .string ⟨#[]⟩, .slice none 0 0, .slice none 0 0, .int .i64 n]) (by simp [results, Tryd.results9, go_sem, y0, y1, y2, y3, y4, y5, y6, y7, y8, y9, y10]) rfl ⟨_, rfl, ⟨none, 0, none, 0, _, _, _, _, _, _, rfl, wfk 3 rfl, hn, es0, RepStrs.nil _ _, RepVals.nil _ _, repZero _ _⟩, ((Ext.refl w).alloc _).alloc _⟩
set_option maxHeartbeats 1000000 in
theorem fe_val (S : Nat → Prop) (b o : Nat) (t : Tree) (x : Value) (w : World) (hc : w.cell? ⟨b, o, none⟩ = some x) (hv : RepVal S w t x) : Calls Tryd.prog 9 #[.agg #[.pointer none, .pointer none, (.pointer (some ⟨b, o, none⟩)), .pointer none]] w fun en w' => ∃ cs', en = .returned (.agg cs'.toArray) ∧ RepGE (fun b => w.heap.size ≤ b) w' ⟨2, ByteArray.empty, [], [], fromT t, 0⟩ cs' ∧ Ext w w' := by
  obtain ⟨bx, rfl⟩ := repVal_form hv
  have q := (((Ext.refl w).alloc (.cells #[.pointer none, .pointer none, (.pointer (some ⟨b, o, none⟩)), .pointer none] 40)).alloc (.cells #[.int .i64 0, .string ⟨#[]⟩, .slice none 0 0, .slice none 0 0, .int .i64 0, .int .i64 0, .float .f64 0, .string ⟨#[]⟩, .slice none 0 0, .slice none 0 0, .int .i64 0] 29)).cellS hc
  have HV := hid (hv.ext (((Ext.refl w).alloc (.cells #[.pointer none, .pointer none, (.pointer (some ⟨b, o, none⟩)), .pointer none] 40)).alloc (.cells #[.int .i64 0, .string ⟨#[]⟩, .slice none 0 0, .slice none 0 0, .int .i64 0, .int .i64 0, .float .f64 0, .string ⟨#[]⟩, .slice none 0 0, .slice none 0 0, .int .i64 0] 29)))
  clear hc hv
  go_enter Tryd.func9, Tryd.ntmps9
  have xx := second_heap w (.cells #[.pointer none, .pointer none, (.pointer (some ⟨b, o, none⟩)), .pointer none] 40) (.cells #[.int .i64 0, .string ⟨#[]⟩, .slice none 0 0, .slice none 0 0, .int .i64 0, .int .i64 0, .float .f64 0, .string ⟨#[]⟩, .slice none 0 0, .slice none 0 0, .int .i64 0] 29)
  have HX := hid xx
  have hsz : w.heap.size + 2 ≤ ((w.alloc (.cells #[.pointer none, .pointer none, (.pointer (some ⟨b, o, none⟩)), .pointer none] 40)).alloc (.cells #[.int .i64 0, .string ⟨#[]⟩, .slice none 0 0, .slice none 0 0, .int .i64 0, .int .i64 0, .float .f64 0, .string ⟨#[]⟩, .slice none 0 0, .slice none 0 0, .int .i64 0] 29)).heap.size := by simp
  clear xx
  go_wp2_with (go_at_call 17; refine (fromValue_any S t _ _ HV.out).mono ?_; rintro e w2 ⟨cs, rfl, hT, hE⟩; obtain ⟨u1, u2, u3, u4, u5, u6, u7, u8, u9, u10, rfl⟩ := hT.form; have HT := hid (hT.weak (S' := fun b => w.heap.size + 2 ≤ b) (fun b hb _ => by simp at hb; omega)); have HX2 := hid (hE.block HX.out); have HE := hid ((((Ext.refl w).alloc _).alloc _).trans hE); have HS2 := hid (Nat.le_trans hsz hE.size); obtain ⟨⟨z0, z1, z2, z3, z4, z5, z6, z7, z8, z9, z10⟩, f0, f1, f2, f3, f4, f5, f6, f7, f8, f9, f10⟩ := slot11 (hE.block HX.out); clear hT hE)
  have hsz2 := HS2.out
  change bodyPost _ _ _ _ _ (setL w2 (w.heap.size + 1) 0 [.int .i64 2, .string ⟨#[]⟩, .slice none 0 0, .slice none 0 0, .int .i64 u1, .int .i64 u2, .float .f64 u3, .string u4, .slice u5 u6 u7, .slice u8 u9 u10, .int .i64 0])
  obtain ⟨e4, hr4, x4⟩ := putE (e := ⟨2, ByteArray.empty, [], [], fromT t, 0⟩) (w := w) (W := w2) (S := fun b => w.heap.size + 2 ≤ b) (vs := [.int .i64 2, .string ⟨#[]⟩, .slice none 0 0, .slice none 0 0, .int .i64 u1, .int .i64 u2, .float .f64 u3, .string u4, .slice u5 u6 u7, .slice u8 u9 u10, .int .i64 0]) HX2.out rfl (Nat.le_succ _) HE.out ⟨none, 0, none, 0, _, _, _, _, _, _, rfl, wfk 2 rfl, wfk 0 rfl, es0, RepStrs.nil _ _, RepVals.nil _ _, HT.out⟩ (fun b hb => by have hb2 : w.heap.size + 2 ≤ b := hb; omega) _ rfl
  generalize setL w2 (w.heap.size + 1) 0 [.int .i64 2, .string ⟨#[]⟩, .slice none 0 0, .slice none 0 0, .int .i64 u1, .int .i64 u2, .float .f64 u3, .string u4, .slice u5 u6 u7, .slice u8 u9 u10, .int .i64 0] = WF at *
  obtain ⟨⟨y0, y1, y2, y3, y4, y5, y6, y7, y8, y9, y10⟩, -⟩ := slot11 e4
  refine bodyPost_ret (v := .agg #[.int .i64 2, .string ⟨#[]⟩, .slice none 0 0, .slice none 0 0, .int .i64 u1, .int .i64 u2, .float .f64 u3, .string u4, .slice u5 u6 u7, .slice u8 u9 u10, .int .i64 0]) (by simp [results, Tryd.results9, go_sem, y0, y1, y2, y3, y4, y5, y6, y7, y8, y9, y10]) rfl ⟨_, rfl, hr4, x4⟩
theorem to_eo (w : World) (o1 o2 o3 : Obj) : (((w.alloc o1).alloc o2).alloc o3).heap.size = w.heap.size + 3 := by simp
theorem cells_new2 (w : World) (o : Obj) (cs : List Value) (t : TypeId) : ∀ j u, cs[j]? = some u → ((w.alloc o).alloc (.cells cs.toArray t)).cell? ((⟨w.heap.size + 1, 0, none⟩ : Addr).add j) = some u := by
  have := cells_new (w.alloc o) cs t
  rwa [show (w.alloc o).heap.size = w.heap.size + 1 by simp] at this
theorem take_snoc' {α : Type} {l : List α} {k : Nat} {p : α} (h : l[k]? = some p) : l.take (k + 1) = l.take k ++ [p] := by
  obtain ⟨hlt, he⟩ := List.getElem?_eq_some_iff.1 h
  rw [List.take_succ_eq_append_getElem hlt, he]
set_option maxHeartbeats 4000000 in
theorem fe_key (S : Nat → Prop) (b o : Nat) (fs : List (ByteArray × Tree)) (v : Value) (w : World) (hc : w.cell? ⟨b, o, none⟩ = some v) (hv : RepFs S w v fs) : Calls Tryd.prog 9 #[.agg #[.pointer none, (.pointer (some ⟨b, o, none⟩)), .pointer none, .pointer none]] w fun en w' => ∃ cs', en = .returned (.agg cs'.toArray) ∧ RepGE (fun b => w.heap.size ≤ b) w' ⟨1, ByteArray.empty, fs.map (·.1), fs.map (fun p => fromT p.2), zeroG, 0⟩ cs' ∧ Ext w w' := by
  obtain ⟨is, his, hs0, hs1, hs2⟩ := info_parts infoStr
  obtain ⟨i0, hi, hz0, hz1, hz2⟩ := info_parts info_val
  obtain ⟨a, fb, fo, cap, rfl, hle, hsz, ha, hat⟩ := hv
  have HA := hid ha
  have HAT := hid hat
  have q := ((((Ext.refl w).alloc (.cells #[.pointer none, (.pointer (some ⟨b, o, none⟩)), .pointer none, .pointer none] 40)).alloc (.cells #[.int .i64 0, .string ⟨#[]⟩, .slice none 0 0, .slice none 0 0, .int .i64 0, .int .i64 0, .float .f64 0, .string ⟨#[]⟩, .slice none 0 0, .slice none 0 0, .int .i64 0] 29)).alloc (.cells #[.int .i64 1, .string ⟨#[]⟩, .slice none 0 0, .slice none 0 0, .int .i64 0, .int .i64 0, .float .f64 0, .string ⟨#[]⟩, .slice none 0 0, .slice none 0 0, .int .i64 0] 29)).cellS hc
  clear hc ha hat
  go_enter Tryd.func9, Tryd.ntmps9
  go_wp2_with fail
  go_loopw [25] (fun i wr => ∃ (k : Nat) (kv lv : Value) (ks : List ByteArray) (xs : List Value) (gs : List GV), i = .int .i64 k ∧ k ≤ fs.length ∧ Hid (ks = (fs.take k).map (·.1) ∧ gs = (fs.take k).map fun p => fromT p.2) ∧ Hid (EOSt ((w.alloc (.cells #[.pointer none, (.pointer (some ⟨b, o, none⟩)), .pointer none, .pointer none] 40)).alloc (.cells #[.int .i64 0, .string ⟨#[]⟩, .slice none 0 0, .slice none 0 0, .int .i64 0, .int .i64 0, .float .f64 0, .string ⟨#[]⟩, .slice none 0 0, .slice none 0 0, .int .i64 0] 29)) wr (w.heap.size + 1 + 1) (w.heap.size + 3) kv lv k k ks xs gs)) (fun i _ => fs.length - (intOf i).toNat)
  case atStart => exact ⟨0, .slice none 0 0, .slice none 0 0, [], [], [], rfl, Nat.zero_le _, hid ⟨by simp, by simp⟩, hid ⟨((Ext.refl _).alloc _).mono (by simp), third_heap _ _ _ _, by omega, by simp, World.ownsRow_nil _ _ _ _, World.ownsRow_nil _ _ _ _, RowGV.nil _ _⟩⟩
  case round =>
    obtain ⟨k, kv, lv, ks, xs, gs, rfl, hk, HQ, HO⟩ := hrel
    have HE := hid (show Ext w wr from ((((Ext.refl w).alloc (.cells #[.pointer none, (.pointer (some ⟨b, o, none⟩)), .pointer none, .pointer none] 40)).alloc (.cells #[.int .i64 0, .string ⟨#[]⟩, .slice none 0 0, .slice none 0 0, .int .i64 0, .int .i64 0, .float .f64 0, .string ⟨#[]⟩, .slice none 0 0, .slice none 0 0, .int .i64 0] 29)).trans (HO.out.below.mono (by simp))))
    by_cases h1 : k < fs.length
    · obtain ⟨p, hp⟩ : ∃ p, fs[k]? = some p := ⟨_, List.getElem?_eq_getElem h1⟩
      obtain ⟨rfl, -⟩ := HA.out (by omega)
      obtain ⟨hps, kc1, x, kc2, hx⟩ := HAT.out k p hp
      obtain ⟨bx, rfl⟩ := repVal_form hx
      have j1 := HE.out.cellS kc1
      have j2 := HE.out.cellS kc2
      have HX := hid hx
      have HPS := hid hps
      have HP := hid (show fs.take (k + 1) = fs.take k ++ [p] from take_snoc' hp)
      have hi0 : (0 : Int) ≤ (k : Int) := by omega
      have hi1 : (k : Int) < (fs.length : Int) := by omega
      have HE1 := hid ((Ext.refl wr).alloc (.cells #[.string p.1, .iface 85 (.pointer (some ⟨bx, 0, none⟩))] 55))
      obtain ⟨ka, kc, rfl⟩ := own_form HO.out.krow
      obtain ⟨la, lc, rfl⟩ := own_form HO.out.lrow
      have ho := HE1.out.block HO.out.out
      obtain ⟨⟨z0, z1, z2, z3, z4, z5, z6, z7, z8, z9, z10⟩, f0, f1, f2, f3, f4, f5, f6, f7, f8, f9, f10⟩ := slot11 ho
      have HSZ := hid (show w.heap.size + 3 ≤ wr.heap.size from HO.out.hB)
      clear hp kc1 kc2 hx hps ho
      go_upto_region 9 with (at_builtin; refine wpList_append_lies _ rfl (.tmp 30) (.tmp 33) 23 rfl (w.heap.size + 3) 9 is _ 1 16 Tryd.underlying23 his hs0 hs1 hs2 rfl (by decide) _ k (ks.map Value.string) rfl (((HO.out.krow).alloc _).alloc _) ⟨wr.heap.size + 1, 0, none⟩ 1 1 [.string p.1] rfl rfl (cells_new2 wr (.cells #[.string p.1, .iface 85 (.pointer (some ⟨bx, 0, none⟩))] 55) [.string p.1] _) (by simp [Value.oneCell']) (by decide) (by unfold maxLen; omega) (by omega) (by have := HSZ.out; simp; omega) (wr.heap.size + 2) (by simp) ?_; intro g3 cap3 w3 hown3 hg3 hat hlt3; have HO1 := hid (HO.out.ext' (((Ext.refl wr).alloc (.cells #[.string p.1, .iface 85 (.pointer (some ⟨bx, 0, none⟩))] 55)).alloc (.cells #[.string p.1] 9))); have ho3 := HO1.out.out_kept hg3 (own_ge HO1.out.krow); clear z0 z1 z2 z3 z4 z5 z6 z7 z8 z9 z10 f0 f1 f2 f3 f4 f5 f6 f7 f8 f9 f10; obtain ⟨⟨z0, z1, z2, z3, z4, z5, z6, z7, z8, z9, z10⟩, f0, f1, f2, f3, f4, f5, f6, f7, f8, f9, f10⟩ := slot11 ho3; have HK := hid (And.intro hg3 (And.intro hown3 hat)); clear hown3 hg3 hat hlt3 ho3)
      have HO4 := hid (HO1.out.key p.1 HK.out.1 HK.out.2.1 (fun g hg => by have h := HK.out.2.2; simp [Value.ownBlock] at hg; subst hg; exact h.elim .inl (fun e => .inr (by rw [e]; simp))))
      have hfb := HK.out.1.block wr.heap.size (by simp; omega) (fun e => by have := own_lt HO.out.krow _ e.symm; omega)
      have HFB := hid (show (w3.setCell ⟨w.heap.size + 1 + 1, 2, none⟩ (.slice (some ⟨g3, 0, none⟩) (k + 1) cap3)).heap[wr.heap.size]? = some (.cells #[.string p.1, .iface 85 (.pointer (some ⟨bx, 0, none⟩))] 55) from by
        rw [Below.heap_setCell _ _ _ _ (by have := HSZ.out; show wr.heap.size ≠ w.heap.size + 1 + 1; omega), hfb]
        exact ((Ext.refl (wr.alloc (.cells #[.string p.1, .iface 85 (.pointer (some ⟨bx, 0, none⟩))] 55))).alloc _).block (heap_alloc_new wr _))
      have HS4 := hid (show wr.heap.size ≤ (w3.setCell ⟨w.heap.size + 1 + 1, 2, none⟩ (.slice (some ⟨g3, 0, none⟩) (k + 1) cap3)).heap.size by have := HK.out.1.size; simp at this ⊢; omega)
      clear hfb
      generalize w3.setCell ⟨w.heap.size + 1 + 1, 2, none⟩ (.slice (some ⟨g3, 0, none⟩) (k + 1) cap3) = w4 at *
      have HE4 := hid (show Ext w w4 from ((((Ext.refl w).alloc (.cells #[.pointer none, (.pointer (some ⟨b, o, none⟩)), .pointer none, .pointer none] 40)).alloc (.cells #[.int .i64 0, .string ⟨#[]⟩, .slice none 0 0, .slice none 0 0, .int .i64 0, .int .i64 0, .float .f64 0, .string ⟨#[]⟩, .slice none 0 0, .slice none 0 0, .int .i64 0] 29)).trans (HO4.out.below.mono (by simp))))
      clear z0 z1 z2 z3 z4 z5 z6 z7 z8 z9 z10 f0 f1 f2 f3 f4 f5 f6 f7 f8 f9 f10 HK HO1 HO HE HE1 j1 j2 q
      obtain ⟨⟨z0, z1, z2, z3, z4, z5, z6, z7, z8, z9, z10⟩, f0, f1, f2, f3, f4, f5, f6, f7, f8, f9, f10⟩ := slot11 HO4.out.out
      have k0 := (cell_of_heap HFB.out 0).trans rfl
      have k1 := (cell_of_heap HFB.out 1).trans rfl
      have HSZ4 := hid (Nat.le_trans HSZ.out HS4.out)
      go_region_law (first
        | (refine step_call _ rfl 17 [.tmp 39] #[43] rfl (by kernel_rfl) [_] rfl (fromValue_any S p.2 _ _ (HX.out.ext HE4.out.drew)) ?_; rintro e w5 ⟨cs5, rfl, hT5, hE5⟩; obtain ⟨r1, r2, r3, r4, r5, r6, r7, r8, r9, r10, rfl⟩ := hT5.form; refine ⟨_, rfl, ?_⟩; have HT5 := hid hT5; have HE5 := hid ((Ext.refl w4).drew.trans hE5); have HO5 := hid (HO4.out.ext' HE5.out); clear hT5 hE5 z0 z1 z2 z3 z4 z5 z6 z7 z8 z9 z10 f0 f1 f2 f3 f4 f5 f6 f7 f8 f9 f10; obtain ⟨⟨z0, z1, z2, z3, z4, z5, z6, z7, z8, z9, z10⟩, f0, f1, f2, f3, f4, f5, f6, f7, f8, f9, f10⟩ := slot11 HO5.out.out; have z3' := fun o => ((Ext.refl w5).alloc o).cellS z3)
        | (refine step_append_lies _ rfl (.tmp 37) (.tmp 41) 24 rfl (w.heap.size + 3) 26 i0 _ 6 88 Tryd.underlying24 hi hz0 hz1 hz2 rfl (by decide) _ k xs rfl ((HO5.out.lrow).alloc _) ⟨w5.heap.size, 0, none⟩ 1 1 [.int .i64 r1, .int .i64 r2, .float .f64 r3, .string r4, .slice r5 r6 r7, .slice r8 r9 r10] rfl rfl (cells_new w5 [.int .i64 r1, .int .i64 r2, .float .f64 r3, .string r4, .slice r5 r6 r7, .slice r8 r9 r10] _) (rep_oneCell HT5.out) (by decide) (by unfold maxLen; omega) (by omega) (by have := HSZ4.out; have := HE5.out.size; simp; omega) (w5.heap.size + 1) (by simp) ?_; intro g6 cap6 w6 hown6 hg6 hat6 hlt6; have HO5' := hid (HO5.out.ext' ((Ext.refl w5).alloc (.cells #[.int .i64 r1, .int .i64 r2, .float .f64 r3, .string r4, .slice r5 r6 r7, .slice r8 r9 r10] 26))); have ho6 := HO5'.out.out_kept hg6 (own_ge HO5'.out.lrow); clear z0 z1 z2 z3 z4 z5 z6 z7 z8 z9 z10 f0 f1 f2 f3 f4 f5 f6 f7 f8 f9 f10; obtain ⟨⟨z0, z1, z2, z3, z4, z5, z6, z7, z8, z9, z10⟩, f0, f1, f2, f3, f4, f5, f6, f7, f8, f9, f10⟩ := slot11 ho6; have HK6 := hid (And.intro hg6 (And.intro hown6 hat6)); clear hown6 hg6 hat6 hlt6 ho6))
      all_goals
        go_wp2_with fail
        refine ⟨⟨k + 1, _, _, ks ++ [p.1], _, gs ++ [fromT p.2], by go_num, by omega, hid ⟨by rw [HP.out, List.map_append, HQ.out.1]; rfl, by rw [HP.out, List.map_append, HQ.out.2]; rfl⟩, hid (HO5'.out.val HK6.out.1 HK6.out.2.1 ((HT5.out.ext ((Ext.refl w5).alloc _)).weak (fun b hb hlt => ?_)) (fun g hg => by have h := HK6.out.2.2; simp [Value.ownBlock] at hg; subst hg; exact h.elim .inl (fun e => .inr (by rw [e]; simp))))⟩, by simp [intOf]; omega⟩
        have hb' : w4.drew.heap.size ≤ b := hb
        simp at hb'
        exact ⟨Nat.le_trans HSZ4.out hb', fun e => by have := own_lt HO4.out.lrow _ e.symm; omega, fun e => by have := own_lt HO4.out.krow _ e.symm; omega⟩
    · have hkk : k = fs.length := by omega
      have HQ' := hid (show ks = fs.map (·.1) ∧ gs = fs.map fun p => fromT p.2 by have := HQ.out; rwa [List.take_of_length_le (by omega)] at this)
      have HL := hid (show ks.length = k ∧ gs.length = k by rw [HQ'.out.1, HQ'.out.2]; simp [hkk])
      have HQS := hid (show ∀ s ∈ ks, s.size ≤ 140737488351232 by
        intro s hs
        rw [HQ'.out.1] at hs
        obtain ⟨p, hp, rfl⟩ := List.mem_map.1 hs
        obtain ⟨i, hi⟩ := List.mem_iff_getElem?.1 hp
        exact (HAT.out i p hi).1)
      have HK := hid hkk
      clear hkk
      obtain ⟨ka, kc, rfl⟩ := own_form HO.out.krow
      obtain ⟨la, lc, rfl⟩ := own_form HO.out.lrow
      obtain ⟨⟨z0, z1, z2, z3, z4, z5, z6, z7, z8, z9, z10⟩, f0, f1, f2, f3, f4, f5, f6, f7, f8, f9, f10⟩ := slot11 HO.out.out
      have HR := hid ((Below.block HO.out.below _ (by omega)).trans (second_heap w (.cells #[.pointer none, (.pointer (some ⟨b, o, none⟩)), .pointer none, .pointer none] 40) (.cells #[.int .i64 0, .string ⟨#[]⟩, .slice none 0 0, .slice none 0 0, .int .i64 0, .int .i64 0, .float .f64 0, .string ⟨#[]⟩, .slice none 0 0, .slice none 0 0, .int .i64 0] 29)))
      obtain ⟨⟨y0, y1, y2, y3, y4, y5, y6, y7, y8, y9, y10⟩, g0, g1, g2, g3, g4, g5, g6, g7, g8, g9, g10⟩ := slot11 HR.out
      go_wp2_with fail
      have hB3 : w.heap.size + 1 < w.heap.size + 3 := by omega
      have hks : RepStrs (fun b => w.heap.size + 3 ≤ b) wr (.slice ka k kc) ks := strs_of_row HO.out.krow (fun b h => h) (by have := HL.out.1; omega) HQS.out
      have hgs : RepVals (fun b => w.heap.size + 3 ≤ b) wr (.slice la k lc) gs := vals_own HO.out.lrow (HO.out.row.mono (Same.refl _ _) (fun b hb _ => hb.1)) (fun b h => h) (by have := HL.out.2; omega)
      change bodyPost _ _ _ _ _ (setL wr (w.heap.size + 1) 0 [.int .i64 1, .string ⟨#[]⟩, .slice ka k kc, .slice la k lc, .int .i64 0, .int .i64 0, .float .f64 0, .string ⟨#[]⟩, .slice none 0 0, .slice none 0 0, .int .i64 0])
      obtain ⟨e4, hr4, x4⟩ := putE (e := ⟨1, ByteArray.empty, ks, gs, zeroG, 0⟩) (w := w) (W := wr) (S := fun b => w.heap.size + 3 ≤ b) (vs := [.int .i64 1, .string ⟨#[]⟩, .slice ka k kc, .slice la k lc, .int .i64 0, .int .i64 0, .float .f64 0, .string ⟨#[]⟩, .slice none 0 0, .slice none 0 0, .int .i64 0]) HR.out rfl (Nat.le_succ _) HE.out ⟨ka, kc, la, lc, _, _, _, _, _, _, by simp only [HL.out.1, HL.out.2]; rfl, wfk 1 rfl, wfk 0 rfl, es0, by simp only [HL.out.1]; exact hks, by simp only [HL.out.2]; exact hgs, repZero _ _⟩ (fun b hb => by have hb2 : w.heap.size + 3 ≤ b := hb; omega) _ rfl
      generalize setL wr (w.heap.size + 1) 0 [.int .i64 1, .string ⟨#[]⟩, .slice ka k kc, .slice la k lc, .int .i64 0, .int .i64 0, .float .f64 0, .string ⟨#[]⟩, .slice none 0 0, .slice none 0 0, .int .i64 0] = WF at *
      obtain ⟨⟨y0, y1, y2, y3, y4, y5, y6, y7, y8, y9, y10⟩, -⟩ := slot11 e4
      refine bodyPost_ret (v := .agg #[.int .i64 1, .string ⟨#[]⟩, .slice ka k kc, .slice la k lc, .int .i64 0, .int .i64 0, .float .f64 0, .string ⟨#[]⟩, .slice none 0 0, .slice none 0 0, .int .i64 0]) (by simp [results, Tryd.results9, go_sem, y0, y1, y2, y3, y4, y5, y6, y7, y8, y9, y10]) rfl ⟨_, rfl, ?_, x4⟩
      rw [← HQ'.out.1, ← HQ'.out.2]
      exact hr4
theorem fromElem_any (S : Nat → Prop) (e : El) (cs : List Value) (w : World) (hR : RepEl S w e cs) :
    Calls Tryd.prog 9 #[.agg cs.toArray] w fun en w' => ∃ cs', en = .returned (.agg cs'.toArray) ∧ RepGE (fun b => w.heap.size ≤ b) w' (fromEl e) cs' ∧ Ext w w' := by
  obtain ⟨b, o, hb, h⟩ := hR
  cases e with
  | fld s => obtain ⟨rfl, h1, h2⟩ := h; exact fe_fld b o s h2 w h1
  | key fs => obtain ⟨rfl, v, h1, h2⟩ := h; exact fe_key S b o fs v w h1 h2
  | val t => obtain ⟨rfl, x, h1, h2⟩ := h; exact fe_val S b o t x w h1 h2
  | idx n => obtain ⟨rfl, h1, h2⟩ := h; exact fe_idx b o n h2 w h1
end Go.Proofs.YtempfaefopfobaaDoor
