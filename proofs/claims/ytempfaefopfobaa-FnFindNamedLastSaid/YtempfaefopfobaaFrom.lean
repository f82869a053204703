/- From: impl.fromTree: a tree of the package's as a value. -/
import Derived.Test.YtempfaefopfobaaFromT
import Derived.Test.YtempfaefopfobaaStep

namespace Go.Proofs.Ytempfaefopfobaa
open Go.ChangeShapes Go.WideShapes Go.ChangeAt Go.RowKit
set_option linter.unusedVariables false
set_option linter.unusedSimpArgs false

/-- type switches on what a tree holds -/
@[go_sem] theorem tsw_0_0 (v : Value) (w : World) : (Instr.typeAssert (.iface 4 v) 20 4 true).run Try.prog w = .ok (.tuple #[v, .bool true]) w := by kernel_rfl
@[go_sem] theorem tsw_1_0 (v : Value) (w : World) : (Instr.typeAssert (.iface 2 v) 20 4 true).run Try.prog w = .ok (.tuple #[.bool false, .bool false]) w := by kernel_rfl
@[go_sem] theorem tsw_1_1 (v : Value) (w : World) : (Instr.typeAssert (.iface 2 v) 20 2 true).run Try.prog w = .ok (.tuple #[v, .bool true]) w := by kernel_rfl
@[go_sem] theorem tsw_2_0 (v : Value) (w : World) : (Instr.typeAssert (.iface 30 v) 20 4 true).run Try.prog w = .ok (.tuple #[.bool false, .bool false]) w := by kernel_rfl
@[go_sem] theorem tsw_2_1 (v : Value) (w : World) : (Instr.typeAssert (.iface 30 v) 20 2 true).run Try.prog w = .ok (.tuple #[.int .i64 0, .bool false]) w := by kernel_rfl
@[go_sem] theorem tsw_2_2 (v : Value) (w : World) : (Instr.typeAssert (.iface 30 v) 20 30 true).run Try.prog w = .ok (.tuple #[v, .bool true]) w := by kernel_rfl
@[go_sem] theorem tsw_3_0 (v : Value) (w : World) : (Instr.typeAssert (.iface 9 v) 20 4 true).run Try.prog w = .ok (.tuple #[.bool false, .bool false]) w := by kernel_rfl
@[go_sem] theorem tsw_3_1 (v : Value) (w : World) : (Instr.typeAssert (.iface 9 v) 20 2 true).run Try.prog w = .ok (.tuple #[.int .i64 0, .bool false]) w := by kernel_rfl
@[go_sem] theorem tsw_3_2 (v : Value) (w : World) : (Instr.typeAssert (.iface 9 v) 20 30 true).run Try.prog w = .ok (.tuple #[.float .f64 0, .bool false]) w := by kernel_rfl
@[go_sem] theorem tsw_3_3 (v : Value) (w : World) : (Instr.typeAssert (.iface 9 v) 20 9 true).run Try.prog w = .ok (.tuple #[v, .bool true]) w := by kernel_rfl
@[go_sem] theorem tsw_4_0 (v : Value) (w : World) : (Instr.typeAssert (.iface 82 v) 20 4 true).run Try.prog w = .ok (.tuple #[.bool false, .bool false]) w := by kernel_rfl
@[go_sem] theorem tsw_4_1 (v : Value) (w : World) : (Instr.typeAssert (.iface 82 v) 20 2 true).run Try.prog w = .ok (.tuple #[.int .i64 0, .bool false]) w := by kernel_rfl
@[go_sem] theorem tsw_4_2 (v : Value) (w : World) : (Instr.typeAssert (.iface 82 v) 20 30 true).run Try.prog w = .ok (.tuple #[.float .f64 0, .bool false]) w := by kernel_rfl
@[go_sem] theorem tsw_4_3 (v : Value) (w : World) : (Instr.typeAssert (.iface 82 v) 20 9 true).run Try.prog w = .ok (.tuple #[.string ⟨#[]⟩, .bool false]) w := by kernel_rfl
@[go_sem] theorem tsw_4_4 (v : Value) (w : World) : (Instr.typeAssert (.iface 82 v) 20 82 true).run Try.prog w = .ok (.tuple #[v, .bool true]) w := by kernel_rfl
@[go_sem] theorem tsw_5_0 (v : Value) (w : World) : (Instr.typeAssert (.iface 159 v) 20 4 true).run Try.prog w = .ok (.tuple #[.bool false, .bool false]) w := by kernel_rfl
@[go_sem] theorem tsw_5_1 (v : Value) (w : World) : (Instr.typeAssert (.iface 159 v) 20 2 true).run Try.prog w = .ok (.tuple #[.int .i64 0, .bool false]) w := by kernel_rfl
@[go_sem] theorem tsw_5_2 (v : Value) (w : World) : (Instr.typeAssert (.iface 159 v) 20 30 true).run Try.prog w = .ok (.tuple #[.float .f64 0, .bool false]) w := by kernel_rfl
@[go_sem] theorem tsw_5_3 (v : Value) (w : World) : (Instr.typeAssert (.iface 159 v) 20 9 true).run Try.prog w = .ok (.tuple #[.string ⟨#[]⟩, .bool false]) w := by kernel_rfl
@[go_sem] theorem tsw_5_4 (v : Value) (w : World) : (Instr.typeAssert (.iface 159 v) 20 82 true).run Try.prog w = .ok (.tuple #[.slice none 0 0, .bool false]) w := by kernel_rfl
@[go_sem] theorem tsw_5_5 (v : Value) (w : World) : (Instr.typeAssert (.iface 159 v) 20 159 true).run Try.prog w = .ok (.tuple #[v, .bool true]) w := by kernel_rfl
@[go_sem] theorem tsw_n_0 (w : World) : (Instr.typeAssert .nilIface 20 4 true).run Try.prog w = .ok (.tuple #[.bool false, .bool false]) w := by kernel_rfl
@[go_sem] theorem tsw_n_1 (w : World) : (Instr.typeAssert .nilIface 20 2 true).run Try.prog w = .ok (.tuple #[.int .i64 0, .bool false]) w := by kernel_rfl
@[go_sem] theorem tsw_n_2 (w : World) : (Instr.typeAssert .nilIface 20 30 true).run Try.prog w = .ok (.tuple #[.float .f64 0, .bool false]) w := by kernel_rfl
@[go_sem] theorem tsw_n_3 (w : World) : (Instr.typeAssert .nilIface 20 9 true).run Try.prog w = .ok (.tuple #[.string ⟨#[]⟩, .bool false]) w := by kernel_rfl
@[go_sem] theorem tsw_n_4 (w : World) : (Instr.typeAssert .nilIface 20 82 true).run Try.prog w = .ok (.tuple #[.slice none 0 0, .bool false]) w := by kernel_rfl
@[go_sem] theorem tsw_n_5 (w : World) : (Instr.typeAssert .nilIface 20 159 true).run Try.prog w = .ok (.tuple #[.map none, .bool false]) w := by kernel_rfl
set_option maxRecDepth 100000 in
theorem from_null (w : World) : Calls Try.prog 101 #[.nilIface] w fun e w' => e = .returned (.agg #[.int .i64 0, .int .i64 0, .float .f64 0, .string ⟨#[]⟩, .slice none 0 0, .slice none 0 0]) ∧ Ext w w' := by
  go_enter Try.func101, Try.ntmps101
  go_wp2_with fail
  exact bodyPost_ret (v := .agg #[.int .i64 0, .int .i64 0, .float .f64 0, .string ⟨#[]⟩, .slice none 0 0, .slice none 0 0]) (by simp [results, Try.results101, go_sem]) rfl ⟨rfl, (Ext.refl _).alloc _⟩
set_option maxRecDepth 100000 in
theorem from_true (w : World) : Calls Try.prog 101 #[(.iface 4 (.bool true))] w fun e w' => e = .returned (.agg #[.int .i64 1, .int .i64 1, .float .f64 0, .string ⟨#[]⟩, .slice none 0 0, .slice none 0 0]) ∧ Ext w w' := by
  go_enter Try.func101, Try.ntmps101
  go_wp2_with fail
  exact bodyPost_ret (v := .agg #[.int .i64 1, .int .i64 1, .float .f64 0, .string ⟨#[]⟩, .slice none 0 0, .slice none 0 0]) (by simp [results, Try.results101, go_sem]) rfl ⟨rfl, (Ext.refl _).alloc _⟩
set_option maxRecDepth 100000 in
theorem from_false (w : World) : Calls Try.prog 101 #[(.iface 4 (.bool false))] w fun e w' => e = .returned (.agg #[.int .i64 1, .int .i64 0, .float .f64 0, .string ⟨#[]⟩, .slice none 0 0, .slice none 0 0]) ∧ Ext w w' := by
  go_enter Try.func101, Try.ntmps101
  go_wp2_with fail
  exact bodyPost_ret (v := .agg #[.int .i64 1, .int .i64 0, .float .f64 0, .string ⟨#[]⟩, .slice none 0 0, .slice none 0 0]) (by simp [results, Try.results101, go_sem]) rfl ⟨rfl, (Ext.refl _).alloc _⟩
set_option maxRecDepth 100000 in
theorem from_int (n : Int) (w : World) : Calls Try.prog 101 #[(.iface 2 (.int .i64 n))] w fun e w' => e = .returned (.agg #[.int .i64 2, .int .i64 n, .float .f64 0, .string ⟨#[]⟩, .slice none 0 0, .slice none 0 0]) ∧ Ext w w' := by
  go_enter Try.func101, Try.ntmps101
  go_wp2_with fail
  exact bodyPost_ret (v := .agg #[.int .i64 2, .int .i64 n, .float .f64 0, .string ⟨#[]⟩, .slice none 0 0, .slice none 0 0]) (by simp [results, Try.results101, go_sem]) rfl ⟨rfl, (Ext.refl _).alloc _⟩
set_option maxRecDepth 100000 in
theorem from_flt (f : Nat) (w : World) : Calls Try.prog 101 #[(.iface 30 (.float .f64 f))] w fun e w' => e = .returned (.agg #[.int .i64 3, .int .i64 0, .float .f64 f, .string ⟨#[]⟩, .slice none 0 0, .slice none 0 0]) ∧ Ext w w' := by
  go_enter Try.func101, Try.ntmps101
  go_wp2_with fail
  exact bodyPost_ret (v := .agg #[.int .i64 3, .int .i64 0, .float .f64 f, .string ⟨#[]⟩, .slice none 0 0, .slice none 0 0]) (by simp [results, Try.results101, go_sem]) rfl ⟨rfl, (Ext.refl _).alloc _⟩
set_option maxRecDepth 100000 in
theorem from_str (s : ByteArray) (w : World) : Calls Try.prog 101 #[(.iface 9 (.string s))] w fun e w' => e = .returned (.agg #[.int .i64 4, .int .i64 0, .float .f64 0, .string s, .slice none 0 0, .slice none 0 0]) ∧ Ext w w' := by
  go_enter Try.func101, Try.ntmps101
  go_wp2_with fail
  exact bodyPost_ret (v := .agg #[.int .i64 4, .int .i64 0, .float .f64 0, .string s, .slice none 0 0, .slice none 0 0]) (by simp [results, Try.results101, go_sem]) rfl ⟨rfl, (Ext.refl _).alloc _⟩

/-- out, a value under way: its items are a row of the call's own. -/
structure OSt (w0 W : World) (O B3 : Nat) (kd : Int) (kv lv : Value) (n : Nat) (xs : List Value) (gs : List GV) : Prop where
  below : Below (w0.heap.size + 1) (w0.alloc (.cells #[.int .i64 0, .int .i64 0, .float .f64 0, .string ⟨#[]⟩, .slice none 0 0, .slice none 0 0] 32)) W
  out : W.heap[O]? = some (.cells #[.int .i64 kd, .int .i64 0, .float .f64 0, .string ⟨#[]⟩, kv, lv] 32)
  hO : w0.heap.size < O
  hOB : O < B3
  own : W.ownsRow B3 32 6 lv n xs
  row : RowGV (fun b => B3 ≤ b ∧ some b ≠ lv.ownBlock) W xs gs
  hB : B3 ≤ W.heap.size
section
variable {w0 W w2 w3 : World} {O B3 n c' : Nat} {kd : Int} {kv lv : Value} {xs cs : List Value} {gs : List GV} {g : GV} {a' : Option Addr}
theorem own_lt {w : World} {base : Nat} {e : TypeId} {size : Nat} {v : Value} {n : Nat} {xs : List Value} (h : w.ownsRow base e size v n xs) : ∀ g, v.ownBlock = some g → g < w.heap.size := by
  intro g hg
  rcases h.2 with ⟨rfl, _⟩ | ⟨g', cap, cur, rfl, hb, hh, _⟩
  · cases hg
  · simp [Value.ownBlock] at hg; subst hg; exact (Array.getElem?_eq_some_iff.1 hh).1
theorem OSt.ext0 (h : OSt w0 W O B3 kd kv lv n xs gs) : Ext w0 W := ext_of_below h.below
theorem OSt.res (h : OSt w0 W O B3 kd kv lv n xs gs) : W.heap[w0.heap.size]? = some (.cells #[.int .i64 0, .int .i64 0, .float .f64 0, .string ⟨#[]⟩, .slice none 0 0, .slice none 0 0] 32) := (Below.block h.below _ (by omega)).trans (heap_alloc_new _ _)
theorem own_form {w : World} {base : Nat} {e : TypeId} {size : Nat} {v : Value} {n : Nat} {xs : List Value} (h : w.ownsRow base e size v n xs) : ∃ a c, v = .slice a n c := by
  rcases h.2 with ⟨rfl, rfl⟩ | ⟨g', cap, cur, rfl, _⟩ <;> exact ⟨_, _, rfl⟩
theorem OSt.out3 (h : OSt w0 W O B3 kd kv lv n xs gs) (hE : Ext W w2) {o : Obj} (hg3 : (w2.alloc o).grownBy w3 lv.ownBlock) : w3.heap[O]? = some (.cells #[.int .i64 kd, .int .i64 0, .float .f64 0, .string ⟨#[]⟩, kv, lv] 32) := by
  have hs2 := hE.size
  have hOB := h.hOB
  have hB := h.hB
  rw [hg3.block O (by simp; omega) (fun e => by have := own_ge h.own O e.symm; omega)]
  exact ((Ext.refl w2).alloc _).block (hE.block h.out)
theorem OSt.same (h : OSt w0 W O B3 kd kv lv n xs gs) (hE : Ext W w2) {o : Obj} (hg3 : (w2.alloc o).grownBy w3 lv.ownBlock) (v : Value) : Same (fun b => b ≠ O ∧ b < B3) W (w3.setCell ⟨O, 5, none⟩ v) := by
  intro b ob hb hob
  have hs2 := hE.size
  have hB := h.hB
  rw [Below.heap_setCell _ _ _ _ hb.1, hg3.block b (by simp; omega) (fun e => by have := own_ge h.own b e.symm; omega)]
  exact ((Ext.refl w2).alloc _).block (hE.block hob)
theorem OSt.step (h : OSt w0 W O B3 kd kv lv n xs gs) (hE : Ext W w2) (hT : RepGV (fun b => W.heap.size ≤ b) w2 g cs)
    (hown3 : w3.ownsRow B3 32 6 (.slice a' (n + 1) c') (n + 1) (xs ++ cs)) (hg3 : (w2.alloc (.cells cs.toArray 32)).grownBy w3 lv.ownBlock)
    (hat : a' = lv.ownBlock.map (fun g => ⟨g, 0, none⟩) ∨ a' = some ⟨w2.heap.size + 1, 0, none⟩) :
    OSt w0 (w3.setCell ⟨O, 5, none⟩ (.slice a' (n + 1) c')) O B3 kd kv (.slice a' (n + 1) c') (n + 1) (xs ++ cs) (gs ++ [g]) := by
  have hge := own_ge h.own
  have hlt := own_lt h.own
  have hs2 := hE.size
  have hs3 := hg3.size
  have hOB := h.hOB
  have hB := h.hB
  have hO := h.hO
  have hs0 := h.ext0.size
  have hnb : ∀ b, b < B3 → some b ≠ lv.ownBlock := fun b hb e => by have := hge b e.symm; omega
  have hout3 : w3.heap[O]? = some (.cells #[.int .i64 kd, .int .i64 0, .float .f64 0, .string ⟨#[]⟩, kv, lv] 32) := by
    rw [hg3.block O (by simp; omega) (hnb O hOB)]
    exact ((Ext.refl w2).alloc _).block (hE.block h.out)
  have hset : ∀ b, b ≠ O → (w3.setCell ⟨O, 5, none⟩ (.slice a' (n + 1) c')).heap[b]? = w3.heap[b]? := fun b hb => Below.heap_setCell _ _ _ _ hb
  have hsame : ∀ b o, B3 ≤ b → some b ≠ lv.ownBlock → w2.heap[b]? = some o → (w3.setCell ⟨O, 5, none⟩ (.slice a' (n + 1) c')).heap[b]? = some o := by
    intro b o hb hne hob
    have hbl := (Array.getElem?_eq_some_iff.1 hob).1
    rw [hset b (by omega), hg3.block b (by simp; omega) hne]
    exact ((Ext.refl w2).alloc _).block hob
  have hnew : ∀ b, b < W.heap.size → some b ≠ lv.ownBlock → some b ≠ (Value.slice a' (n + 1) c').ownBlock := by
    intro b hb hne
    rcases hat with rfl | rfl
    · intro e
      apply hne
      cases hlv : lv.ownBlock with
      | none => rw [hlv] at e; simp [Value.ownBlock] at e
      | some q => rw [hlv] at e; simpa [Value.ownBlock] using e
    · simp [Value.ownBlock]; omega
  refine ⟨?_, (setCell_heap hout3 5 _).trans rfl, hO, hOB, ownsRow_setCell_below hown3 hOB _, ?_, by simp at hs3 ⊢; omega⟩
  · refine Below.setCell (h.below.trans ⟨?_, ?_, ?_, ?_, fun i hi => ?_⟩) (by simp; omega) _
    · exact hg3.os.trans (((Ext.refl w2).alloc _).os.trans hE.os)
    · exact hg3.tape.trans (((Ext.refl w2).alloc _).tape.trans hE.tape)
    · exact hg3.output.trans (((Ext.refl w2).alloc _).output.trans hE.output)
    · simp at hs3; omega
    · rw [hg3.block i (by simp; omega) (hnb i (by omega))]
      exact (Below.block ((Ext.refl w2).alloc _) i (by omega)).trans (Below.block hE i (by omega))
  · refine (h.row.mono (fun b o hb hob => hsame b o hb.1 hb.2 (hE.block hob)) (fun b hb hbl => ⟨hb.1, hnew b hbl hb.2⟩)).append (RowGV.one (hT.mono (fun b o hb hob => hsame b o (by omega) (fun e => by have := hlt b e.symm; omega) hob) (fun b hb hbl => ⟨by omega, ?_⟩)))
    rcases hat with rfl | rfl
    · intro e
      cases hlv : lv.ownBlock with
      | none => rw [hlv] at e; simp [Value.ownBlock] at e
      | some q =>
        rw [hlv] at e
        have := hlt q hlv
        simp [Value.ownBlock] at e; omega
    · simp [Value.ownBlock]; omega
end

theorem OSt.fin {w0 W : World} {O B3 n vc : Nat} {kd : Int} {kv : Value} {xs : List Value} {gs : List GV} {va : Option Addr} {keys : List ByteArray} (h : OSt w0 W O B3 kd kv (.slice va n vc) n xs gs) (hk : (Lit.int .i64 kd).wf = true)
    (hks : RepStrs (fun b => w0.heap.size < b) W kv keys) (hsz : gs.length * 88 ≤ 140737488351232) (WF : World) (hWF : WF = set6 W w0.heap.size (.int .i64 kd) (.int .i64 0) (.float .f64 0) (.string ⟨#[]⟩) kv (.slice va n vc)) :
    WF.heap[w0.heap.size]? = some (.cells #[.int .i64 kd, .int .i64 0, .float .f64 0, .string ⟨#[]⟩, kv, .slice va n vc] 32) ∧
    RepGV (fun b => w0.heap.size ≤ b) WF (.mk kd 0 0 ByteArray.empty keys gs) [.int .i64 kd, .int .i64 0, .float .f64 0, .string ⟨#[]⟩, kv, .slice va n vc] ∧ Ext w0 WF := by
  subst hWF
  have hO := h.hO
  have hOB := h.hOB
  refine ⟨set6_heap h.res _ _ _ _ _ _, ?_, set6_below h.ext0 (by omega) _ _ _ _ _ _⟩
  have hs : ∀ S : Nat → Prop, (∀ b, S b → w0.heap.size < b) → Same S W (set6 W w0.heap.size (.int .i64 kd) (.int .i64 0) (.float .f64 0) (.string ⟨#[]⟩) kv (.slice va n vc)) := fun S hS b o hb ho => (set6_other (by have := hS b hb; omega) _ _ _ _ _ _).trans ho
  obtain ⟨hn, hle', lb', ha', hcs', hl'⟩ := vals_of_row (S := fun b => w0.heap.size < b) h.own (h.row.mono (Same.refl _ _) (fun b hb _ => by omega)) (fun b hb => by omega)
  have hv : RepVals (fun b => w0.heap.size < b) W (.slice va n vc) gs := ⟨va, lb', 0, vc, by rw [hn], hle', hsz, ha', hcs', hl'⟩
  exact repGV_of hk (by decide) (by decide) (by decide) (hks.mono (hs _ (fun b h => h)) (fun b hb _ => by omega)) (hv.mono (hs _ (fun b h => h)) (fun b hb _ => by omega))

def FromOK (t : Tree) : Prop := ∀ (S : Nat → Prop) w v, RepT S w t v → Calls Try.prog 101 #[v] w fun e w' => ∃ cs', e = .returned (.agg cs'.toArray) ∧ RepGV (fun b => w.heap.size ≤ b) w' (fromT t) cs' ∧ Ext w w'

set_option maxRecDepth 100000 in
set_option maxHeartbeats 2000000 in
theorem from_list (S : Nat → Prop) (l : List Tree) (la : Option Addr) (lb lo lc : Nat) (w : World) (hle : l.length ≤ lc) (hsz : l.length * 88 ≤ 140737488351232) (ha : 0 < l.length → la = some ⟨lb, lo, none⟩ ∧ S lb)
    (hc : ∀ i, i < l.length → ∃ v, w.cell? ⟨lb, lo + i, none⟩ = some v) (hl : ∀ (i : Nat) (t : Tree) (v : Value), l[i]? = some t → w.cell? ⟨lb, lo + i, none⟩ = some v → RepT S w t v) (ih : ∀ (i : Nat) (t : Tree), l[i]? = some t → FromOK t) :
    Calls Try.prog 101 #[.iface 82 (.slice la l.length lc)] w fun e w' => ∃ cs', e = .returned (.agg cs'.toArray) ∧ RepGV (fun b => w.heap.size ≤ b) w' (fromT (.list l)) cs' ∧ Ext w w' := by
  obtain ⟨i0, hi, hz0, hz1, hz2⟩ := info_parts info_val
  have HC := hid hc
  have HL := hid hl
  have HI := hid ih
  clear hc hl ih
  go_enter Try.func101, Try.ntmps101
  go_wp2_with fail
  go_loopg [43] l.length (fun gk i wr => ∃ (k : Nat) (lv : Value) (xs : List Value), i = .int .i64 k ∧ k ≤ l.length ∧ gk + k = l.length ∧ OSt w wr (w.heap.size + 1) (w.heap.size + 2) 5 (.slice none 0 0) lv k xs ((fromTs l).take k))
  case atStart =>
    refine ⟨0, .slice none 0 0, [], rfl, Nat.zero_le _, by omega, ⟨?_, ?_, by omega, by omega, World.ownsRow_nil _ _ _ _, by simpa using RowGV.nil _ _, by simp⟩⟩
    · exact ((Ext.refl _).alloc _).mono (by simp)
    · have := heap_alloc_new (w.alloc (.cells #[.int .i64 0, .int .i64 0, .float .f64 0, .string ⟨#[]⟩, .slice none 0 0, .slice none 0 0] 32)) (.cells #[.int .i64 5, .int .i64 0, .float .f64 0, .string ⟨#[]⟩, .slice none 0 0, .slice none 0 0] 32)
      simpa using this
  case round =>
    obtain ⟨k, lv, xs, rfl, hk, hgk, hO⟩ := hrel
    by_cases hlt : k < l.length
    · have ha2 := (ha (by omega)).1
      subst ha2
      obtain ⟨v, hv⟩ := HC.out k hlt
      obtain ⟨t, ht⟩ : ∃ t, l[k]? = some t := ⟨_, List.getElem?_eq_getElem hlt⟩
      have hv' := hO.ext0.cellS hv
      have HT := hid ((HL.out k t v ht hv).ext hO.ext0)
      have HP := hid (HI.out k t ht)
      have HG := hid ht
      have HGK := hid hgk
      obtain ⟨⟨o0, o1, o2, o3, o4, o5⟩, p0, p1, p2, p3, p4, p5⟩ := slot6 hO.out
      obtain ⟨⟨q0, q1, q2, q3, q4, q5⟩, y0, y1, y2, y3, y4, y5⟩ := slot6 hO.res
      obtain ⟨va, vc, rfl⟩ := own_form hO.own
      have HO := hid hO
      have hform := HT.out.form
      clear hv ht hgk hO
      rcases hform with rfl | ⟨ty, vv, rfl⟩
      all_goals
        go_upto_region 22 with fail
        go_region_law (first | (refine step_call _ rfl 101 [.tmp 49] #[20] rfl (by kernel_rfl) [_] rfl (HP.out _ _ _ (HT.out.ext (Ext.refl _).drew)) ?_; rintro e w2 ⟨cs2, rfl, hT2, hE2⟩; obtain ⟨k2, n2, f2, s2, a3, b3, c3, a4, b4, c4, rfl⟩ := hT2.form; refine ⟨_, rfl, ?_⟩; have HT2 := hid hT2; have HE2 := hid ((Ext.refl wr).drew.trans hE2); have hb2 : w.heap.size + 2 ≤ w2.heap.size := Nat.le_trans HO.out.hB hE2.size; have hout2 := hE2.block HO.out.out; obtain ⟨⟨r0, r1, r2, r3, r4, r5⟩, z0, z1, z2, z3, z4, z5⟩ := slot6 hout2; have r5' := fun o => ((Ext.refl w2).alloc o).cellS r5; clear hT2 hE2 hout2) | (refine step_append_src _ rfl (.tmp 48) (.tmp 51) 27 rfl (w.heap.size + 2) 32 i0 _ 6 88 Try.underlying27 hi hz0 hz1 hz2 rfl (by decide) (.slice va k vc) k xs rfl ((ownsRow_ext HO.out.own HE2.out).alloc _) _ 1 1 [.int .i64 k2, .int .i64 n2, .float .f64 f2, .string s2, .slice a3 b3 c3, .slice a4 b4 c4] rfl rfl (src_block _ _ _ _) (rep_oneCell HT2.out) (by unfold maxLen; omega) (by omega) (by simp; omega) ?_; intro a5 c5 w3 hown3 hg3 hat; have hout3 := OSt.out3 HO.out HE2.out hg3; obtain ⟨⟨s0, s1, s2', s3, s4, s5⟩, t0, t1, t2, t3, t4, t5⟩ := slot6 hout3; have HOWN3 := hid hown3; have HG3 := hid hg3; have HAT := hid hat; clear hown3 hg3 hat hout3))
        all_goals
          go_wp2_with fail
          go_roundg (gk - 1)
          case measure => have := HGK.out; omega
          case rel =>
            refine ⟨k + 1, .slice a5 (k + 1) c5, xs ++ [.int .i64 k2, .int .i64 n2, .float .f64 f2, .string s2, .slice a3 b3 c3, .slice a4 b4 c4], by go_num, by omega, by have := HGK.out; omega, ?_⟩
            have e : (fromTs l).take (k + 1) = (fromTs l).take k ++ [fromT t] := by
              rw [List.take_add_one, fromTs_eq, List.getElem?_map, HG.out]; rfl
            rw [e]
            exact OSt.step HO.out HE2.out (HT2.out.weak (fun b hb _ => by simpa using hb)) HOWN3.out HG3.out (by simpa using HAT.out)
    · obtain rfl : k = l.length := by omega
      have hout := hO.out
      obtain ⟨⟨o0, o1, o2, o3, o4, o5⟩, p0, p1, p2, p3, p4, p5⟩ := slot6 hout
      obtain ⟨⟨q0, q1, q2, q3, q4, q5⟩, y0, y1, y2, y3, y4, y5⟩ := slot6 hO.res
      obtain ⟨va, vc, rfl⟩ := own_form hO.own
      have HO := hid hO
      clear hO hout
      go_wp2_with fail
      have FIN := fun WF e => OSt.fin HO.out (by decide) (RepStrs.nil _ _) (by rw [List.length_take, fromTs_length]; omega) WF e
      change bodyPost _ _ _ _ _ (set6 wr w.heap.size (.int .i64 5) (.int .i64 0) (.float .f64 0) (.string ⟨#[]⟩) (.slice none 0 0) (.slice va l.length vc))
      obtain ⟨e6, hr6, x6⟩ := FIN _ rfl
      generalize set6 wr w.heap.size (.int .i64 5) (.int .i64 0) (.float .f64 0) (.string ⟨#[]⟩) (.slice none 0 0) (.slice va l.length vc) = WF at *
      obtain ⟨⟨y0, y1, y2, y3, y4, y5⟩, _⟩ := slot6 e6
      refine bodyPost_ret (v := .agg #[.int .i64 5, .int .i64 0, .float .f64 0, .string ⟨#[]⟩, .slice none 0 0, .slice va l.length vc]) (by simp [results, Try.results101, go_sem, y0, y1, y2, y3, y4, y5]) rfl ?_
      rw [List.take_of_length_le (by rw [fromTs_length]; omega)] at hr6
      rw [show fromT (.list l) = .mk 5 0 0 ByteArray.empty [] (fromTs l) by rw [fromT]]
      exact ⟨_, rfl, hr6, x6⟩

theorem lookKV_at {m : List (ByteArray × Tree)} {ss : List ByteArray} (hp : ss.Perm (m.map (·.1))) {k : Nat} {key : ByteArray} (hk : ss[k]? = some key) : ∃ t, lookKV m key = some t ∧ (key, t) ∈ m :=
  lookKV_some (hp.mem_iff.1 (List.mem_of_getElem? hk))
theorem zero_any (w : World) : (zeroValue 20).run Try.prog w = .ok .nilIface w := by kernel_rfl
theorem look_at {S : Nat → Prop} {w : World} {m : List (ByteArray × Tree)} {r : Nat} (h : RepM S w m r) {key : ByteArray} {t : Tree} (ht : lookKV m key = some t) :
    ∃ v, RepT S w t v ∧ (Instr.lookup 159 (.map (some r)) (.string key) false).run Try.prog w = .ok v w := by
  rcases RepM.look Try.underlying159 Try.underlying9 (zero_any w) h key with ⟨h1, _⟩ | ⟨t', v, h1, h2, h3, h4⟩
  · rw [ht] at h1; cases h1
  · rw [ht] at h1; cases h1
    exact ⟨v, h2, h4⟩

set_option maxRecDepth 100000 in
set_option maxHeartbeats 4000000 in
theorem from_map (S : Nat → Prop) (m : List (ByteArray × Tree)) (r : Nat) (w : World) (hM : RepM S w m r) (hks : ∀ p ∈ m, p.1.size ≤ 140737488351232) (ih : ∀ k t, (k, t) ∈ m → FromOK t) :
    Calls Try.prog 101 #[.iface 159 (.map (some r))] w fun e w' => ∃ cs', e = .returned (.agg cs'.toArray) ∧ RepGV (fun b => w.heap.size ≤ b) w' (fromT (.map m)) cs' ∧ Ext w w' := by
  obtain ⟨i0, hi, hz0, hz1, hz2⟩ := info_parts info_val
  have hroom := hM.room
  have HND := hid hM.nodup
  have HM := hid hM
  have HI := hid ih
  have HKS := hid hks
  have bx := hid (boxes2 w (.cells #[.int .i64 0, .int .i64 0, .float .f64 0, .string ⟨#[]⟩, .slice none 0 0, .slice none 0 0] 32) (.cells #[.int .i64 6, .int .i64 0, .float .f64 0, .string ⟨#[]⟩, .slice none 0 0, .slice none 0 0] 32))
  clear hM ih hks
  go_enter Try.func101, Try.ntmps101
  go_wp2_with (go_at_call 122; refine (sortedKeys_any S m r _ (HM.out.ext (((Ext.refl _).alloc _).alloc _))).mono ?_; rintro e w2 ⟨kv, ss, rfl, hs, hp, hown, hE⟩; obtain ⟨ka, kc, rfl⟩ := own_form hown; obtain ⟨x1, x2, hE2⟩ := bx.out w2 (Below.mono hE (by simp)); obtain ⟨⟨o0, o1, o2, o3, o4, o5⟩, p0, p1, p2, p3, p4, p5⟩ := slot6 x2; have HE := hid hE; have HX1 := hid x1; have HX2 := hid x2; have HSS := hid (⟨hs, hp⟩ : SortedK ss ∧ ss.Perm (m.map (·.1))); have HOWN := hid hown; clear hE x1 x2 hs hp hown)
  have hOlt : w.heap.size + 1 < w2.heap.size := (Array.getElem?_eq_some_iff.1 HX2.out).1
  have hlen : ss.length = m.length := by simpa using HSS.out.2.length_eq
  have HLEN := hid hlen
  have hst : OSt w (w2.setCell ⟨w.heap.size + 1, 4, none⟩ (.slice ka ss.length kc)) (w.heap.size + 1) w2.heap.size 6 (.slice ka ss.length kc) (.slice none 0 0) 0 [] [] := by
    refine ⟨?_, (setCell_heap HX2.out 4 _).trans rfl, by omega, hOlt, World.ownsRow_nil _ _ _ _, RowGV.nil _ _, by simp⟩
    exact (((Ext.refl (w.alloc _)).alloc _).mono (by simp) |>.trans (HE.out.mono (by simp))).setCell (by simp) _
  have hkst : RepStrs (fun b => w.heap.size + 1 < b ∧ b < w2.heap.size) (w2.setCell ⟨w.heap.size + 1, 4, none⟩ (.slice ka ss.length kc)) (.slice ka ss.length kc) ss := by
    have h1 := strs_of_row (S := fun b => w.heap.size + 1 < b) HOWN.out (fun b hb => by simp at hb; omega) (by omega) (fun s hs => by
      obtain ⟨p, hp, rfl⟩ := List.mem_map.1 (HSS.out.2.mem_iff.1 hs)
      exact HKS.out p hp)
    exact h1.mono (fun b o hb ho => (Below.heap_setCell _ _ _ _ (by show b ≠ w.heap.size + 1; omega)).trans ho) (fun b hb hl => ⟨hb, hl⟩)
  have HST := hid hst
  have HKST := hid hkst
  have HVAL := hid (fun k key (hk : ss[k]? = some key) => lookKV_at HSS.out.2 hk)
  clear hst hkst hlen
  go_loopg [66] ss.length (fun gk i wr => ∃ (k : Nat) (lv : Value) (xs : List Value), i = .int .i64 k ∧ k ≤ ss.length ∧ gk + k = ss.length ∧ OSt w wr (w.heap.size + 1) w2.heap.size 6 (.slice ka ss.length kc) lv k xs ((ss.map (lookG (fromTm m))).take k) ∧ Hid (RepStrs (fun b => w.heap.size + 1 < b ∧ b < w2.heap.size) wr (.slice ka ss.length kc) ss))
  case atStart => exact ⟨0, .slice none 0 0, [], rfl, Nat.zero_le _, by omega, HST.out, HKST⟩
  case round =>
    obtain ⟨k, lv, xs, rfl, hk, hgk, hO, HK⟩ := hrel
    by_cases hlt : k < ss.length
    · obtain ⟨ka', kb, ko, kc', hkv, hkle, hksz, hka, hkc, hkl⟩ := HK.out
      simp only [Value.slice.injEq, true_and] at hkv
      obtain ⟨rfl, rfl⟩ := hkv
      have ha2 := (hka (by omega)).1
      subst ha2
      obtain ⟨key, hkey⟩ : ∃ key, ss[k]? = some key := ⟨_, List.getElem?_eq_getElem hlt⟩
      have hkcell := hkc k key hkey
      obtain ⟨t, ht, hmem⟩ := HVAL.out k key hkey
      obtain ⟨v, hv, hlk⟩ := look_at ((HM.out.ext hO.ext0).ext (Ext.refl wr).drew) ht
      have HT := hid hv
      have HP := hid (HI.out key t hmem)
      have HLT := hid ht
      have HKEY := hid hkey
      have HGK := hid hgk
      obtain ⟨⟨o0, o1, o2, o3, o4, o5⟩, p0, p1, p2, p3, p4, p5⟩ := slot6 hO.out
      obtain ⟨⟨q0, q1, q2, q3, q4, q5⟩, y0, y1, y2, y3, y4, y5⟩ := slot6 hO.res
      obtain ⟨va, vc, rfl⟩ := own_form hO.own
      have HO := hid hO
      have hform := hv.form
      clear hv ht hgk hO hkey hmem hkc hkl hka
      have hks8 : k < m.length := by have := HLEN.out; omega
      rcases hform with rfl | ⟨ty, vv, rfl⟩
      all_goals
        go_upto_region 32 with fail
        go_region_law (first | (refine step_call _ rfl 101 [.tmp 74] #[20] rfl (by kernel_rfl) [_] rfl (HP.out _ _ _ HT.out) ?_; rintro e w4 ⟨cs2, rfl, hT2, hE2⟩; obtain ⟨k2, n2, f2, s2, a3, b3, c3, a4, b4, c4, rfl⟩ := hT2.form; refine ⟨_, rfl, ?_⟩; have HT2 := hid hT2; have HE2 := hid ((Ext.refl wr).drew.trans hE2); have hb2 : w2.heap.size ≤ w4.heap.size := Nat.le_trans HO.out.hB hE2.size; have hout2 := hE2.block HO.out.out; obtain ⟨⟨r0, r1, r2, r3, r4, r5⟩, z0, z1, z2, z3, z4, z5⟩ := slot6 hout2; have r5' := fun o => ((Ext.refl w4).alloc o).cellS r5; clear hT2 hE2 hout2) | (refine step_append_src _ rfl (.tmp 71) (.tmp 76) 27 rfl w2.heap.size 32 i0 _ 6 88 Try.underlying27 hi hz0 hz1 hz2 rfl (by decide) (.slice va k vc) k xs rfl ((ownsRow_ext HO.out.own HE2.out).alloc _) _ 1 1 [.int .i64 k2, .int .i64 n2, .float .f64 f2, .string s2, .slice a3 b3 c3, .slice a4 b4 c4] rfl rfl (src_block _ _ _ _) (rep_oneCell HT2.out) (by unfold maxLen; omega) (by omega) (by simp; omega) ?_; intro a5 c5 w3 hown3 hg3 hat; have hout3 := OSt.out3 HO.out HE2.out hg3; obtain ⟨⟨s0, s1, s2', s3, s4, s5⟩, t0, t1, t2, t3, t4, t5⟩ := slot6 hout3; have HOWN3 := hid hown3; have HG3 := hid hg3; have HAT := hid hat; clear hown3 hg3 hat hout3))
        all_goals
          go_wp2_with fail
          go_roundg (gk - 1)
          case measure => have := HGK.out; omega
          case rel =>
            refine ⟨k + 1, .slice a5 (k + 1) c5, xs ++ [.int .i64 k2, .int .i64 n2, .float .f64 f2, .string s2, .slice a3 b3 c3, .slice a4 b4 c4], by go_num, by omega, by have := HGK.out; omega, ?_, hid ?_⟩
            · have e : (ss.map (lookG (fromTm m))).take (k + 1) = (ss.map (lookG (fromTm m))).take k ++ [fromT t] := by
                rw [List.take_add_one, List.getElem?_map, HKEY.out]
                simp [lookG_fromTm, HLT.out]
              rw [e]
              exact OSt.step HO.out HE2.out (HT2.out.weak (fun b hb _ => by simpa using hb)) HOWN3.out HG3.out (by simpa using HAT.out)
            · exact HK.out.mono ((OSt.same HO.out HE2.out HG3.out _).weak (fun b hb => ⟨by omega, hb.2⟩)) (fun b hb _ => hb)
    · obtain rfl : k = ss.length := by omega
      obtain ⟨⟨o0, o1, o2, o3, o4, o5⟩, p0, p1, p2, p3, p4, p5⟩ := slot6 hO.out
      obtain ⟨⟨q0, q1, q2, q3, q4, q5⟩, y0, y1, y2, y3, y4, y5⟩ := slot6 hO.res
      obtain ⟨va, vc, rfl⟩ := own_form hO.own
      have HO := hid hO
      clear hO
      go_wp2_with fail
      change bodyPost _ _ _ _ _ (set6 wr w.heap.size (.int .i64 6) (.int .i64 0) (.float .f64 0) (.string ⟨#[]⟩) (.slice ka ss.length kc) (.slice va ss.length vc))
      obtain ⟨e6, hr6, x6⟩ := OSt.fin HO.out (by decide) (HK.out.weak (fun b hb _ => by omega)) (by have := HLEN.out; rw [List.length_take, List.length_map]; omega) _ rfl
      generalize set6 wr w.heap.size (.int .i64 6) (.int .i64 0) (.float .f64 0) (.string ⟨#[]⟩) (.slice ka ss.length kc) (.slice va ss.length vc) = WF at *
      obtain ⟨⟨y0, y1, y2, y3, y4, y5⟩, _⟩ := slot6 e6
      refine bodyPost_ret (v := .agg #[.int .i64 6, .int .i64 0, .float .f64 0, .string ⟨#[]⟩, .slice ka ss.length kc, .slice va ss.length vc]) (by simp [results, Try.results101, go_sem, y0, y1, y2, y3, y4, y5]) rfl ?_
      rw [List.take_of_length_le (by simp)] at hr6
      rw [show fromT (.map m) = .mk 6 0 0 ByteArray.empty ss (ss.map (lookG (fromTm m))) by rw [fromT, ← sortN_eq HND.out HSS.out.1 HSS.out.2]]
      exact ⟨_, rfl, hr6, x6⟩

theorem RepT.keys {S : Nat → Prop} {w : World} {m : List (ByteArray × Tree)} {v : Value} (h : RepT S w (.map m) v) : ∀ p ∈ m, p.1.size ≤ 140737488351232 := by
  cases h with
  | map hr hS hk hsz hks hnd hb hcl hv => exact hks
theorem from_any : ∀ (N : Nat) (t : Tree), SizeOf.sizeOf t ≤ N → FromOK t := by
  intro N
  induction N with
  | zero => intro t h; cases t <;> simp at h
  | succ N ih =>
    intro t hN S w v hT
    cases hT with
    | null => exact (from_null w).mono fun e w' ⟨he, hE⟩ => ⟨[_, _, _, _, _, _], he, repGV_of (by decide) (by decide) (by decide) (by decide) (RepStrs.nil _ _) (RepVals.nil _ _), hE⟩
    | bool b =>
      cases b
      · exact (from_false w).mono fun e w' ⟨he, hE⟩ => ⟨[_, _, _, _, _, _], he, repGV_of (by decide) (by decide) (by decide) (by decide) (RepStrs.nil _ _) (RepVals.nil _ _), hE⟩
      · exact (from_true w).mono fun e w' ⟨he, hE⟩ => ⟨[_, _, _, _, _, _], he, repGV_of (by decide) (by decide) (by decide) (by decide) (RepStrs.nil _ _) (RepVals.nil _ _), hE⟩
    | int n hn => exact (from_int n w).mono fun e w' ⟨he, hE⟩ => ⟨[_, _, _, _, _, _], he, repGV_of (by decide) hn (by decide) (by decide) (RepStrs.nil _ _) (RepVals.nil _ _), hE⟩
    | flt f hf => exact (from_flt f w).mono fun e w' ⟨he, hE⟩ => ⟨[_, _, _, _, _, _], he, repGV_of (by decide) (by decide) hf (by decide) (RepStrs.nil _ _) (RepVals.nil _ _), hE⟩
    | str s hs => exact (from_str s w).mono fun e w' ⟨he, hE⟩ => ⟨[_, _, _, _, _, _], he, repGV_of (by decide) (by decide) (by decide) hs (RepStrs.nil _ _) (RepVals.nil _ _), hE⟩
    | list hle hsz ha hc hl =>
      exact from_list S _ _ _ _ _ w hle hsz ha hc hl (fun i t ht => ih t (by have := Tree.size_list ht; omega))
    | @map m r es clock hr hS hk hsz hks hnd hb hcl hv =>
      exact from_map S m r w ⟨_, _, hr, hk, hsz, hks, hnd, hb, hcl, hv⟩ hks (fun k t ht => ih t (by have := Tree.size_map ht; omega))
theorem fromTree_any (t : Tree) : FromOK t := from_any _ t (Nat.le_refl _)
end Go.Proofs.Ytempfaefopfobaa
