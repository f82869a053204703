/- From: impl.fromTree: a tree of the package's as a value. -/
import Derived.Test.YtempfaefopfobaaGreatFromT
import Derived.Test.YtempfaefopfobaaGreatStep

namespace Go.Proofs.YtempfaefopfobaaGreat
open Go.ChangeShapes Go.WideShapes Go.ChangeAt Go.RowKit
set_option linter.unusedVariables false
set_option linter.unusedSimpArgs false

/-- type switches on what a tree holds -/
@[go_sem] theorem tsw_0_0 (v : Value) (w : World) : (Instr.typeAssert (.iface 4 v) 20 4 true).run Tryz.prog w = .ok (.tuple #[v, .bool true]) w := by kernel_rfl
@[go_sem] theorem tsw_1_0 (v : Value) (w : World) : (Instr.typeAssert (.iface 2 v) 20 4 true).run Tryz.prog w = .ok (.tuple #[.bool false, .bool false]) w := by kernel_rfl
@[go_sem] theorem tsw_1_1 (v : Value) (w : World) : (Instr.typeAssert (.iface 2 v) 20 2 true).run Tryz.prog w = .ok (.tuple #[v, .bool true]) w := by kernel_rfl
@[go_sem] theorem tsw_2_0 (v : Value) (w : World) : (Instr.typeAssert (.iface 22 v) 20 4 true).run Tryz.prog w = .ok (.tuple #[.bool false, .bool false]) w := by kernel_rfl
@[go_sem] theorem tsw_2_1 (v : Value) (w : World) : (Instr.typeAssert (.iface 22 v) 20 2 true).run Tryz.prog w = .ok (.tuple #[.int .i64 0, .bool false]) w := by kernel_rfl
@[go_sem] theorem tsw_2_2 (v : Value) (w : World) : (Instr.typeAssert (.iface 22 v) 20 22 true).run Tryz.prog w = .ok (.tuple #[v, .bool true]) w := by kernel_rfl
@[go_sem] theorem tsw_3_0 (v : Value) (w : World) : (Instr.typeAssert (.iface 9 v) 20 4 true).run Tryz.prog w = .ok (.tuple #[.bool false, .bool false]) w := by kernel_rfl
@[go_sem] theorem tsw_3_1 (v : Value) (w : World) : (Instr.typeAssert (.iface 9 v) 20 2 true).run Tryz.prog w = .ok (.tuple #[.int .i64 0, .bool false]) w := by kernel_rfl
@[go_sem] theorem tsw_3_2 (v : Value) (w : World) : (Instr.typeAssert (.iface 9 v) 20 22 true).run Tryz.prog w = .ok (.tuple #[.float .f64 0, .bool false]) w := by kernel_rfl
@[go_sem] theorem tsw_3_3 (v : Value) (w : World) : (Instr.typeAssert (.iface 9 v) 20 9 true).run Tryz.prog w = .ok (.tuple #[v, .bool true]) w := by kernel_rfl
@[go_sem] theorem tsw_4_0 (v : Value) (w : World) : (Instr.typeAssert (.iface 77 v) 20 4 true).run Tryz.prog w = .ok (.tuple #[.bool false, .bool false]) w := by kernel_rfl
@[go_sem] theorem tsw_4_1 (v : Value) (w : World) : (Instr.typeAssert (.iface 77 v) 20 2 true).run Tryz.prog w = .ok (.tuple #[.int .i64 0, .bool false]) w := by kernel_rfl
@[go_sem] theorem tsw_4_2 (v : Value) (w : World) : (Instr.typeAssert (.iface 77 v) 20 22 true).run Tryz.prog w = .ok (.tuple #[.float .f64 0, .bool false]) w := by kernel_rfl
@[go_sem] theorem tsw_4_3 (v : Value) (w : World) : (Instr.typeAssert (.iface 77 v) 20 9 true).run Tryz.prog w = .ok (.tuple #[.string ⟨#[]⟩, .bool false]) w := by kernel_rfl
@[go_sem] theorem tsw_4_4 (v : Value) (w : World) : (Instr.typeAssert (.iface 77 v) 20 77 true).run Tryz.prog w = .ok (.tuple #[v, .bool true]) w := by kernel_rfl
@[go_sem] theorem tsw_5_0 (v : Value) (w : World) : (Instr.typeAssert (.iface 78 v) 20 4 true).run Tryz.prog w = .ok (.tuple #[.bool false, .bool false]) w := by kernel_rfl
@[go_sem] theorem tsw_5_1 (v : Value) (w : World) : (Instr.typeAssert (.iface 78 v) 20 2 true).run Tryz.prog w = .ok (.tuple #[.int .i64 0, .bool false]) w := by kernel_rfl
@[go_sem] theorem tsw_5_2 (v : Value) (w : World) : (Instr.typeAssert (.iface 78 v) 20 22 true).run Tryz.prog w = .ok (.tuple #[.float .f64 0, .bool false]) w := by kernel_rfl
@[go_sem] theorem tsw_5_3 (v : Value) (w : World) : (Instr.typeAssert (.iface 78 v) 20 9 true).run Tryz.prog w = .ok (.tuple #[.string ⟨#[]⟩, .bool false]) w := by kernel_rfl
@[go_sem] theorem tsw_5_4 (v : Value) (w : World) : (Instr.typeAssert (.iface 78 v) 20 77 true).run Tryz.prog w = .ok (.tuple #[.slice none 0 0, .bool false]) w := by kernel_rfl
@[go_sem] theorem tsw_5_5 (v : Value) (w : World) : (Instr.typeAssert (.iface 78 v) 20 78 true).run Tryz.prog w = .ok (.tuple #[v, .bool true]) w := by kernel_rfl
@[go_sem] theorem tsw_n_0 (w : World) : (Instr.typeAssert .nilIface 20 4 true).run Tryz.prog w = .ok (.tuple #[.bool false, .bool false]) w := by kernel_rfl
@[go_sem] theorem tsw_n_1 (w : World) : (Instr.typeAssert .nilIface 20 2 true).run Tryz.prog w = .ok (.tuple #[.int .i64 0, .bool false]) w := by kernel_rfl
@[go_sem] theorem tsw_n_2 (w : World) : (Instr.typeAssert .nilIface 20 22 true).run Tryz.prog w = .ok (.tuple #[.float .f64 0, .bool false]) w := by kernel_rfl
@[go_sem] theorem tsw_n_3 (w : World) : (Instr.typeAssert .nilIface 20 9 true).run Tryz.prog w = .ok (.tuple #[.string ⟨#[]⟩, .bool false]) w := by kernel_rfl
@[go_sem] theorem tsw_n_4 (w : World) : (Instr.typeAssert .nilIface 20 77 true).run Tryz.prog w = .ok (.tuple #[.slice none 0 0, .bool false]) w := by kernel_rfl
@[go_sem] theorem tsw_n_5 (w : World) : (Instr.typeAssert .nilIface 20 78 true).run Tryz.prog w = .ok (.tuple #[.map none, .bool false]) w := by kernel_rfl

/-- out, a value under way: its items are a row of the call's own. -/
structure OSt (w0 W : World) (O B3 : Nat) (kd : Int) (kv lv : Value) (n : Nat) (xs : List Value) (gs : List GV) : Prop where
  below : Below (w0.heap.size + 1) (w0.alloc (.cells #[.int .i64 0, .int .i64 0, .float .f64 0, .string ⟨#[]⟩, .slice none 0 0, .slice none 0 0] 26)) W
  out : W.heap[O]? = some (.cells #[.int .i64 kd, .int .i64 0, .float .f64 0, .string ⟨#[]⟩, kv, lv] 26)
  hO : w0.heap.size < O
  hOB : O < B3
  own : W.ownsRow B3 26 6 lv n xs
  row : RowGV (fun b => B3 ≤ b ∧ some b ≠ lv.ownBlock) W xs gs
  hB : B3 ≤ W.heap.size
section
variable {w0 W w2 w3 : World} {O B3 n c' : Nat} {kd : Int} {kv lv : Value} {xs cs : List Value} {gs : List GV} {g : GV} {a' : Option Addr}
theorem own_lt {w : World} {base : Nat} {e : TypeId} {size : Nat} {v : Value} {n : Nat} {xs : List Value} (h : w.ownsRow base e size v n xs) : ∀ g, v.ownBlock = some g → g < w.heap.size := by
  intro g hg
  rcases h.2 with ⟨rfl, _⟩ | ⟨g', cap, cur, rfl, hb, hh, _⟩
  · cases hg
  · simp [Value.ownBlock] at hg; subst hg; exact (Array.getElem?_eq_some_iff.1 hh).1
theorem OSt.ext0 (h : OSt w0 W O B3 kd kv lv n xs gs) : Ext w0 W := ext_of_below h.below
theorem OSt.res (h : OSt w0 W O B3 kd kv lv n xs gs) : W.heap[w0.heap.size]? = some (.cells #[.int .i64 0, .int .i64 0, .float .f64 0, .string ⟨#[]⟩, .slice none 0 0, .slice none 0 0] 26) := (Below.block h.below _ (by omega)).trans (heap_alloc_new _ _)
theorem own_form {w : World} {base : Nat} {e : TypeId} {size : Nat} {v : Value} {n : Nat} {xs : List Value} (h : w.ownsRow base e size v n xs) : ∃ a c, v = .slice a n c := by
  rcases h.2 with ⟨rfl, rfl⟩ | ⟨g', cap, cur, rfl, _⟩ <;> exact ⟨_, _, rfl⟩
theorem OSt.out3 (h : OSt w0 W O B3 kd kv lv n xs gs) (hE : Ext W w2) {o : Obj} (hg3 : (w2.alloc o).grownBy w3 lv.ownBlock) : w3.heap[O]? = some (.cells #[.int .i64 kd, .int .i64 0, .float .f64 0, .string ⟨#[]⟩, kv, lv] 26) := by
  have hs2 := hE.size
  have hOB := h.hOB
  have hB := h.hB
  rw [hg3.block O (by simp; omega) (fun e => by have := own_ge h.own O e.symm; omega)]
  exact ((Ext.refl w2).alloc _).block (hE.block h.out)
theorem OSt.same (h : OSt w0 W O B3 kd kv lv n xs gs) (hE : Ext W w2) {o : Obj} (hg3 : (w2.alloc o).grownBy w3 lv.ownBlock) (v : Value) : Same (fun b => b ≠ O ∧ b < B3) W (w3.setCell ⟨O, 5, none⟩ v) := by
  intro b ob hb hob
  have hs2 := hE.size
  have hB := h.hB
  rw [Below.heap_setCell _ _ _ _ hb.1, hg3.block b (by simp; omega) (fun e => by have := own_ge h.own b e.symm; omega)]
  exact ((Ext.refl w2).alloc _).block (hE.block hob)
theorem OSt.step (h : OSt w0 W O B3 kd kv lv n xs gs) (hE : Ext W w2) (hT : RepGV (fun b => W.heap.size ≤ b) w2 g cs)
    (hown3 : w3.ownsRow B3 26 6 (.slice a' (n + 1) c') (n + 1) (xs ++ cs)) (hg3 : (w2.alloc (.cells cs.toArray 26)).grownBy w3 lv.ownBlock)
    (hat : a' = lv.ownBlock.map (fun g => ⟨g, 0, none⟩) ∨ a' = some ⟨w2.heap.size + 1, 0, none⟩) :
    OSt w0 (w3.setCell ⟨O, 5, none⟩ (.slice a' (n + 1) c')) O B3 kd kv (.slice a' (n + 1) c') (n + 1) (xs ++ cs) (gs ++ [g]) := by
  have hge := own_ge h.own
  have hlt := own_lt h.own
  have hs2 := hE.size
  have hs3 := hg3.size
  have hOB := h.hOB
  have hB := h.hB
  have hO := h.hO
  have hs0 := h.ext0.size
  have hnb : ∀ b, b < B3 → some b ≠ lv.ownBlock := fun b hb e => by have := hge b e.symm; omega
  have hout3 : w3.heap[O]? = some (.cells #[.int .i64 kd, .int .i64 0, .float .f64 0, .string ⟨#[]⟩, kv, lv] 26) := by
    rw [hg3.block O (by simp; omega) (hnb O hOB)]
    exact ((Ext.refl w2).alloc _).block (hE.block h.out)
  have hset : ∀ b, b ≠ O → (w3.setCell ⟨O, 5, none⟩ (.slice a' (n + 1) c')).heap[b]? = w3.heap[b]? := fun b hb => Below.heap_setCell _ _ _ _ hb
  have hsame : ∀ b o, B3 ≤ b → some b ≠ lv.ownBlock → w2.heap[b]? = some o → (w3.setCell ⟨O, 5, none⟩ (.slice a' (n + 1) c')).heap[b]? = some o := by
    intro b o hb hne hob
    have hbl := (Array.getElem?_eq_some_iff.1 hob).1
    rw [hset b (by omega), hg3.block b (by simp; omega) hne]
    exact ((Ext.refl w2).alloc _).block hob
  have hnew : ∀ b, b < W.heap.size → some b ≠ lv.ownBlock → some b ≠ (Value.slice a' (n + 1) c').ownBlock := by
    intro b hb hne
    rcases hat with rfl | rfl
    · intro e
      apply hne
      cases hlv : lv.ownBlock with
      | none => rw [hlv] at e; simp [Value.ownBlock] at e
      | some q => rw [hlv] at e; simpa [Value.ownBlock] using e
    · simp [Value.ownBlock]; omega
  refine ⟨?_, (setCell_heap hout3 5 _).trans rfl, hO, hOB, ownsRow_setCell_below hown3 hOB _, ?_, by simp at hs3 ⊢; omega⟩
  · refine Below.setCell (h.below.trans ⟨?_, ?_, ?_, ?_, fun i hi => ?_⟩) (by simp; omega) _
    · exact hg3.os.trans (((Ext.refl w2).alloc _).os.trans hE.os)
    · exact hg3.tape.trans (((Ext.refl w2).alloc _).tape.trans hE.tape)
    · exact hg3.output.trans (((Ext.refl w2).alloc _).output.trans hE.output)
    · simp at hs3; omega
    · rw [hg3.block i (by simp; omega) (hnb i (by omega))]
      exact (Below.block ((Ext.refl w2).alloc _) i (by omega)).trans (Below.block hE i (by omega))
  · refine (h.row.mono (fun b o hb hob => hsame b o hb.1 hb.2 (hE.block hob)) (fun b hb hbl => ⟨hb.1, hnew b hbl hb.2⟩)).append (RowGV.one (hT.mono (fun b o hb hob => hsame b o (by omega) (fun e => by have := hlt b e.symm; omega) hob) (fun b hb hbl => ⟨by omega, ?_⟩)))
    rcases hat with rfl | rfl
    · intro e
      cases hlv : lv.ownBlock with
      | none => rw [hlv] at e; simp [Value.ownBlock] at e
      | some q =>
        rw [hlv] at e
        have := hlt q hlv
        simp [Value.ownBlock] at e; omega
    · simp [Value.ownBlock]; omega
end

theorem OSt.fin {w0 W : World} {O B3 n vc : Nat} {kd : Int} {kv : Value} {xs : List Value} {gs : List GV} {va : Option Addr} {keys : List ByteArray} (h : OSt w0 W O B3 kd kv (.slice va n vc) n xs gs) (hk : (Lit.int .i64 kd).wf = true)
    (hks : RepStrs (fun b => w0.heap.size < b) W kv keys) (hsz : gs.length * 88 ≤ 140737488351232) (WF : World) (hWF : WF = set6 W w0.heap.size (.int .i64 kd) (.int .i64 0) (.float .f64 0) (.string ⟨#[]⟩) kv (.slice va n vc)) :
    WF.heap[w0.heap.size]? = some (.cells #[.int .i64 kd, .int .i64 0, .float .f64 0, .string ⟨#[]⟩, kv, .slice va n vc] 26) ∧
    RepGV (fun b => w0.heap.size ≤ b) WF (.mk kd 0 0 ByteArray.empty keys gs) [.int .i64 kd, .int .i64 0, .float .f64 0, .string ⟨#[]⟩, kv, .slice va n vc] ∧ Ext w0 WF := by
  subst hWF
  have hO := h.hO
  have hOB := h.hOB
  refine ⟨set6_heap h.res _ _ _ _ _ _, ?_, set6_below h.ext0 (by omega) _ _ _ _ _ _⟩
  have hs : ∀ S : Nat → Prop, (∀ b, S b → w0.heap.size < b) → Same S W (set6 W w0.heap.size (.int .i64 kd) (.int .i64 0) (.float .f64 0) (.string ⟨#[]⟩) kv (.slice va n vc)) := fun S hS b o hb ho => (set6_other (by have := hS b hb; omega) _ _ _ _ _ _).trans ho
  obtain ⟨hn, hle', lb', ha', hcs', hl'⟩ := vals_of_row (S := fun b => w0.heap.size < b) h.own (h.row.mono (Same.refl _ _) (fun b hb _ => by omega)) (fun b hb => by omega)
  have hv : RepVals (fun b => w0.heap.size < b) W (.slice va n vc) gs := ⟨va, lb', 0, vc, by rw [hn], hle', hsz, ha', hcs', hl'⟩
  exact repGV_of hk (by decide) (by decide) (by decide) (hks.mono (hs _ (fun b h => h)) (fun b hb _ => by omega)) (hv.mono (hs _ (fun b h => h)) (fun b hb _ => by omega))

theorem lookKV_at {m : List (ByteArray × Tree)} {ss : List ByteArray} (hp : ss.Perm (m.map (·.1))) {k : Nat} {key : ByteArray} (hk : ss[k]? = some key) : ∃ t, lookKV m key = some t ∧ (key, t) ∈ m :=
  lookKV_some (hp.mem_iff.1 (List.mem_of_getElem? hk))
theorem zero_any (w : World) : (zeroValue 20).run Tryz.prog w = .ok .nilIface w := by kernel_rfl
theorem look_at {S : Nat → Prop} {w : World} {m : List (ByteArray × Tree)} {r : Nat} (h : RepM S w m r) {key : ByteArray} {t : Tree} (ht : lookKV m key = some t) :
    ∃ v, RepT S w t v ∧ (Instr.lookup 78 (.map (some r)) (.string key) false).run Tryz.prog w = .ok v w := by
  rcases RepM.look Tryz.underlying78 Tryz.underlying9 (zero_any w) h key with ⟨h1, _⟩ | ⟨t', v, h1, h2, h3, h4⟩
  · rw [ht] at h1; cases h1
  · rw [ht] at h1; cases h1
    exact ⟨v, h2, h4⟩

theorem RepT.keys {S : Nat → Prop} {w : World} {m : List (ByteArray × Tree)} {v : Value} (h : RepT S w (.map m) v) : ∀ p ∈ m, p.1.size ≤ 140737488351232 := by
  cases h with
  | map hr hS hk hsz hks hnd hb hcl hv => exact hks
end Go.Proofs.YtempfaefopfobaaGreat
