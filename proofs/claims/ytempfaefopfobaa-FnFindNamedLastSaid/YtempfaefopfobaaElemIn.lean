/- ElemIn: path elements as they come in (impl.Elem); impl.toKeys, toElem. -/
import Derived.Test.YtempfaefopfobaaElRep
import Derived.Deep.AppendLies

set_option maxRecDepth 100000
namespace Go.Proofs.Ytempfaefopfobaa
open Go.ChangeShapes Go.WideShapes Go.ChangeAt Go.RowKit
set_option linter.unusedVariables false
set_option linter.unusedSimpArgs false

/-- what an append of one to a row of the call's own leaves: the values that were there, and those of what is new -/
theorem row_step {H : Nat} {e : TypeId} {sz n m g cap : Nat} {W w2 w3 : World} {v : Value} {xs ys : List Value} {o : Obj} (hH : H ≤ W.heap.size) (own : W.ownsRow H e sz v n xs) (hE : Ext W w2)
    (hown3 : w3.ownsRow H e sz (.slice (some ⟨g, 0, none⟩) m cap) m ys) (hg3 : (w2.alloc o).grownBy w3 v.ownBlock) (hat : v.ownBlock = some g ∨ g = w2.heap.size + 1) :
    Same (fun b => H ≤ b ∧ some b ≠ v.ownBlock) W w3 ∧ (∀ b, b < W.heap.size → some b ≠ v.ownBlock → b ≠ g) ∧ Same (fun b => W.heap.size ≤ b) w2 w3 ∧ (∀ b, W.heap.size ≤ b → b < w2.heap.size → b ≠ g) ∧ Below H W w3 ∧ W.heap.size ≤ w3.heap.size ∧ H ≤ g := by
  have hge := own_ge own
  have hlt := own_lt own
  have hs2 := hE.size
  have hs3 := hg3.size
  have hgb : H ≤ g := own_ge hown3 g rfl
  have key : ∀ b ob, some b ≠ v.ownBlock → w2.heap[b]? = some ob → w3.heap[b]? = some ob := fun b ob hne hob => by
    have hbl := (Array.getElem?_eq_some_iff.1 hob).1
    rw [hg3.block b (by simp; omega) hne]
    exact ((Ext.refl w2).alloc _).block hob
  refine ⟨fun b ob hb hob => key b ob hb.2 (hE.block hob), fun b hb hne e => ?_, fun b ob hb hob => key b ob (fun e => by have := hlt b e.symm; omega) hob, fun b hb hbl e => ?_, ⟨?_, ?_, ?_, ?_, fun i hi => ?_⟩, by simp at hs3; omega, hgb⟩
  · subst e
    rcases hat with h | h
    · exact hne h.symm
    · omega
  · subst e
    rcases hat with h | h
    · have := hlt b h; omega
    · omega
  · exact hg3.os.trans (((Ext.refl w2).alloc _).os.trans hE.os)
  · exact hg3.tape.trans (((Ext.refl w2).alloc _).tape.trans hE.tape)
  · exact hg3.output.trans (((Ext.refl w2).alloc _).output.trans hE.output)
  · simp at hs3; omega
  · rw [hg3.block i (by simp; omega) (fun e => by have := hge i e.symm; omega)]
    exact (Below.block ((Ext.refl w2).alloc _) i (by omega)).trans (Below.block hE i (by omega))

/-- cells that hold fields -/
def RowFs (S : Nat → Prop) (w : World) (xs : List Value) (fs : List (ByteArray × Tree)) : Prop :=
  xs.length = fs.length * 2 ∧ ∀ (i : Nat) (p : ByteArray × Tree), fs[i]? = some p → p.1.size ≤ 140737488351232 ∧ xs[i * 2]? = some (.string p.1) ∧ ∃ x, xs[i * 2 + 1]? = some x ∧ RepVal S w p.2 x
theorem RowFs.nil (S : Nat → Prop) (w : World) : RowFs S w [] [] := ⟨rfl, fun i g h => by simp at h⟩
theorem RowFs.mono {S S' : Nat → Prop} {w w' : World} {xs : List Value} {fs : List (ByteArray × Tree)} (h : RowFs S w xs fs) (hs : Same S w w') (hS : ∀ b, S b → b < w.heap.size → S' b) : RowFs S' w' xs fs :=
  ⟨h.1, fun i p hp => by obtain ⟨h1, h2, x, h3, h4⟩ := h.2 i p hp; exact ⟨h1, h2, x, h3, h4.mono hs hS⟩⟩
theorem RowFs.snoc {S : Nat → Prop} {w : World} {xs : List Value} {fs : List (ByteArray × Tree)} (h : RowFs S w xs fs) {k : ByteArray} {t : Tree} {x : Value} (hk : k.size ≤ 140737488351232) (hx : RepVal S w t x) : RowFs S w (xs ++ [.string k, x]) (fs ++ [(k, t)]) := by
  refine ⟨by simp [h.1]; omega, fun i p hp => ?_⟩
  by_cases hi : i < fs.length
  · rw [List.getElem?_append_left hi] at hp
    obtain ⟨h1, h2, y, h3, h4⟩ := h.2 i p hp
    exact ⟨h1, by rw [List.getElem?_append_left (by rw [h.1]; omega)]; exact h2, y, by rw [List.getElem?_append_left (by rw [h.1]; omega)]; exact h3, h4⟩
  · have hi' : i = fs.length := by have := (List.getElem?_eq_some_iff.1 hp).1; simp at this; omega
    subst hi'
    simp at hp
    subst hp
    refine ⟨hk, ?_, x, ?_, hx⟩
    · rw [List.getElem?_append_right (by rw [h.1]; omega), h.1, Nat.sub_self]; rfl
    · rw [List.getElem?_append_right (by rw [h.1]; omega), h.1, show fs.length * 2 + 1 - fs.length * 2 = 1 by omega]; rfl
theorem fs_of_row {S : Nat → Prop} {w : World} {base n c : Nat} {a : Option Addr} {xs : List Value} {fs : List (ByteArray × Tree)} {e : TypeId} (hown : w.ownsRow base e 2 (.slice a n c) n xs) (hrow : RowFs S w xs fs) (hS : ∀ b, base ≤ b → S b) (hsz : fs.length * 88 ≤ 140737488351232) : RepFs S w (.slice a n c) fs := by
  have hn : n = fs.length := by have := hown.1; have := hrow.1; omega
  subst hn
  rcases hown.2 with ⟨h, h0⟩ | ⟨g, cap, cur, h, hb, hg, hle, _⟩
  · simp only [Value.slice.injEq] at h
    obtain ⟨rfl, h1, rfl⟩ := h
    exact ⟨none, 0, 0, 0, rfl, by omega, hsz, fun h => absurd h (by omega), fun i p hp => by have := (List.getElem?_eq_some_iff.1 hp).1; omega⟩
  · cases h
    refine ⟨_, g, 0, _, rfl, hle, hsz, fun _ => ⟨rfl, hS g hb⟩, fun i p hp => ?_⟩
    obtain ⟨h1, h2, x, h3, h4⟩ := hrow.2 i p hp
    have hc := hown.cells (g := g) rfl
    have k1 := hc _ _ h2
    have k2 := hc _ _ h3
    rw [addr_add rfl] at k1 k2
    exact ⟨h1, k1, x, by rw [Nat.add_assoc]; exact k2, h4⟩

theorem info_field : (Try.prog.info? 162).map (fun i => (i.zero, i.size, i.bytes)) = some (some (.agg #[.string ByteArray.empty, .nilIface]), 2, 32) := by kernel_rfl
theorem zip_take_end {α β : Type} {a : List α} {b : List β} {k : Nat} (h : b.length ≤ k) : (a.zip b).take k = a.zip b := List.take_of_length_le (by simp; omega)
set_option maxHeartbeats 2000000 in
theorem toKeys_own (e : GE) (cs : List Value) (w : World) (hR : RepGE Any w e cs) :
    Calls Try.prog 71 #[.agg cs.toArray] w fun en w' => ∃ v n xs, en = .returned v ∧ w'.ownsRow (w.heap.size + 1) 162 2 v n xs ∧ RowFs (fun b => w.heap.size + 1 ≤ b ∧ some b ≠ v.ownBlock) w' xs (keyT e) ∧ (keyT e).length * 88 ≤ 140737488351232 ∧ Ext w w' := by
  obtain ⟨i0, hi, hz0, hz1, hz2⟩ := info_parts info_field
  obtain ⟨ka, kc, la, lc, v0, v1, v2, v3, v4, v5, rfl, -, -, -, hk, hl, -⟩ := hR
  obtain ⟨ka', kb, ko, kc', hke, hks, kat⟩ := hk.at'
  obtain ⟨la', lb, lo, lc', hle, hls, lat⟩ := hl.at'
  simp only [Value.slice.injEq, true_and] at hke hle
  obtain ⟨rfl, rfl⟩ := hke
  obtain ⟨rfl, rfl⟩ := hle
  have HK := hid kat
  have HL := hid lat
  clear hk hl kat lat
  go_enter Try.func71, Try.ntmps71
  go_wp2_with fail
  have HE0 := hid (((Ext.refl w).alloc (.cells #[.int .i64 e.kind, .string e.s, .slice ka e.keys.length kc, .slice la e.l.length lc, v0, v1, v2, v3, v4, v5, .int .i64 e.n] 34)).alloc (.cells #[] 162))
  have HB0 := hid (show ((w.alloc (.cells #[.int .i64 e.kind, .string e.s, .slice ka e.keys.length kc, .slice la e.l.length lc, v0, v1, v2, v3, v4, v5, .int .i64 e.n] 34)).alloc (.cells #[] 162)).cell? ⟨w.heap.size, 3, none⟩ = some (.slice la e.l.length lc) from ((Ext.refl _).alloc _).cellS ((cell_of_heap (heap_alloc_new w _) 3).trans rfl))
  have HO0 := hid (World.ownsRow_lit (base := w.heap.size + 1) (e := 162) (size := 2) (w.alloc (.cells #[.int .i64 e.kind, .string e.s, .slice ka e.keys.length kc, .slice la e.l.length lc, v0, v1, v2, v3, v4, v5, .int .i64 e.n] 34)) #[] 0 (by simp) (by decide) (by simp))
  go_loopw [3, 10] (fun v i wr => ∃ (k n : Nat) (xs : List Value), i = .int .i64 k ∧ k ≤ e.keys.length ∧ Hid (n = ((keyT e).take k).length) ∧ Hid (wr.ownsRow (w.heap.size + 1) 162 2 v n xs) ∧ Hid (RowFs (fun b => w.heap.size + 1 ≤ b ∧ some b ≠ v.ownBlock) wr xs ((keyT e).take k)) ∧ Hid (wr.cell? ⟨w.heap.size, 3, none⟩ = some (.slice la e.l.length lc)) ∧ Hid (Ext w wr) ∧ Hid (w.heap.size + 1 ≤ wr.heap.size)) (fun _ i _ => e.keys.length - (intOf i).toNat)
  case atStart => exact ⟨0, 0, [], rfl, Nat.zero_le _, hid rfl, hid (by have := HO0.out; simpa using this), hid (RowFs.nil _ _), HB0, HE0, hid (by simp)⟩
  case round =>
    obtain ⟨k, n, xs, rfl, hk, HN, HO, HR, HB, HE, HS⟩ := hrel
    have qb := HB.out
    by_cases h1 : k < e.keys.length
    · obtain ⟨s, hs⟩ : ∃ s, e.keys[k]? = some s := ⟨_, List.getElem?_eq_getElem h1⟩
      obtain ⟨rfl, kc1, hsz⟩ := HK.out k s hs
      have j1 := HE.out.cellS kc1
      have HS0 := hid hs
      have HSZ := hid hsz
      have hi0 : (0 : Int) ≤ (k : Int) := by omega
      have hi1 : (k : Int) < (e.keys.length : Int) := by omega
      clear hs kc1 hsz
      by_cases h2 : k < e.l.length
      · obtain ⟨g, hg⟩ : ∃ g, e.l[k]? = some g := ⟨_, List.getElem?_eq_getElem h2⟩
        obtain ⟨rfl, k1, n1, f1, s1, d1, e1, g1, d1', e1', g1', hc1, hR1⟩ := HL.out k g hg
        obtain ⟨q0, q1, q2, q3, q4, q5⟩ := cells6 (cellsAt_ext HE.out hc1)
        have HG := hid (hR1.ext HE.out)
        have hi2 : (k : Int) < (e.l.length : Int) := by omega
        have HTK := hid (show (keyT e).take (k + 1) = (keyT e).take k ++ [(s, plainT g)] from by
          have e1 : (keyT e)[k]? = some (s, plainT g) := by
            unfold keyT
            rw [List.getElem?_zip_eq_some]
            exact ⟨HS0.out, by rw [plainTs_eq, List.getElem?_map, hg]; rfl⟩
          obtain ⟨hlt, he⟩ := List.getElem?_eq_some_iff.1 e1
          rw [List.take_succ_eq_append_getElem hlt, he])
        have hnb : n ≤ k := by have := HN.out; rw [List.length_take] at this; omega
        clear hg hc1 hR1
        go_wp2_with (first
          | (go_at_call 77; refine (toValue_any g _ _ HG.out).mono ?_; rintro en w2 ⟨x, rfl, hx, hE⟩; have HX := hid hx; have HE2 := hid hE; obtain ⟨bx, vx, rfl, -⟩ := hx; clear hE)
          | (at_builtin; refine wpList_append_lies _ rfl (.tmp 20) (.tmp 29) 116 rfl (w.heap.size + 1) 162 i0 _ 2 32 Try.underlying116 hi hz0 hz1 hz2 rfl (by decide) _ n xs rfl ((ownsRow_ext HO.out HE2.out).alloc _) ⟨w2.heap.size, 0, none⟩ 1 1 [.string s, .iface 203 (.pointer (some ⟨bx, 0, none⟩))] rfl rfl (cells_new w2 [.string s, .iface 203 (.pointer (some ⟨bx, 0, none⟩))] _) (by simp [Value.oneCell']) (by decide) (by unfold maxLen; omega) (by omega) (by have := HS.out; have := HE2.out.size; simp; omega) (w2.heap.size + 1) (by simp) ?_; intro g3 cap3 w3 hown3 hg3 hat hlt3; have ST := hid (row_step HS.out HO.out HE2.out hown3 hg3 hat); have HO3 := hid hown3; clear hown3 hg3 hat hlt3))
        exact ⟨⟨k + 1, n + 1, _, by go_num, by omega, hid (by rw [HTK.out, List.length_append, ← HN.out]; rfl), HO3, hid (by
          rw [HTK.out]
          have k1 := HR.out.mono ST.out.1 (S' := fun b => w.heap.size + 1 ≤ b ∧ some b ≠ (Value.slice (some ⟨g3, 0, none⟩) (n + 1) cap3).ownBlock) (fun b hb hlt => ⟨hb.1, fun e => ST.out.2.1 b hlt hb.2 (Option.some.inj e)⟩)
          refine k1.snoc HSZ.out (HX.out.mono ST.out.2.2.1 fun b hb hlt => ⟨by have := HS.out; omega, fun e => ST.out.2.2.2.1 b hb hlt (Option.some.inj e)⟩)), hid ((Below.cell ST.out.2.2.2.2.1 (p := ⟨w.heap.size, 3, none⟩) (Nat.lt_succ_self _)).trans HB.out), hid (Below.trans HE.out (ST.out.2.2.2.2.1.mono (by omega))), hid (by have := HS.out; have := ST.out.2.2.2.2.2.1; omega)⟩, by simp [intOf]; omega⟩
      · have hd : ¬ ((k : Int) < (e.l.length : Int)) := by omega
        have HTK := hid (show (keyT e).take (k + 1) = (keyT e).take k from by
          have hl : (plainTs e.l).length ≤ k := by rw [plainTs_length]; omega
          unfold keyT
          rw [zip_take_end hl, zip_take_end (by omega)])
        go_wp2_with fail
        exact ⟨⟨k + 1, n, xs, by go_num, by omega, hid (by rw [HTK.out]; exact HN.out), HO, hid (by rw [HTK.out]; exact HR.out), HB, HE, HS⟩, by simp [intOf]; omega⟩
    · have HTK := hid (show (keyT e).take k = keyT e from List.take_of_length_le (by unfold keyT; rw [List.length_zip]; omega))
      obtain ⟨va, vc, rfl⟩ := own_form HO.out
      go_wp2_with fail
      go_ret
      have hr := HR.out
      rw [HTK.out] at hr
      refine ⟨_, rfl, _, _, HO.out, hr, ?_, HE.out⟩
      unfold keyT
      rw [List.length_zip, plainTs_length]
      omega
theorem toKeys_any (e : GE) (cs : List Value) (w : World) (hR : RepGE Any w e cs) :
    Calls Try.prog 71 #[.agg cs.toArray] w fun en w' => ∃ v, en = .returned v ∧ RepFs (fun b => w.heap.size ≤ b) w' v (keyT e) ∧ Ext w w' :=
  (toKeys_own e cs w hR).mono fun en w' h => by
    obtain ⟨v, n, xs, rfl, hown, hr, hsz, hE⟩ := h
    obtain ⟨a, c, rfl⟩ := own_form hown
    exact ⟨_, rfl, fs_of_row (hown.mono (Nat.le_succ _)) (hr.mono (Same.refl _ _) (fun b hb _ => by have := hb.1; omega)) (fun b hb => hb) hsz, hE⟩

def set4 (W : World) (b : Nat) (v0 v1 v2 v3 : Value) : World := (((W.setCell ⟨b, 0, none⟩ v0).setCell ⟨b, 1, none⟩ v1).setCell ⟨b, 2, none⟩ v2).setCell ⟨b, 3, none⟩ v3
theorem set4_heap {W : World} {b : Nat} {c0 c1 c2 c3 : Value} {t : TypeId} (h : W.heap[b]? = some (.cells #[c0, c1, c2, c3] t)) (v0 v1 v2 v3 : Value) : (set4 W b v0 v1 v2 v3).heap[b]? = some (.cells #[v0, v1, v2, v3] t) :=
  (setCell_heap (setCell_heap (setCell_heap (setCell_heap h 0 v0) 1 v1) 2 v2) 3 v3).trans rfl
theorem slot4f {W : World} {b : Nat} {c0 c1 c2 c3 : Value} {t : TypeId} (h : W.heap[b]? = some (.cells #[c0, c1, c2, c3] t)) :
    (W.cell? ⟨b, 0, none⟩ = some c0 ∧ W.cell? ⟨b, 1, none⟩ = some c1 ∧ W.cell? ⟨b, 2, none⟩ = some c2 ∧ W.cell? ⟨b, 3, none⟩ = some c3) ∧ (W.frozen? ⟨b, 0, none⟩ = false ∧ W.frozen? ⟨b, 1, none⟩ = false ∧ W.frozen? ⟨b, 2, none⟩ = false ∧ W.frozen? ⟨b, 3, none⟩ = false) :=
  ⟨⟨(cell_of_heap h 0).trans rfl, (cell_of_heap h 1).trans rfl, (cell_of_heap h 2).trans rfl, (cell_of_heap h 3).trans rfl⟩, free_of_heap h 0, free_of_heap h 1, free_of_heap h 2, free_of_heap h 3⟩
theorem set4_other {W : World} {b i : Nat} (h : i ≠ b) (v0 v1 v2 v3 : Value) : (set4 W b v0 v1 v2 v3).heap[i]? = W.heap[i]? := by
  simp only [set4]
  iterate 4 rw [Below.heap_setCell _ _ _ _ h]
theorem set4_below {B : Nat} {a W : World} (h : Below B a W) {b : Nat} (hb : B ≤ b) (v0 v1 v2 v3 : Value) : Below B a (set4 W b v0 v1 v2 v3) :=
  (((h.setCell hb v0).setCell hb v1).setCell hb v2).setCell hb v3
/-- a result of four pointers is laid into its block: what is elsewhere stays -/
theorem put4 {w W : World} {R : Nat} {c0 c1 c2 c3 v0 v1 v2 v3 : Value} {S : Nat → Prop} {e : El} (hx : W.heap[R]? = some (.cells #[c0, c1, c2, c3] 91)) (hR : w.heap.size ≤ R) (hE : Ext w W) (hG : RepEl S W e [v0, v1, v2, v3])
    (hS : ∀ b, S b → b ≠ R ∧ w.heap.size ≤ b) (WF : World) (hWF : WF = set4 W R v0 v1 v2 v3) :
    WF.heap[R]? = some (.cells #[v0, v1, v2, v3] 91) ∧ RepEl (fun b => w.heap.size ≤ b) WF e [v0, v1, v2, v3] ∧ Ext w WF := by
  subst hWF
  exact ⟨set4_heap hx _ _ _ _, hG.mono (fun b o hb ho => (set4_other (hS b hb).1 _ _ _ _).trans ho) (fun b hb _ => (hS b hb).2), set4_below hE hR _ _ _ _⟩
theorem te_fld (k : Int) (s : ByteArray) (ka : Option Addr) (kn kc : Nat) (la : Option Addr) (ln lc : Nat) (v0 v1 v2 v3 v4 v5 : Value) (n : Int) (w : World) (h1 : k ≠ 1) (h2 : k ≠ 2) (h3 : k ≠ 3) (hs : s.size ≤ 140737488351232) : Calls Try.prog 57 #[.agg #[.int .i64 k, .string s, .slice ka kn kc, .slice la ln lc, v0, v1, v2, v3, v4, v5, .int .i64 n]] w fun en w' => ∃ cs', en = .returned (.agg cs'.toArray) ∧ RepEl (fun b => w.heap.size ≤ b) w' (.fld s) cs' ∧ Ext w w' := by
  have d1 : (k == 1) = false := by simpa using h1
  have d2 : (k == 2) = false := by simpa using h2
  have d3 : (k == 3) = false := by simpa using h3
  clear h1 h2 h3
  go_enter Try.func57, Try.ntmps57
  go_wp2_with fail
  refine bodyPost_ret (v := .agg #[.pointer (some ⟨w.heap.size + 1 + 1, 0, none⟩), .pointer none, .pointer none, .pointer none]) (by simp [results, Try.results57, go_sem]) rfl ⟨[.pointer (some ⟨w.heap.size + 1 + 1, 0, none⟩), .pointer none, .pointer none, .pointer none], rfl, ⟨w.heap.size + 1 + 1, 0, by omega, rfl, (cell_of_heap (third_heap _ _ _ _) 0).trans rfl, hs⟩, (((Ext.refl w).alloc _).alloc _).alloc _⟩
theorem te_idx (s : ByteArray) (ka : Option Addr) (kn kc : Nat) (la : Option Addr) (ln lc : Nat) (v0 v1 v2 v3 v4 v5 : Value) (n : Int) (w : World) (hn : (Lit.int .i64 n).wf = true) : Calls Try.prog 57 #[.agg #[.int .i64 3, .string s, .slice ka kn kc, .slice la ln lc, v0, v1, v2, v3, v4, v5, .int .i64 n]] w fun en w' => ∃ cs', en = .returned (.agg cs'.toArray) ∧ RepEl (fun b => w.heap.size ≤ b) w' (.idx n) cs' ∧ Ext w w' := by
  go_enter Try.func57, Try.ntmps57
  go_wp2_with fail
  refine bodyPost_ret (v := .agg #[.pointer none, .pointer none, .pointer none, .pointer (some ⟨w.heap.size + 1 + 1, 0, none⟩)]) (by simp [results, Try.results57, go_sem]) rfl ⟨[.pointer none, .pointer none, .pointer none, .pointer (some ⟨w.heap.size + 1 + 1, 0, none⟩)], rfl, ⟨w.heap.size + 1 + 1, 0, by omega, rfl, (cell_of_heap (third_heap _ _ _ _) 0).trans rfl, hn⟩, (((Ext.refl w).alloc _).alloc _).alloc _⟩
set_option maxHeartbeats 1000000 in
theorem te_key (s : ByteArray) (ka : Option Addr) (kn kc : Nat) (la : Option Addr) (ln lc : Nat) (v0 v1 v2 v3 v4 v5 : Value) (n : Int) (w : World) (fs : List (ByteArray × Tree)) (hc : ∀ W, Ext w W → Calls Try.prog 71 #[.agg #[.int .i64 1, .string s, .slice ka kn kc, .slice la ln lc, v0, v1, v2, v3, v4, v5, .int .i64 n]] W fun en w' => ∃ v, en = .returned v ∧ RepFs (fun b => W.heap.size ≤ b) w' v fs ∧ Ext W w') : Calls Try.prog 57 #[.agg #[.int .i64 1, .string s, .slice ka kn kc, .slice la ln lc, v0, v1, v2, v3, v4, v5, .int .i64 n]] w fun en w' => ∃ cs', en = .returned (.agg cs'.toArray) ∧ RepEl (fun b => w.heap.size ≤ b) w' (.key fs) cs' ∧ Ext w w' := by
  have HC := hid hc
  clear hc
  go_enter Try.func57, Try.ntmps57
  go_wp2_with (go_at_call 71; refine (HC.out _ (((Ext.refl w).alloc _).alloc _)).mono ?_; rintro en w2 ⟨x, rfl, hx, hE⟩; obtain ⟨xa, xn, xc, rfl⟩ := hx.form; have hres := ((Ext.refl w2).alloc (.cells #[.slice xa xn xc] 116)).block (hE.block (second_heap w (.cells #[.int .i64 1, .string s, .slice ka kn kc, .slice la ln lc, v0, v1, v2, v3, v4, v5, .int .i64 n] 34) (.cells #[.pointer none, .pointer none, .pointer none, .pointer none] 91))); have HRES := hid hres; have HX := hid hx; have HE := hid ((((Ext.refl w).alloc _).alloc _).trans hE); have HSZ := hid (show w.heap.size + 2 ≤ w2.heap.size from by have := hE.size; simpa using this); obtain ⟨⟨z0, z1, z2, z3⟩, f0, f1, f2, f3⟩ := slot4f hres; clear hres hx hE)
  change bodyPost _ _ _ _ _ (set4 (w2.alloc (.cells #[.slice xa xn xc] 116)) (w.heap.size + 1) (.pointer none) (.pointer (some ⟨w2.heap.size, 0, none⟩)) (.pointer none) (.pointer none))
  have hsz := HSZ.out
  obtain ⟨e4, hr4, x4⟩ := put4 (w := w) (S := fun b => w.heap.size + 1 + 1 ≤ b) (e := .key fs) HRES.out (Nat.le_succ _) (HE.out.alloc _) (v0 := .pointer none) (v1 := .pointer (some ⟨w2.heap.size, 0, none⟩)) (v2 := .pointer none) (v3 := .pointer none)
    ⟨w2.heap.size, 0, by omega, rfl, _, (cell_of_heap (heap_alloc_new w2 _) 0).trans rfl, (HX.out.ext ((Ext.refl w2).alloc _)).weak (fun b hb _ => by simp at hb; omega)⟩ (fun b hb => by omega) _ rfl
  generalize set4 (w2.alloc (.cells #[.slice xa xn xc] 116)) (w.heap.size + 1) (.pointer none) (.pointer (some ⟨w2.heap.size, 0, none⟩)) (.pointer none) (.pointer none) = WF at *
  obtain ⟨⟨y0, y1, y2, y3⟩, -⟩ := slot4f e4
  refine bodyPost_ret (v := .agg #[.pointer none, .pointer (some ⟨w2.heap.size, 0, none⟩), .pointer none, .pointer none]) (by simp [results, Try.results57, go_sem, y0, y1, y2, y3]) rfl ⟨_, rfl, hr4, x4⟩
set_option maxHeartbeats 1000000 in
theorem te_val (s : ByteArray) (ka : Option Addr) (kn kc : Nat) (la : Option Addr) (ln lc : Nat) (v0 v1 v2 v3 v4 v5 : Value) (n : Int) (w : World) (t : Tree) (hc : ∀ W, Ext w W → Calls Try.prog 77 #[.agg #[v0, v1, v2, v3, v4, v5]] W fun en w' => ∃ v, en = .returned v ∧ RepVal (fun b => W.heap.size ≤ b) w' t v ∧ Ext W w') : Calls Try.prog 57 #[.agg #[.int .i64 2, .string s, .slice ka kn kc, .slice la ln lc, v0, v1, v2, v3, v4, v5, .int .i64 n]] w fun en w' => ∃ cs', en = .returned (.agg cs'.toArray) ∧ RepEl (fun b => w.heap.size ≤ b) w' (.val t) cs' ∧ Ext w w' := by
  have HC := hid hc
  clear hc
  go_enter Try.func57, Try.ntmps57
  go_wp2_with (go_at_call 77; refine (HC.out _ (((Ext.refl w).alloc _).alloc _)).mono ?_; rintro en w2 ⟨x, rfl, hx, hE⟩; obtain ⟨xb, rfl⟩ := repVal_form hx; have hres := ((Ext.refl w2).alloc (.cells #[.iface 203 (.pointer (some ⟨xb, 0, none⟩))] 107)).block (hE.block (second_heap w (.cells #[.int .i64 2, .string s, .slice ka kn kc, .slice la ln lc, v0, v1, v2, v3, v4, v5, .int .i64 n] 34) (.cells #[.pointer none, .pointer none, .pointer none, .pointer none] 91))); have HRES := hid hres; have HX := hid hx; have HE := hid ((((Ext.refl w).alloc _).alloc _).trans hE); have HSZ := hid (show w.heap.size + 2 ≤ w2.heap.size from by have := hE.size; simpa using this); obtain ⟨⟨z0, z1, z2, z3⟩, f0, f1, f2, f3⟩ := slot4f hres; clear hres hx hE)
  change bodyPost _ _ _ _ _ (set4 (w2.alloc (.cells #[.iface 203 (.pointer (some ⟨xb, 0, none⟩))] 107)) (w.heap.size + 1) (.pointer none) (.pointer none) (.pointer (some ⟨w2.heap.size, 0, none⟩)) (.pointer none))
  have hsz := HSZ.out
  obtain ⟨e4, hr4, x4⟩ := put4 (w := w) (S := fun b => w.heap.size + 1 + 1 ≤ b) (e := .val t) HRES.out (Nat.le_succ _) (HE.out.alloc _) (v0 := .pointer none) (v1 := .pointer none) (v2 := .pointer (some ⟨w2.heap.size, 0, none⟩)) (v3 := .pointer none)
    ⟨w2.heap.size, 0, by omega, rfl, _, (cell_of_heap (heap_alloc_new w2 _) 0).trans rfl, (HX.out.ext ((Ext.refl w2).alloc _)).weak (fun b hb _ => by simp at hb; omega)⟩ (fun b hb => by omega) _ rfl
  generalize set4 (w2.alloc (.cells #[.iface 203 (.pointer (some ⟨xb, 0, none⟩))] 107)) (w.heap.size + 1) (.pointer none) (.pointer none) (.pointer (some ⟨w2.heap.size, 0, none⟩)) (.pointer none) = WF at *
  obtain ⟨⟨y0, y1, y2, y3⟩, -⟩ := slot4f e4
  refine bodyPost_ret (v := .agg #[.pointer none, .pointer none, .pointer (some ⟨w2.heap.size, 0, none⟩), .pointer none]) (by simp [results, Try.results57, go_sem, y0, y1, y2, y3]) rfl ⟨_, rfl, hr4, x4⟩
theorem toElem_any (e : GE) (cs : List Value) (w : World) (hR : RepGE Any w e cs) :
    Calls Try.prog 57 #[.agg cs.toArray] w fun en w' => ∃ cs', en = .returned (.agg cs'.toArray) ∧ RepEl (fun b => w.heap.size ≤ b) w' (toEl e) cs' ∧ Ext w w' := by
  have HR := hR
  obtain ⟨ka, kc, la, lc, v0, v1, v2, v3, v4, v5, rfl, hk, hn, hs, hks, hl, hv⟩ := hR
  unfold toEl
  by_cases h1 : e.kind = 1
  · rw [if_pos h1]
    rw [h1] at HR ⊢
    exact te_key _ _ _ _ _ _ _ _ _ _ _ _ _ _ w (keyT e) (fun W E => toKeys_any e _ W (HR.ext E))
  rw [if_neg h1]
  by_cases h2 : e.kind = 2
  · rw [if_pos h2, h2]
    exact te_val _ _ _ _ _ _ _ _ _ _ _ _ _ _ w (plainT e.v) (fun W E => toValue_any e.v W _ (hv.ext E))
  rw [if_neg h2]
  by_cases h3 : e.kind = 3
  · rw [if_pos h3, h3]
    exact te_idx _ _ _ _ _ _ _ _ _ _ _ _ _ _ w hn
  rw [if_neg h3]
  exact te_fld _ _ _ _ _ _ _ _ _ _ _ _ _ _ _ w h1 h2 h3 hs
end Go.Proofs.Ytempfaefopfobaa
