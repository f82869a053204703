/- MEqu: a map of the package equals another: mapUnstructuredString's EqualsUsing. -/
import Derived.Test.YtempfaefopfobaaEquScal
import Derived.Test.YtempfaefopfobaaIterS
import Derived.Deep.RegionHeld3
import Derived.StillTailTactics

set_option maxRecDepth 100000
namespace Go.Proofs.Ytempfaefopfobaa
open Go.ChangeShapes Go.WideShapes Go.ChangeAt Go.RowKit
set_option linter.unusedVariables false
set_option linter.unusedSimpArgs false

/-- what the function has in hand that goes over the second map -/
structure QSt (S : Nat → Prop) (W : World) (m1 : List (ByteArray × Tree)) (r1 : Nat) (al : Addr) (b3 b4 b9 bv : Nat) (u : Value) : Prop where
  h3 : W.heap[b3]? = some (.cells #[.map (some r1)] 316)
  h4 : W.heap[b4]? = some (.cells #[.iface 172 (.pointer (some al))] 183)
  h9 : W.heap[b9]? = some (.cells #[.pointer (some ⟨bv, 0, none⟩)] 203)
  hv : W.heap[bv]? = some (.cells #[u] 218)
  hm : RepM S W m1 r1
def QM (bv : Nat) : Nat → Obj → Prop := fun b o => b = bv ∧ ∃ c fr, o = .cells c 218 fr
theorem QSt.ext {S : Nat → Prop} {W W' : World} {m1 : List (ByteArray × Tree)} {r1 : Nat} {al : Addr} {b3 b4 b9 bv : Nat} {u : Value} (h : QSt S W m1 r1 al b3 b4 b9 bv u) (E : Ext W W') : QSt S W' m1 r1 al b3 b4 b9 bv u :=
  ⟨E.block h.h3, E.block h.h4, E.block h.h9, E.block h.hv, h.hm.ext E⟩
theorem QSt.put {S : Nat → Prop} {W : World} {m1 : List (ByteArray × Tree)} {r1 : Nat} {al : Addr} {b3 b4 b9 bv : Nat} {u : Value} (h : QSt S W m1 r1 al b3 b4 b9 bv u) (hS : ¬ S bv) (v : Value) :
    QSt S (W.setCell ⟨bv, 0, none⟩ v) m1 r1 al b3 b4 b9 bv v ∧ W.grownBy (W.setCell ⟨bv, 0, none⟩ v) (some bv) := by
  have hgs := setCell_grown h.hv 0 v 0
  have hg : W.grownBy (W.setCell ⟨bv, 0, none⟩ v) (some bv) := ⟨hgs.os, hgs.tape, hgs.output, hgs.size, hgs.block⟩
  have n3 : some b3 ≠ some bv := fun e => by cases e; have := h.h3.symm.trans h.hv; simp at this
  have n4 : some b4 ≠ some bv := fun e => by cases e; have := h.h4.symm.trans h.hv; simp at this
  have n9 : some b9 ≠ some bv := fun e => by cases e; have := h.h9.symm.trans h.hv; simp at this
  have lt : ∀ {b : Nat} {o : Obj}, W.heap[b]? = some o → b < W.heap.size := fun h => (Array.getElem?_eq_some_iff.1 h).1
  obtain ⟨es, clock, ho, _⟩ := h.hm.es
  have nr : some r1 ≠ some bv := fun e => by cases e; have := ho.symm.trans h.hv; simp at this
  exact ⟨⟨(hg.block _ (lt h.h3) n3).trans h.h3, (hg.block _ (lt h.h4) n4).trans h.h4, (hg.block _ (lt h.h9) n9).trans h.h9, (setCell_heap h.hv 0 v).trans rfl, h.hm.mono (same_grownBy hg (fun b hb e => by cases e; exact hS hb)) (fun _ h _ => h) (hg.block _ (lt ho) nr)⟩, hg⟩
theorem QSt.mine {S : Nat → Prop} {W W1 W2 : World} {m1 : List (ByteArray × Tree)} {r1 : Nat} {al : Addr} {b3 b4 b9 bv : Nat} {u : Value} (h : QSt S W m1 r1 al b3 b4 b9 bv u) (hg : W.grownBy W1 (some bv)) (hE : Ext W1 W2) : Mine (QM bv) W W2 :=
  (mine_grown hg (fun b o e ho => by cases e; rw [h.hv] at ho; cases ho; exact ⟨rfl, _, _, rfl⟩)).trans (hE.mine _)
set_option maxHeartbeats 1000000 in
theorem meq_clos (S S2 : Nat → Prop) (zz : Bool) (m1 : List (ByteArray × Tree)) (r1 : Nat) (al : Addr) (b3 b4 b9 bv : Nat) (u : Value) (key : ByteArray) (x : Value) (t2 : Tree) (W : World) (hQ : QSt S W m1 r1 al b3 b4 b9 bv u) (hS : ¬ S bv) (hS2 : ¬ S2 bv)
    (hx : RepVal S2 W t2 x) (hz : match lookKV m1 key with | none => zz = false | some a => EquU a t2 zz) :
    Calls Try.prog 214 #[.string key, x, .pointer (some ⟨b3, 0, none⟩), .pointer (some ⟨b4, 0, none⟩), .pointer (some ⟨b9, 0, none⟩)] W fun e W' =>
      e = .returned (.bool zz) ∧ (∃ u', QSt S W' m1 r1 al b3 b4 b9 bv u') ∧ Mine (QM bv) W W' := by
  have q3 := (cell_of_heap hQ.h3 0).trans rfl
  have q4 := (cell_of_heap hQ.h4 0).trans rfl
  have q9 := (cell_of_heap hQ.h9 0).trans rfl
  have HQ := hid hQ
  rcases RepM.look Try.underlying316 Try.underlying9 (zero_any W) hQ.hm key with ⟨h1, h2, h3⟩ | ⟨t, v, h1, h2, h3, h4⟩
  · rw [h1] at hz
    obtain rfl : zz = false := hz
    clear h1 h3 hQ
    go_enter Try.func214, Try.ntmps214
    go_wp2_with fail
    go_ret
    exact ⟨rfl, ⟨u, HQ.out⟩, Mine.refl _ _⟩
  · rw [h1] at hz
    have hz' : EquU t t2 zz := hz
    have HZ := hid hz'
    have HF := hid h2.form
    have HT := hid h2
    have HX := hid hx
    obtain ⟨px, vx, rfl, hpx, _⟩ := hx
    clear hz hz' h1 h4 hQ h2
    go_enter Try.func214, Try.ntmps214
    go_upto_region 4 with fail
    have K := hid (show ∀ w' : World, (∃ u', QSt S w' m1 r1 al b3 b4 b9 bv u') → w'.cell? ⟨b4, 0, none⟩ = some (.iface 172 (.pointer (some al))) ∧ w'.cell? ⟨b9, 0, none⟩ = some (.pointer (some ⟨bv, 0, none⟩)) from fun w' ⟨u', h⟩ => ⟨(cell_of_heap h.h4 0).trans rfl, (cell_of_heap h.h9 0).trans rfl⟩)
    have HQ0 := hid (HQ.out.ext (Ext.refl W).drew)
    go_region_held3 (fun w' : World => w'.cell? ⟨b4, 0, none⟩ = some (.iface 172 (.pointer (some al))) ∧ w'.cell? ⟨b9, 0, none⟩ = some (.pointer (some ⟨bv, 0, none⟩)))
      (first | with_reducible exact K.out _ ⟨_, HQ2.out⟩ | with_reducible exact K.out _ ⟨_, HQ1.out⟩ | with_reducible exact K.out _ ⟨_, HQ0.out⟩)
      (first
        | (go_at_call 118; refine (reuse_any bv v u _ HF.out HQ0.out.hv).mono ?_; rintro e w5 ⟨rfl, hw5⟩; have PUT := HQ0.out.put hS v; rw [← hw5] at PUT; have HQ1 := hid PUT.1; have HG1 := hid PUT.2; clear PUT hw5)
        | (go_at_call 119; refine (HZ.out _ al _ _ ⟨bv, v, rfl, trivial, HQ1.out.hv, ?_⟩ ?_).mono ?_; exact (HT.out.ext (Ext.refl W).drew).mono (same_grownBy HG1.out (fun b hb e => by cases e; exact hS hb)) (fun _ _ _ => trivial); exact (HX.out.ext (Ext.refl W).drew).mono (same_grownBy HG1.out (fun b hb e => by cases e; exact hS2 hb)) (fun _ _ _ => trivial); rintro e w6 ⟨rfl, hE⟩; have HQ2 := hid (HQ1.out.ext hE); have HE6 := hid hE; clear hE))
    all_goals
      go_wp2_with fail
      go_ret
      exact ⟨rfl, ⟨_, HQ2.out⟩, (((Ext.refl W).drew).mine _).trans (HQ0.out.mine HG1.out HE6.out)⟩

/-- what holds while the second map is gone over -/
def QI (S : Nat → Prop) (z : Tree → Tree → Bool) (m1 m2 : List (ByteArray × Tree)) (r1 : Nat) (al : Addr) (b3 b4 b9 bv : Nat) (w : World) (vis : List Nat) (W : World) : Prop :=
  (∃ u, QSt S W m1 r1 al b3 b4 b9 bv u) ∧ Ext w W ∧ ∀ i ∈ vis, ∀ q, m2[i]? = some q → eqOne z m1 q = true
theorem meq_iter (z : Tree → Tree → Bool) (m1 m2 : List (ByteArray × Tree)) (r1 r2 : Nat) (al : Addr) (b3 b4 b9 bv : Nat) (w W : World) (hE : Ext w W) (hb : w.heap.size ≤ bv) (hM1 : RepM Any w m1 r1) (hM2 : RepM Any w m2 r2)
    (h3 : W.heap[b3]? = some (.cells #[.map (some r1)] 316)) (h4 : W.heap[b4]? = some (.cells #[.iface 172 (.pointer (some al))] 183))
    (h9 : W.heap[b9]? = some (.cells #[.pointer (some ⟨bv, 0, none⟩)] 203)) (hv : W.heap[bv]? = some (.cells #[.nilIface] 218)) (hz : ∀ p ∈ m1, ∀ q ∈ m2, EquU p.2 q.2 (z p.2 q.2)) :
    Calls Try.prog 209 #[.map (some r2), .iface 172 (.pointer (some al)), .func (.func 214) #[] #[.pointer (some ⟨b3, 0, none⟩), .pointer (some ⟨b4, 0, none⟩), .pointer (some ⟨b9, 0, none⟩)]] W fun e W' =>
      e = .returned (.bool (m2.all (eqOne z m1))) ∧ Ext w W' := by
  have hlt1 := hM1.lt
  have hlt2 := hM2.lt
  have hvl := (Array.getElem?_eq_some_iff.1 hv).1
  have S1 : RepM (fun b => b < w.heap.size) W m1 r1 := (hM1.mono (Same.refl _ _) (fun b _ h => h) rfl : RepM (fun b => b < w.heap.size) w m1 r1).ext hE
  have S2 : RepM (fun b => b < w.heap.size) W m2 r2 := (hM2.mono (Same.refl _ _) (fun b _ h => h) rfl : RepM (fun b => b < w.heap.size) w m2 r2).ext hE
  have hQ0 : QSt (fun b => b < w.heap.size) W m1 r1 al b3 b4 b9 bv .nilIface := ⟨h3, h4, h9, hv, S1⟩
  have hK : ∀ b o, b < w.heap.size → ¬ QM bv b o := by rintro b o hlt ⟨e, _⟩; omega
  refine (iter_anyS (fun b => b < w.heap.size) 214 #[.pointer (some ⟨b3, 0, none⟩), .pointer (some ⟨b4, 0, none⟩), .pointer (some ⟨b9, 0, none⟩)] m2 r2 al (QM bv) (QI (fun b => b < w.heap.size) z m1 m2 r1 al b3 b4 b9 bv w) (fun W' => m2.all (eqOne z m1) = false ∧ Ext w W') W
    (enters_of Try.func214 (by kernel_rfl) rfl) S2 ?_ ?_ ?_ ?_ ?_ ?_ ?_).mono ?_
  · rintro vis i q x W1 hnd hlv hni hq ⟨⟨u, hQ⟩, hE1, hvis⟩ hsz hx
    have hzz : match lookKV m1 q.1 with | none => eqOne z m1 q = false | some a => EquU a q.2 (eqOne z m1 q) := by
      cases hl : lookKV m1 q.1 with
      | none => simp [eqOne, hl]
      | some a =>
        have e : eqOne z m1 q = z a q.2 := by simp [eqOne, hl]
        show EquU a q.2 (eqOne z m1 q)
        rw [e]
        exact hz _ (lookKV_in hl) q (List.mem_of_getElem? hq)
    refine (meq_clos _ _ (eqOne z m1 q) m1 r1 al b3 b4 b9 bv u q.1 x q.2 W1 hQ (by omega) ?_ hx hzz).mono ?_
    · rintro (⟨h, _⟩ | h) <;> omega
    · rintro e W2 ⟨rfl, hQ2, hm⟩
      refine ⟨hm, ?_⟩
      have hE2 := ext_mine hE1 hK hm
      cases hb2 : eqOne z m1 q
      · refine .inr ⟨rfl, ?_, hE2⟩
        rw [Bool.eq_false_iff]
        intro hall
        have := List.all_eq_true.1 hall q (List.mem_of_getElem? hq)
        rw [hb2] at this; cases this
      · refine .inl ⟨rfl, hQ2, hE2, fun j hj p hp => ?_⟩
        rcases List.mem_append.1 hj with hj | hj
        · exact hvis j hj p hp
        · simp at hj; subst hj; rw [hq] at hp; cases hp; exact hb2
  · rintro vis W1 W2 ⟨⟨u, hQ⟩, hE1, hvis⟩ hs
    have hlt : b3 < W.heap.size ∧ b4 < W.heap.size ∧ b9 < W.heap.size := ⟨(Array.getElem?_eq_some_iff.1 h3).1, (Array.getElem?_eq_some_iff.1 h4).1, (Array.getElem?_eq_some_iff.1 h9).1⟩
    have hE2 := ext_still hE1 hE.size hs
    refine ⟨⟨u, hs.keep _ _ hQ.h3 (.inl hlt.1), hs.keep _ _ hQ.h4 (.inl hlt.2.1), hs.keep _ _ hQ.h9 (.inl hlt.2.2), hs.keep _ _ hQ.hv (.inl hvl), (hM1.mono (Same.refl _ _) (fun b _ h => h) rfl : RepM (fun b => b < w.heap.size) w m1 r1).ext hE2⟩, hE2, hvis⟩
  · exact ⟨⟨_, hQ0⟩, hE, fun i hi => by simp at hi⟩
  · rintro v ⟨e, _⟩; omega
  · rintro b a x y z' ⟨_, c, fr, e⟩; simp at e
  · exact fun o => hK r2 o hlt2
  · exact fun b o h => hK b o h
  · rintro e W2 (⟨rfl, vis, hp, ⟨u, hQ⟩, hE2, hvis⟩ | ⟨rfl, hf, hE2⟩)
    · refine ⟨?_, hE2⟩
      rw [show m2.all (eqOne z m1) = true from ?_]
      rw [List.all_eq_true]
      intro q hq
      obtain ⟨i, hi⟩ := List.mem_iff_getElem?.1 hq
      exact hvis i (hp.mem_iff.2 (List.mem_range.2 (List.getElem?_eq_some_iff.1 hi).1)) q hi
    · exact ⟨by rw [hf], hE2⟩
theorem heap4 (w : World) (a b c d : Obj) : Ext w ((((w.alloc a).alloc b).alloc c).alloc d) ∧ ((((w.alloc a).alloc b).alloc c).alloc d).heap[w.heap.size]? = some a ∧ ((((w.alloc a).alloc b).alloc c).alloc d).heap[w.heap.size + 1]? = some b ∧
    ((((w.alloc a).alloc b).alloc c).alloc d).heap[w.heap.size + 1 + 1]? = some c ∧ ((((w.alloc a).alloc b).alloc c).alloc d).heap[w.heap.size + 1 + 1 + 1]? = some d := by
  have e1 : ∀ (v : World) (o : Obj), (v.alloc o).heap.size = v.heap.size + 1 := fun v o => by simp
  have h : ∀ (v : World) (o : Obj), (v.alloc o).heap[v.heap.size]? = some o := fun v o => heap_alloc_new v o
  have x : ∀ (v : World) (o : Obj), Ext v (v.alloc o) := fun v o => (Ext.refl v).alloc o
  refine ⟨((((Ext.refl w).alloc _).alloc _).alloc _).alloc _, (x _ _).block ((x _ _).block ((x _ _).block (h w a))), ?_, ?_, ?_⟩
  · have := h (w.alloc a) b; rw [e1] at this
    exact (x _ _).block ((x _ _).block this)
  · have := h ((w.alloc a).alloc b) c; rw [e1, e1] at this
    exact (x _ _).block this
  · have := h (((w.alloc a).alloc b).alloc c) d; rw [e1, e1, e1] at this
    exact this
set_option maxHeartbeats 2000000 in
theorem meq_any (z : Tree → Tree → Bool) (m1 m2 : List (ByteArray × Tree)) (r1 r2 : Nat) (al : Addr) (w : World) (hM1 : RepM Any w m1 r1) (hM2 : RepM Any w m2 r2) (hz : ∀ p ∈ m1, ∀ q ∈ m2, EquU p.2 q.2 (z p.2 q.2)) :
    Calls Try.prog 204 #[.map (some r1), .iface 172 (.pointer (some al)), .iface 316 (.map (some r2))] w fun e w' => e = .returned (.bool (eqMs z m1 m2)) ∧ Ext w w' := by
  have hk1 := mlen_any Any m1 r1
  have hk2 := mlen_any Any m2 r2
  have L1 := hid (fun (W : World) (E : Ext w W) => hk1 W (hM1.ext E))
  have L2 := hid (fun (W : World) (E : Ext w W) => hk2 W (hM2.ext E))
  have IT := hid (fun b3 b4 b9 bv W hE hb h3 h4 h9 hv => meq_iter z m1 m2 r1 r2 al b3 b4 b9 bv w W hE hb hM1 hM2 h3 h4 h9 hv hz)
  have hr1 := hM1.room
  have hr2 := hM2.room
  clear hM1 hM2 hz hk1 hk2
  by_cases hl : m1.length = m2.length
  · by_cases h0 : m1.length = 0
    · have hd : ((m1.length : Int) != (m2.length : Int)) = false := by rw [bne_eq_false_iff_eq]; omega
      have hd2 : ((m1.length : Int) == 0) = true := by rw [beq_iff_eq]; omega
      have RES := hid (show true = eqMs z m1 m2 by
        have e1 : m1 = [] := List.eq_nil_of_length_eq_zero h0
        have e2 : m2 = [] := List.eq_nil_of_length_eq_zero (hl ▸ h0)
        subst e1 e2; rfl)
      clear hl h0
      go_enter_defers Try.func204, Try.ntmps204
      go_wp2_with (first
        | (go_at_call_of 210 r1; refine (L1.out _ ?_).mono ?_; exact ((Ext.refl w).alloc _).alloc _; rintro e w1 ⟨rfl, rfl⟩)
        | (go_at_call_of 210 r2; refine (L2.out _ ?_).mono ?_; exact ((Ext.refl w).alloc _).alloc _; rintro e w1 ⟨rfl, rfl⟩))
      refine ⟨_, results_tmp rfl _ _ _, ?_, ((Ext.refl w).alloc _).alloc _⟩
      exact congrArg (fun q => Ending.returned (.bool q)) RES.out
    · have hd : ((m1.length : Int) != (m2.length : Int)) = false := by rw [bne_eq_false_iff_eq]; omega
      have hd2 : ((m1.length : Int) == 0) = false := by rw [beq_eq_false_iff_ne]; omega
      have RES := hid (show m2.all (eqOne z m1) = eqMs z m1 m2 by unfold eqMs; rw [decide_eq_true hl, Bool.true_and])
      clear hl h0
      go_enter_defers Try.func204, Try.ntmps204
      go_upto_region 8 with (first
        | (go_at_call_of 210 r1; refine (L1.out _ ?_).mono ?_; exact ((Ext.refl w).alloc _).alloc _; rintro e w1 ⟨rfl, rfl⟩)
        | (go_at_call_of 210 r2; refine (L2.out _ ?_).mono ?_; exact ((Ext.refl w).alloc _).alloc _; rintro e w1 ⟨rfl, rfl⟩)
        | (go_at_call 117; refine (alloc_any _ _).mono ?_; rintro e w2 ⟨rfl, rfl⟩))
      have hx := heap4 w (.cells #[.map (some r1)] 316) (.cells #[.iface 172 (.pointer (some al))] 183) (.cells #[.nilIface] 218) (.cells #[.pointer (some ⟨w.heap.size + 1 + 1, 0, none⟩)] 203)
      generalize (((w.alloc (.cells #[.map (some r1)] 316)).alloc (.cells #[.iface 172 (.pointer (some al))] 183)).alloc (.cells #[.nilIface] 218)).alloc (.cells #[.pointer (some ⟨w.heap.size + 1 + 1, 0, none⟩)] 203) = w4 at *
      have HX := hid hx
      obtain ⟨hx0, hx1, hx2, hx3, hx4⟩ := hx
      have q4 := (cell_of_heap hx2 0).trans rfl
      have q9 := (cell_of_heap hx4 0).trans rfl
      have HI := hid (IT.out w.heap.size (w.heap.size + 1) (w.heap.size + 1 + 1 + 1) (w.heap.size + 1 + 1) w4.drew hx0.drew (by omega) hx1 hx2 hx4 hx3)
      clear hx0 hx1 hx2 hx3 hx4
      go_still_tail 4, (by kernel_rfl)
      change wpList _ _ _ _ _ w4.drew
      go_wp2_with (first
        | (go_at_call 209; refine HI.out.mono ?_; rintro e w5 ⟨rfl, hE⟩; have HE5 := hid (show True ∧ _ from ⟨trivial, hE⟩); clear hE))
      refine leaves_cons (f := 174) (args := #[.pointer (some al), .iface 203 (.pointer (some ⟨w.heap.size + 1 + 1, 0, none⟩))]) (by simp) (by simp [go_sem]) ?_
      refine (free_d al _ _ .returning _).mono ?_
      rintro e u' w'' ⟨rfl, rfl, rfl⟩
      refine ⟨_, results_tmp rfl _ _ _, ?_, HE5.out.2⟩
      exact congrArg (fun q => Ending.returned (.bool q)) RES.out
  · have hd : ((m1.length : Int) != (m2.length : Int)) = true := by rw [bne_iff_ne]; omega
    have RES := hid (show false = eqMs z m1 m2 by unfold eqMs; rw [decide_eq_false hl, Bool.false_and])
    clear hl
    go_enter_defers Try.func204, Try.ntmps204
    go_wp2_with (first
      | (go_at_call_of 210 r1; refine (L1.out _ ?_).mono ?_; exact ((Ext.refl w).alloc _).alloc _; rintro e w1 ⟨rfl, rfl⟩)
      | (go_at_call_of 210 r2; refine (L2.out _ ?_).mono ?_; exact ((Ext.refl w).alloc _).alloc _; rintro e w1 ⟨rfl, rfl⟩))
    refine ⟨_, results_tmp rfl _ _ _, ?_, ((Ext.refl w).alloc _).alloc _⟩
    exact congrArg (fun q => Ending.returned (.bool q)) RES.out
end Go.Proofs.Ytempfaefopfobaa
