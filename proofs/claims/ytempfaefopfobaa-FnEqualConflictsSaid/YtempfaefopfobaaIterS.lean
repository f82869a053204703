/- IterS: IterateUsing once more, and where the values lie that are handed over. -/
import Derived.Test.YtempfaefopfobaaIter

set_option maxRecDepth 100000
namespace Go.Proofs.Ytempfaefopfobaa
open Go.ChangeShapes Go.WideShapes Go.ChangeAt Go.RowKit
set_option linter.unusedVariables false
set_option linter.unusedSimpArgs false

/-- what a function does with one field of a map, at any state of the iteration -/
def AtFieldS (S : Nat → Prop) (F : FuncId) (caps : Array Value) (m : List (ByteArray × Tree)) (H : Nat) (M : Nat → Obj → Prop) (I : List Nat → World → Prop) (J : World → Prop) : Prop :=
  ∀ (vis : List Nat) (i : Nat) (p : ByteArray × Tree) (x : Value) (W : World), vis.Nodup → (∀ j ∈ vis, j < m.length) → i ∉ vis → m[i]? = some p → I vis W → H ≤ W.heap.size → RepVal (fun b => (S b ∧ b < H) ∨ b = H) W p.2 x →
    Calls Try.prog F (#[.string p.1, x] ++ caps) W fun e W' => Mine M W W' ∧ ((e = .returned (.bool true) ∧ I (vis ++ [i]) W') ∨ (e = .returned (.bool false) ∧ J W'))
section
variable {S : Nat → Prop} {M : Nat → Obj → Prop} {m : List (ByteArray × Tree)} {r H q : Nat} {vis : List Nat} {W W2 W3 : World} {u v : Value}
theorem iter_preS {I : List Nat → World → Prop} (hr : r < H) (hHq : H < q) (hst : ∀ vis W W', I vis W → Still H M W W' → I vis W') (hm1 : ∀ v, ¬ M H (.cells #[v] 218)) (hm2 : ∀ b a x y z, ¬ M b (.mapIter a x y z))
    (hR : RngM (fun b => S b ∧ b < H) W m r q vis) (hB : W.heap[H]? = some (.cells #[u] 218)) (hI : I vis W) (hsz : H ≤ W.heap.size) {i : Nat} {p : ByteArray × Tree}
    (hR2 : RngM (fun b => S b ∧ b < H) W2 m r q (vis ++ [i])) (hT : RepT (fun b => S b ∧ b < H) W2 p.2 v) (hg : W.grownBy W2 (some q)) :
    W2.heap[H]? = some (.cells #[u] 218) ∧ I vis (W2.setCell ⟨H, 0, none⟩ v) ∧ RepVal (fun b => (S b ∧ b < H) ∨ b = H) (W2.setCell ⟨H, 0, none⟩ v) p.2 (.iface 203 (.pointer (some ⟨H, 0, none⟩))) ∧
      RngM (fun b => S b ∧ b < H) (W2.setCell ⟨H, 0, none⟩ v) m r q (vis ++ [i]) ∧ (W2.setCell ⟨H, 0, none⟩ v).heap[H]? = some (.cells #[v] 218) ∧ H ≤ (W2.setCell ⟨H, 0, none⟩ v).heap.size := by
  have hB2 := (hg.block H (Array.getElem?_eq_some_iff.1 hB).1 (fun e => by have := Option.some.inj e; omega)).trans hB
  have hgs := setCell_grown hB2 0 v 0
  have hg3 : W2.grownBy (W2.setCell ⟨H, 0, none⟩ v) (some H) := ⟨hgs.os, hgs.tape, hgs.output, hgs.size, hgs.block⟩
  have hB3 := (setCell_heap hB2 0 v).trans rfl
  obtain ⟨x1, x2, x3, x4, hq⟩ := hR.iter
  refine ⟨hB2, hst _ _ _ hI ((still_grown hg (by omega) hq (hm2 _ _ _ _ _)).trans (still_grown hg3 (Nat.le_refl _) hB2 (hm1 u))), ⟨H, v, rfl, .inr rfl, hB3, hT.mono (same_grownBy hg3 (fun b hb e => by cases e; have := hb.2; omega)) (fun b hb _ => .inl hb)⟩,
    hR2.kept hg3 (fun b hb e => by cases e; have := hb.2; omega) (fun e => by cases e; omega) (fun e => by have := Option.some.inj e; omega), hB3, ?_⟩
  have := hg.size; have := hg3.size; omega
theorem iter_postS (hm1 : ∀ v, ¬ M H (.cells #[v] 218)) (hm2 : ∀ b a x y z, ¬ M b (.mapIter a x y z)) (hm3 : ∀ o, ¬ M r o) (hm4 : ∀ b o, S b → ¬ M b o)
    (hR : RngM (fun b => S b ∧ b < H) W m r q vis) (hB : W.heap[H]? = some (.cells #[v] 218)) (hsz : H ≤ W.heap.size) (hM : Mine M W W3) :
    RngM (fun b => S b ∧ b < H) W3 m r q vis ∧ W3.heap[H]? = some (.cells #[v] 218) ∧ H ≤ W3.heap.size := by
  obtain ⟨x1, x2, x3, x4, hq⟩ := hR.iter
  obtain ⟨o, ho⟩ := hR.themap
  exact ⟨hR.mono (hM.same fun b o hb => hm4 b o hb.1) (fun _ h _ => h) ((hM.keep _ _ ho (hm3 o)).trans ho.symm) ((hM.keep _ _ hq (hm2 _ _ _ _ _)).trans hq.symm), hM.keep _ _ hB (hm1 v), Nat.le_trans hsz hM.size⟩
end
set_option maxRecDepth 100000 in
set_option maxHeartbeats 1000000 in
theorem iter_anyS (S : Nat → Prop) (F : FuncId) (caps : Array Value) (m : List (ByteArray × Tree)) (r : Nat) (al : Addr) (M : Nat → Obj → Prop) (I : List Nat → World → Prop) (J : World → Prop) (w : World) (hent : ∀ args W, (callFunc F args).run Try.prog W = .ok (.enter F args) W)
    (hM0 : RepM S w m r) (hfn : AtFieldS S F caps m w.heap.size M I J) (hst : ∀ vis W W', I vis W → Still w.heap.size M W W' → I vis W') (hI : I [] w)
    (hm1 : ∀ v, ¬ M w.heap.size (.cells #[v] 218)) (hm2 : ∀ b a x y z, ¬ M b (.mapIter a x y z)) (hm3 : ∀ o, ¬ M r o) (hm4 : ∀ b o, S b → ¬ M b o) :
    Calls Try.prog 209 #[.map (some r), .iface 172 (.pointer (some al)), .func (.func F) #[] caps] w (Iterated m I J) := by
  obtain ⟨es, clock, h1, h2⟩ := hM0.es
  cases m with
  | nil =>
    have hl := run_len_MU r es clock w h1
    rw [h2] at hl
    have HI := hid hI
    clear h1 hM0 hfn hst hI hm1 hm2 hm3 hm4 h2
    go_enter_defers Try.func209, Try.ntmps209
    go_wp2_with fail
    exact ⟨_, results_tmp rfl _ _ _, .inl ⟨rfl, [], List.Perm.refl _, HI.out⟩⟩
  | cons p0 m0 =>
    have hM : RepM (fun b => S b ∧ b < w.heap.size) w (p0 :: m0) r := hM0.mono (Same.refl _ _) (fun b h1 h2 => ⟨h1, h2⟩) rfl
    have hl := run_len_MU r es clock w h1
    rw [h2] at hl
    have hne : (((p0 :: m0).length : Int) == 0) = false := by simp; omega
    have HM := hid hM
    have HLT := hid hM.lt
    have HF := hid hfn
    have HST := hid hst
    have HI := hid hI
    have HM1 := hid hm1
    have HM2 := hid hm2
    have HM3 := hid hm3
    have HM4 := hid hm4
    clear h1 hM0 hM hfn hst hI hm1 hm2 hm3 hm4 h2
    generalize p0 :: m0 = m at *
    go_enter_defers Try.func209, Try.ntmps209
    go_wp2_with (first
      | (go_at_call 117; refine (alloc_any _ _).mono ?_; rintro e w1 ⟨rfl, hw1⟩; have HE1 := hid (show Ext w w1 by rw [hw1]; exact (Ext.refl w).alloc _); have HB1 := hid (show w1.heap[w.heap.size]? = some (.cells #[.nilIface] 218) by rw [hw1]; exact heap_alloc_new _ _); have HLQ := hid (show w.heap.size < w1.heap.size by rw [hw1]; simp); clear hw1)
      | (at_range; refine wpList_range_M rfl (.tmp 19) rfl Try.underlying316 rfl (HM.out.ext HE1.out) ?_; intro w2 hR hE2 hz2; have HR2 := hid hR; have HE2 := hid hE2; clear hR hE2; go_frame))
    go_loopw [] (fun wr => ∃ (vis : List Nat) (u : Value), Hid (RngM (fun b => S b ∧ b < w.heap.size) wr m r w1.heap.size vis) ∧ Hid (wr.heap[w.heap.size]? = some (.cells #[u] 218)) ∧ Hid (I vis wr) ∧ Hid (w.heap.size ≤ wr.heap.size)) (fun wr => leftM m.length w1.heap.size wr)
    case atStart => exact ⟨[], .nilIface, HR2, hid (HE2.out.block HB1.out), hid (HST.out [] w _ HI.out ((HE1.out.trans HE2.out).still _ _)), hid (HE1.out.trans HE2.out).size⟩
    case round =>
      obtain ⟨vis, u, HR, HB, HIv, HSZ⟩ := hrel
      go_wp2_with (first
        | (at_next; refine wpList_next_M rfl (.tmp 20) rfl rfl HR.out (fun h => by have := h.2; have := HLQ.out; omega) (fun hl => ?_) (fun i p val w3 hni hp hR2 hT hg2 hz2' hent => ?_); (have HL := hid hl; clear hl); rotate_left; (have HN := hid hni; have HP := hid hp; have PRE := hid (iter_preS HLT.out HLQ.out HST.out HM1.out HM2.out HR.out HB.out HIv.out HSZ.out hR2 hT hg2); have HLV := hid hR2.left; have HFM := hid hT.form; clear hni hp hR2 hT hg2 hz2'); rotate_left)
        | (go_at_call 118; refine (reuse_any w.heap.size _ u w3 HFM.out PRE.out.1).mono ?_; rintro e w4 ⟨rfl, rfl⟩)
        | ((with_reducible show Calls Try.prog F _ _ _); refine (HF.out vis i p _ _ HR.out.vis.1 HR.out.vis.2 HN.out HP.out PRE.out.2.1 PRE.out.2.2.2.2.2 PRE.out.2.2.1).mono ?_; rintro e w5 ⟨hmine, ⟨rfl, hI5⟩ | ⟨rfl, hJ5⟩⟩ <;> have POST := hid (iter_postS HM1.out HM2.out HM3.out HM4.out PRE.out.2.2.2.1 PRE.out.2.2.2.2.1 PRE.out.2.2.2.2.2 hmine) <;> clear hmine))
      · refine leaves_cons (f := 174) (args := #[.pointer (some al), .iface 203 (.pointer (some ⟨w.heap.size, 0, none⟩))]) (by simp) (by simp [go_sem]) ?_
        refine (free_d al _ _ .returning _).mono ?_
        rintro e u' w'' ⟨rfl, rfl, rfl⟩
        exact ⟨_, results_tmp rfl _ _ _, .inl ⟨rfl, vis, vis_perm HR.out.vis.1 HR.out.vis.2 HL.out, HIv.out⟩⟩
      · exact ⟨⟨vis ++ [i], val, hid POST.out.1, hid POST.out.2.1, hid hI5, hid POST.out.2.2⟩, by
          have h1 := HR.out.left
          have h2 := POST.out.1.left
          have h3 := vis_length POST.out.1.vis.1 POST.out.1.vis.2
          rw [h1, h2]; simp at h3 ⊢; omega⟩
      · refine leaves_cons (f := 174) (args := #[.pointer (some al), .iface 203 (.pointer (some ⟨w.heap.size, 0, none⟩))]) (by simp) (by simp [go_sem]) ?_
        refine (free_d al _ _ .returning _).mono ?_
        rintro e u' w'' ⟨rfl, rfl, rfl⟩
        exact ⟨_, results_tmp rfl _ _ _, .inr ⟨rfl, hJ5⟩⟩
end Go.Proofs.Ytempfaefopfobaa
