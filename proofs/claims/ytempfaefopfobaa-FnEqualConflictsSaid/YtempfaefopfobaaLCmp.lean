/- LCmp: value.ListCompareUsing (under way). -/
import Derived.Test.YtempfaefopfobaaLRange
import Derived.Test.YtempfaefopfobaaCmpT
import Derived.Test.YtempfaefopfobaaIter
import Derived.Defers
import Derived.Sort.AtCall

namespace Go.Proofs.Ytempfaefopfobaa
open Go.ChangeShapes Go.WideShapes Go.ChangeAt Go.RowKit
set_option linter.unusedVariables false
set_option linter.unusedSimpArgs false

/-- two ranges under way: their boxes and themselves are the call's own four blocks -/
structure LSt (w W : World) (i j : Int) (a1 a2 : Option Addr) (n1 c1 n2 c2 : Nat) (u1 u2 : Value) : Prop where
  b : Below w.heap.size w W
  h1 : W.heap[w.heap.size]? = some (.cells #[u1] 218)
  h2 : W.heap[w.heap.size + 1]? = some (.cells #[.slice a1 n1 c1, .pointer (some ⟨w.heap.size, 0, none⟩), .int .i64 i] 329)
  h3 : W.heap[w.heap.size + 2]? = some (.cells #[u2] 218)
  h4 : W.heap[w.heap.size + 3]? = some (.cells #[.slice a2 n2 c2, .pointer (some ⟨w.heap.size + 2, 0, none⟩), .int .i64 j] 329)
section
variable {w W W' : World} {i j i' j' : Int} {a1 a2 : Option Addr} {n1 c1 n2 c2 : Nat} {u1 u2 u1' u2' : Value}
theorem LSt.ext (h : LSt w W i j a1 a2 n1 c1 n2 c2 u1 u2) (E : Ext W W') : LSt w W' i j a1 a2 n1 c1 n2 c2 u1 u2 :=
  ⟨h.b.trans (E.mono h.b.size), E.block h.h1, E.block h.h2, E.block h.h3, E.block h.h4⟩
theorem grown_below {B b : Nat} {W W' : World} (hg : W.grownBy W' (some b)) (hb : B ≤ b) (hB : B ≤ W.heap.size) : Below B W W' :=
  ⟨hg.os, hg.tape, hg.output, hg.size, fun k hk => hg.block k (by omega) (fun e => by cases e; omega)⟩
theorem LSt.lt (h : LSt w W i j a1 a2 n1 c1 n2 c2 u1 u2) : w.heap.size + 3 < W.heap.size := (Array.getElem?_eq_some_iff.1 h.h4).1
theorem LSt.box1 (h : LSt w W i j a1 a2 n1 c1 n2 c2 u1 u2) (hg : W.grownBy W' (some w.heap.size)) (hn : W'.heap[w.heap.size]? = some (.cells #[u1'] 218)) : LSt w W' i j a1 a2 n1 c1 n2 c2 u1' u2 := by
  have := h.lt
  exact ⟨h.b.trans (grown_below hg (Nat.le_refl _) h.b.size), hn, (hg.block _ (by omega) (by simp)).trans h.h2, (hg.block _ (by omega) (by simp)).trans h.h3, (hg.block _ (by omega) (by simp)).trans h.h4⟩
theorem LSt.rng1 (h : LSt w W i j a1 a2 n1 c1 n2 c2 u1 u2) (hg : W.grownBy W' (some (w.heap.size + 1))) (hn : W'.heap[w.heap.size + 1]? = some (.cells #[.slice a1 n1 c1, .pointer (some ⟨w.heap.size, 0, none⟩), .int .i64 i'] 329)) : LSt w W' i' j a1 a2 n1 c1 n2 c2 u1 u2 := by
  have := h.lt
  exact ⟨h.b.trans (grown_below hg (by omega) h.b.size), (hg.block _ (by omega) (by simp)).trans h.h1, hn, (hg.block _ (by omega) (by simp)).trans h.h3, (hg.block _ (by omega) (by simp)).trans h.h4⟩
theorem LSt.box2 (h : LSt w W i j a1 a2 n1 c1 n2 c2 u1 u2) (hg : W.grownBy W' (some (w.heap.size + 2))) (hn : W'.heap[w.heap.size + 2]? = some (.cells #[u2'] 218)) : LSt w W' i j a1 a2 n1 c1 n2 c2 u1 u2' := by
  have := h.lt
  exact ⟨h.b.trans (grown_below hg (by omega) h.b.size), (hg.block _ (by omega) (by simp)).trans h.h1, (hg.block _ (by omega) (by simp)).trans h.h2, hn, (hg.block _ (by omega) (by simp)).trans h.h4⟩
theorem LSt.rng2 (h : LSt w W i j a1 a2 n1 c1 n2 c2 u1 u2) (hg : W.grownBy W' (some (w.heap.size + 3))) (hn : W'.heap[w.heap.size + 3]? = some (.cells #[.slice a2 n2 c2, .pointer (some ⟨w.heap.size + 2, 0, none⟩), .int .i64 j'] 329)) : LSt w W' i j' a1 a2 n1 c1 n2 c2 u1 u2 := by
  have := h.lt
  exact ⟨h.b.trans (grown_below hg (by omega) h.b.size), (hg.block _ (by omega) (by simp)).trans h.h1, (hg.block _ (by omega) (by simp)).trans h.h2, (hg.block _ (by omega) (by simp)).trans h.h3, hn⟩
end
set_option maxRecDepth 100000 in
set_option maxHeartbeats 1000000 in
theorem lcu_nn (al : Addr) (a1 a2 : Option Addr) (c1 c2 : Nat) (w : World) : Calls Try.prog 142 #[.iface 172 (.pointer (some al)), .iface 315 (.slice a1 0 c1), .iface 315 (.slice a2 0 c2)] w fun e w' => e = .returned (.int .i64 0) ∧ Ext w w' := by
  go_enter_defers Try.func142, Try.ntmps142
  go_wp2_with (first
    | (go_at_call_of 199 a1; refine (range_nil a1 _ c1 _).mono ?_; rintro e w2 ⟨⟨b1, rfl⟩, hE⟩; have HE2 := hid hE; clear hE)
    | (go_at_call_of 199 a2; refine (range_nil a2 _ c2 _).mono ?_; rintro e w3 ⟨⟨b2, rfl⟩, hE⟩; have HE3 := hid (HE2.out.trans hE); clear hE))
  go_loopw [] (fun wr => Hid (Ext w wr)) (fun _ => 0)
  case atStart => exact HE3
  case round =>
    have HR := hrel
    clear hrel
    go_wp2_with (first
      | (go_at_call_of 225 b1; refine (next_nil b1 _).mono ?_; rintro e w4 ⟨rfl, rfl⟩)
      | (go_at_call_of 225 b2; refine (next_nil b2 _).mono ?_; rintro e w4 ⟨rfl, rfl⟩))
    refine leaves_cons (f := 174) (args := #[.pointer (some al), .iface 326 (.pointer (some ⟨b2, 0, none⟩))]) (by simp) (by simp [go_sem]) ?_
    refine (free_d al _ _ .returning _).mono ?_
    rintro e u' w'' ⟨rfl, rfl, rfl⟩
    refine leaves_cons (f := 174) (args := #[.pointer (some al), .iface 326 (.pointer (some ⟨b1, 0, none⟩))]) (by simp [settle]) (by simp [go_sem]) ?_
    refine (free_d al _ _ .returning _).mono ?_
    rintro e u' w'' ⟨rfl, rfl, rfl⟩
    exact ⟨_, results_tmp rfl _ _ _, rfl, HR.out⟩
theorem next_k (r : Nat) (a : Option Addr) (n c : Nat) (p : Option Addr) (k : Nat) (w : World) (hk : k ≤ n) (hn : n ≤ 140737488351232) (b : Bool) (hb : decide (k < n) = b) (h : w.heap[r]? = some (.cells #[.slice a n c, .pointer p, .int .i64 ((k : Int) - 1)] 329)) :
    Calls Try.prog 223 #[.pointer (some ⟨r, 0, none⟩)] w fun e w' => e = .returned (.bool b) ∧ w'.heap[r]? = some (.cells #[.slice a n c, .pointer p, .int .i64 k] 329) ∧ w.grownBy w' (some r) := by
  have := next_any r a n c p ((k : Int) - 1) w (by omega) (by omega) h
  rw [show (k : Int) - 1 + 1 = k by omega] at this
  rwa [show decide ((k : Int) < (n : Int)) = b by rw [← hb]; simp] at this
set_option maxRecDepth 100000 in
set_option maxHeartbeats 1000000 in
theorem lcu_n1 (al : Addr) (a1 a2 : Option Addr) (c1 n2 c2 : Nat) (hn : n2 ≠ 0) (hn2 : n2 ≤ 140737488351232) (w : World) : Calls Try.prog 142 #[.iface 172 (.pointer (some al)), .iface 315 (.slice a1 0 c1), .iface 315 (.slice a2 n2 c2)] w fun e w' => e = .returned (.int .i64 (-1)) ∧ Ext w w' := by
  have HN := hid hn
  clear hn
  go_enter_defers Try.func142, Try.ntmps142
  go_wp2_with (first
    | (go_at_call_of 199 a1; refine (range_nil a1 _ c1 _).mono ?_; rintro e w2 ⟨⟨b1, rfl⟩, hE⟩; have HE2 := hid hE; clear hE)
    | (go_at_call_of 199 a2; refine (range_any a2 al n2 c2 HN.out _).mono ?_; rintro e w3 ⟨rfl, hw⟩; have HE3 := hid (show Ext w w3 by rw [hw]; exact (HE2.out.alloc _).alloc _); have X3 := hid (show w3.heap[w2.heap.size + 1]? = some (.cells #[.slice a2 n2 c2, .pointer (some ⟨w2.heap.size, 0, none⟩), .int .i64 (((0 : Nat) : Int) - 1)] 329) by rw [hw]; have := heap_alloc_new (w2.alloc (.cells #[.nilIface] 218)) (.cells #[.slice a2 n2 c2, .pointer (some ⟨w2.heap.size, 0, none⟩), .int .i64 (-1)] 329); simpa using this); clear hw))
  go_loopw [] (fun wr => Hid (Ext w wr) ∧ Hid (wr.heap[w2.heap.size + 1]? = some (.cells #[.slice a2 n2 c2, .pointer (some ⟨w2.heap.size, 0, none⟩), .int .i64 (((0 : Nat) : Int) - 1)] 329))) (fun _ => 0)
  case atStart => exact ⟨HE3, X3⟩
  case round =>
    obtain ⟨HR, HX⟩ := hrel
    have hs2 := HE2.out.size
    go_wp2_with (first
      | (go_at_call_of 225 b1; refine (next_nil b1 _).mono ?_; rintro e w4 ⟨rfl, rfl⟩)
      | (go_at_call 223; refine (next_k _ a2 n2 c2 _ 0 _ (Nat.zero_le _) hn2 true (by have := HN.out; simp; omega) HX.out).mono ?_; rintro e w5 ⟨rfl, hh, hg⟩; have HR5 := hid (Below.trans HR.out (grown_below hg (show w.heap.size ≤ w2.heap.size + 1 by omega) HR.out.size))))
    refine leaves_cons (f := 174) (args := #[.pointer (some al), .iface 323 (.pointer (some ⟨w2.heap.size + 1, 0, none⟩))]) (by simp) (by simp [go_sem]) ?_
    refine (free_d al _ _ .returning _).mono ?_
    rintro e u' w'' ⟨rfl, rfl, rfl⟩
    refine leaves_cons (f := 174) (args := #[.pointer (some al), .iface 326 (.pointer (some ⟨b1, 0, none⟩))]) (by simp [settle]) (by simp [go_sem]) ?_
    refine (free_d al _ _ .returning _).mono ?_
    rintro e u' w'' ⟨rfl, rfl, rfl⟩
    exact ⟨_, results_tmp rfl _ _ _, rfl, HR5.out⟩
set_option maxRecDepth 100000 in
set_option maxHeartbeats 1000000 in
theorem lcu_1n (al : Addr) (a1 a2 : Option Addr) (n1 c1 c2 : Nat) (hn : n1 ≠ 0) (hn2 : n1 ≤ 140737488351232) (w : World) : Calls Try.prog 142 #[.iface 172 (.pointer (some al)), .iface 315 (.slice a1 n1 c1), .iface 315 (.slice a2 0 c2)] w fun e w' => e = .returned (.int .i64 1) ∧ Ext w w' := by
  have HN := hid hn
  clear hn
  go_enter_defers Try.func142, Try.ntmps142
  go_wp2_with (first
    | (go_at_call_of 199 a1; refine (range_any a1 al n1 c1 HN.out _).mono ?_; rintro e w2 ⟨rfl, hw⟩; have HE2 := hid (show Ext w w2 by rw [hw]; exact ((Ext.refl w).alloc _).alloc _); have X2 := hid (show w2.heap[w.heap.size + 1]? = some (.cells #[.slice a1 n1 c1, .pointer (some ⟨w.heap.size, 0, none⟩), .int .i64 (((0 : Nat) : Int) - 1)] 329) by rw [hw]; have := heap_alloc_new (w.alloc (.cells #[.nilIface] 218)) (.cells #[.slice a1 n1 c1, .pointer (some ⟨w.heap.size, 0, none⟩), .int .i64 (-1)] 329); simpa using this); clear hw)
    | (go_at_call_of 199 a2; refine (range_nil a2 _ c2 _).mono ?_; rintro e w3 ⟨⟨b2, rfl⟩, hE⟩; have HE3 := hid (HE2.out.trans hE); have X3 := hid (hE.block X2.out); clear hE))
  go_loopw [] (fun wr => Hid (Ext w wr) ∧ Hid (wr.heap[w.heap.size + 1]? = some (.cells #[.slice a1 n1 c1, .pointer (some ⟨w.heap.size, 0, none⟩), .int .i64 (((0 : Nat) : Int) - 1)] 329))) (fun _ => 0)
  case atStart => exact ⟨HE3, X3⟩
  case round =>
    obtain ⟨HR, HX⟩ := hrel
    go_wp2_with (first
      | (go_at_call_of 225 b2; refine (next_nil b2 _).mono ?_; rintro e w4 ⟨rfl, rfl⟩)
      | (go_at_call 223; refine (next_k _ a1 n1 c1 _ 0 _ (Nat.zero_le _) hn2 true (by have := HN.out; simp; omega) HX.out).mono ?_; rintro e w5 ⟨rfl, hh, hg⟩; have HR5 := hid (Below.trans HR.out (grown_below hg (show w.heap.size ≤ w.heap.size + 1 by omega) HR.out.size))))
    refine leaves_cons (f := 174) (args := #[.pointer (some al), .iface 326 (.pointer (some ⟨b2, 0, none⟩))]) (by simp) (by simp [go_sem]) ?_
    refine (free_d al _ _ .returning _).mono ?_
    rintro e u' w'' ⟨rfl, rfl, rfl⟩
    refine leaves_cons (f := 174) (args := #[.pointer (some al), .iface 323 (.pointer (some ⟨w.heap.size + 1, 0, none⟩))]) (by simp [settle]) (by simp [go_sem]) ?_
    refine (free_d al _ _ .returning _).mono ?_
    rintro e u' w'' ⟨rfl, rfl, rfl⟩
    exact ⟨_, results_tmp rfl _ _ _, rfl, HR5.out⟩

/-- the items of a list of trees, at every index -/
def ItemsAt (w : World) (l : List Tree) (a : Option Addr) : Prop := ∀ k t, l[k]? = some t → ∃ lb lo v, a = some ⟨lb, lo, none⟩ ∧ lb < w.heap.size ∧ w.cell? ⟨lb, lo + k, none⟩ = some v ∧ RepT (fun b => b < w.heap.size) w t v
set_option maxRecDepth 100000 in
set_option maxHeartbeats 2000000 in
theorem lcu_11 (z : Tree → Tree → Int) (l1 l2 : List Tree) (al : Addr) (a1 a2 : Option Addr) (c1 c2 : Nat) (w : World) (hl1 : l1.length ≠ 0) (hl2 : l2.length ≠ 0) (hn1 : l1.length ≤ 140737488351232) (hn2 : l2.length ≤ 140737488351232)
    (hi1 : ItemsAt w l1 a1) (hi2 : ItemsAt w l2 a2) (hz : ∀ a ∈ l1, ∀ b ∈ l2, CmpU a b (z a b)) :
    Calls Try.prog 142 #[.iface 172 (.pointer (some al)), .iface 315 (.slice a1 l1.length c1), .iface 315 (.slice a2 l2.length c2)] w fun e w' => e = .returned (.int .i64 (cmpLs z l1 l2)) ∧ Ext w w' := by
  have HL1 := hid hl1
  have HL2 := hid hl2
  have HI1 := hid hi1
  have HI2 := hid hi2
  have HZ := hid hz
  obtain ⟨n1, hm1⟩ : ∃ n, l1.length = n := ⟨_, rfl⟩
  obtain ⟨n2, hm2⟩ : ∃ n, l2.length = n := ⟨_, rfl⟩
  rw [hm1] at HL1 hn1 ⊢
  rw [hm2] at HL2 hn2 ⊢
  have HM1 := hid hm1
  have HM2 := hid hm2
  clear hl1 hl2 hi1 hi2 hz hm1 hm2
  go_enter_defers Try.func142, Try.ntmps142
  go_wp2_with (first
    | (go_at_call_of 199 a1; refine (range_any a1 al n1 c1 HL1.out _).mono ?_; rintro e w2 ⟨rfl, rfl⟩)
    | (go_at_call_of 199 a2; refine (range_any a2 al n2 c2 HL2.out _).mono ?_; rintro e w3 ⟨rfl, rfl⟩))
  go_loopg [] (n1 + 1) (fun gk wr => ∃ (k : Nat) (u1 u2 : Value), gk + k = n1 + 1 ∧ k ≤ n1 ∧ k ≤ n2 ∧ Hid (LSt w wr ((k : Int) - 1) ((k : Int) - 1) a1 a2 n1 c1 n2 c2 u1 u2) ∧ Hid (cmpLs z (l1.drop k) (l2.drop k) = cmpLs z l1 l2))
  case atStart =>
    obtain ⟨y1, y2, y3, -⟩ := boxes3 w (.cells #[.nilIface] 218) (.cells #[.slice a1 n1 c1, .pointer (some ⟨w.heap.size, 0, none⟩), .int .i64 (-1)] 329) (.cells #[.nilIface] 218) _ (show Below (w.heap.size + 3) (((w.alloc (.cells #[.nilIface] 218)).alloc (.cells #[.slice a1 n1 c1, .pointer (some ⟨w.heap.size, 0, none⟩), .int .i64 (-1)] 329)).alloc (.cells #[.nilIface] 218)) ((((w.alloc (.cells #[.nilIface] 218)).alloc (.cells #[.slice a1 n1 c1, .pointer (some ⟨w.heap.size, 0, none⟩), .int .i64 (-1)] 329)).alloc (.cells #[.nilIface] 218)).alloc (.cells #[.slice a2 n2 c2, .pointer (some ⟨w.heap.size + 1 + 1, 0, none⟩), .int .i64 (-1)] 329)) from ((Ext.refl _).alloc _).mono (by simp))
    have y4 := heap_alloc_new (((w.alloc (.cells #[.nilIface] 218)).alloc (.cells #[.slice a1 n1 c1, .pointer (some ⟨w.heap.size, 0, none⟩), .int .i64 (-1)] 329)).alloc (.cells #[.nilIface] 218)) (.cells #[.slice a2 n2 c2, .pointer (some ⟨w.heap.size + 1 + 1, 0, none⟩), .int .i64 (-1)] 329)
    refine ⟨0, .nilIface, .nilIface, rfl, Nat.zero_le _, Nat.zero_le _, hid ⟨((((Ext.refl w).alloc _).alloc _).alloc _).alloc _, y1, y2, y3, ?_⟩, hid rfl⟩
    rw [show (((w.alloc (.cells #[.nilIface] 218)).alloc (.cells #[.slice a1 n1 c1, .pointer (some ⟨w.heap.size, 0, none⟩), .int .i64 (-1)] 329)).alloc (.cells #[.nilIface] 218)).heap.size = w.heap.size + 3 by simp] at y4
    exact y4
  case round =>
    obtain ⟨k, u1, u2, hgk, hk1, hk2, HS, HC⟩ := hrel
    have HGK := hid hgk
    clear hgk
    by_cases h1 : k < n1
    · by_cases h2 : k < n2
      · obtain ⟨t1, ht1⟩ : ∃ t, l1[k]? = some t := ⟨_, List.getElem?_eq_getElem (by have := HM1.out; omega)⟩
        obtain ⟨t2, ht2⟩ : ∃ t, l2[k]? = some t := ⟨_, List.getElem?_eq_getElem (by have := HM2.out; omega)⟩
        obtain ⟨lb1, lo1, v1, rfl, hlb1, hc1, hT1⟩ := HI1.out k t1 ht1
        obtain ⟨lb2, lo2, v2, rfl, hlb2, hc2, hT2⟩ := HI2.out k t2 ht2
        have HX1 := hid hc1
        have HX2 := hid hc2
        have HF1 := hid hT1.form
        have HF2 := hid hT2.form
        have HT1 := hid hT1
        have HT2 := hid hT2
        have hst := cmpLs_step (z := z) ht1 ht2
        rw [HC.out] at hst
        have hcu := HZ.out t1 (List.mem_of_getElem? ht1) t2 (List.mem_of_getElem? ht2)
        by_cases hz0 : z t1 t2 = 0
        · rw [if_pos hz0] at hst
          rw [hz0] at hcu
          have HC2 := hid hst.symm
          have HZ0 := hid hcu
          clear hst hcu hz0 hc1 hc2 hT1 hT2 ht1 ht2
          go_wp2_with (first
            | (go_at_call_has 223 (Value.pointer (some ⟨w.heap.size + 1, 0, none⟩)); refine (next_k (w.heap.size + 1) _ n1 c1 _ k _ hk1 hn1 true (decide_eq_true h1) HS.out.h2).mono ?_; rintro e w5 ⟨rfl, hh, hg⟩; have HS5 := hid (HS.out.rng1 hg hh); clear hh hg)
            | (go_at_call_has 223 (Value.pointer (some ⟨w.heap.size + 1 + 1 + 1, 0, none⟩)); refine (next_k _ _ n2 c2 _ k _ hk2 hn2 true (decide_eq_true h2) HS5.out.h4).mono ?_; rintro e w6 ⟨rfl, hh, hg⟩; have HS6 := hid (HS5.out.rng2 hg hh); clear hh hg)
            | (go_at_call_has 222 (Value.pointer (some ⟨w.heap.size + 1, 0, none⟩)); refine (item_any (w.heap.size + 1) w.heap.size lb1 lo1 n1 c1 k u1 v1 _ h1 hn1 HF1.out HS6.out.h2 HS6.out.h1 ((Below.cell HS6.out.b (show lb1 < w.heap.size from hlb1)).trans HX1.out) (by omega) (by omega)).mono ?_; rintro e w7 ⟨rfl, hh, hg⟩; have HS7 := hid (HS6.out.box1 hg hh); clear hh hg)
            | (go_at_call_has 222 (Value.pointer (some ⟨w.heap.size + 1 + 1 + 1, 0, none⟩)); refine (item_any (w.heap.size + 3) (w.heap.size + 2) lb2 lo2 n2 c2 k u2 v2 _ h2 hn2 HF2.out HS7.out.h4 HS7.out.h3 ((Below.cell HS7.out.b (show lb2 < w.heap.size from hlb2)).trans HX2.out) (by omega) (by omega)).mono ?_; rintro e w8 ⟨rfl, hh, hg⟩; have HS8 := hid (HS7.out.box2 hg hh); clear hh hg)
            | (go_at_call 130; refine (HZ0.out _ al _ _ ⟨w.heap.size, v1, rfl, trivial, HS8.out.h1, HT1.out.mono (same_below HS8.out.b (fun b hb => hb)) (fun _ _ _ => trivial)⟩ ⟨w.heap.size + 2, v2, rfl, trivial, HS8.out.h3, HT2.out.mono (same_below HS8.out.b (fun b hb => hb)) (fun _ _ _ => trivial)⟩).mono ?_; rintro e w9 ⟨rfl, hE⟩; have HS9 := hid (HS8.out.ext hE); clear hE))
          go_roundg (gk - 1)
          case measure => have := HGK.out; omega
          case rel => exact ⟨k + 1, v1, v2, by have := HGK.out; omega, by omega, by omega, hid (by rw [show ((k + 1 : Nat) : Int) - 1 = k by omega]; exact HS9.out), HC2⟩
        · rw [if_neg hz0] at hst
          obtain ⟨zz, hzz⟩ : ∃ q, z t1 t2 = q := ⟨_, rfl⟩
          rw [hzz] at hst hcu hz0
          have hd : (zz != 0) = true := by simpa using hz0
          have RES := hid hst.symm
          have HZ0 := hid hcu
          clear hst hcu hz0 hc1 hc2 hT1 hT2 ht1 ht2 hzz
          go_wp2_with (first
            | (go_at_call_has 223 (Value.pointer (some ⟨w.heap.size + 1, 0, none⟩)); refine (next_k (w.heap.size + 1) _ n1 c1 _ k _ hk1 hn1 true (decide_eq_true h1) HS.out.h2).mono ?_; rintro e w5 ⟨rfl, hh, hg⟩; have HS5 := hid (HS.out.rng1 hg hh); clear hh hg)
            | (go_at_call_has 223 (Value.pointer (some ⟨w.heap.size + 1 + 1 + 1, 0, none⟩)); refine (next_k _ _ n2 c2 _ k _ hk2 hn2 true (decide_eq_true h2) HS5.out.h4).mono ?_; rintro e w6 ⟨rfl, hh, hg⟩; have HS6 := hid (HS5.out.rng2 hg hh); clear hh hg)
            | (go_at_call_has 222 (Value.pointer (some ⟨w.heap.size + 1, 0, none⟩)); refine (item_any (w.heap.size + 1) w.heap.size lb1 lo1 n1 c1 k u1 v1 _ h1 hn1 HF1.out HS6.out.h2 HS6.out.h1 ((Below.cell HS6.out.b (show lb1 < w.heap.size from hlb1)).trans HX1.out) (by omega) (by omega)).mono ?_; rintro e w7 ⟨rfl, hh, hg⟩; have HS7 := hid (HS6.out.box1 hg hh); clear hh hg)
            | (go_at_call_has 222 (Value.pointer (some ⟨w.heap.size + 1 + 1 + 1, 0, none⟩)); refine (item_any (w.heap.size + 3) (w.heap.size + 2) lb2 lo2 n2 c2 k u2 v2 _ h2 hn2 HF2.out HS7.out.h4 HS7.out.h3 ((Below.cell HS7.out.b (show lb2 < w.heap.size from hlb2)).trans HX2.out) (by omega) (by omega)).mono ?_; rintro e w8 ⟨rfl, hh, hg⟩; have HS8 := hid (HS7.out.box2 hg hh); clear hh hg)
            | (go_at_call 130; refine (HZ0.out _ al _ _ ⟨w.heap.size, v1, rfl, trivial, HS8.out.h1, HT1.out.mono (same_below HS8.out.b (fun b hb => hb)) (fun _ _ _ => trivial)⟩ ⟨w.heap.size + 2, v2, rfl, trivial, HS8.out.h3, HT2.out.mono (same_below HS8.out.b (fun b hb => hb)) (fun _ _ _ => trivial)⟩).mono ?_; rintro e w9 ⟨rfl, hE⟩; have HS9 := hid (HS8.out.ext hE); clear hE))
          refine leaves_cons (f := 174) (args := #[.pointer (some al), .iface 323 (.pointer (some ⟨w.heap.size + 1 + 1 + 1, 0, none⟩))]) (by simp) (by simp [go_sem]) ?_
          refine (free_d al _ _ .returning _).mono ?_
          rintro e u' w'' ⟨rfl, rfl, rfl⟩
          refine leaves_cons (f := 174) (args := #[.pointer (some al), .iface 323 (.pointer (some ⟨w.heap.size + 1, 0, none⟩))]) (by simp [settle]) (by simp [go_sem]) ?_
          refine (free_d al _ _ .returning _).mono ?_
          rintro e u' w'' ⟨rfl, rfl, rfl⟩
          refine ⟨_, results_tmp rfl _ _ _, ?_, HS9.out.b⟩
          exact congrArg (fun q => Ending.returned (.int .i64 q)) (show (zz : Int) = cmpLs z l1 l2 from RES.out)
      · have RES := hid (show (1 : Int) = cmpLs z l1 l2 from by
          have hn : l2.drop k = [] := List.drop_eq_nil_of_le (by have := HM2.out; omega)
          have hc : l1.drop k = l1[k]'(by have := HM1.out; omega) :: l1.drop (k + 1) := List.drop_eq_getElem_cons (by have := HM1.out; omega)
          rw [← HC.out, hn, hc]; rfl)
        go_wp2_with (first
            | (go_at_call_has 223 (Value.pointer (some ⟨w.heap.size + 1, 0, none⟩)); refine (next_k (w.heap.size + 1) _ n1 c1 _ k _ hk1 hn1 true (decide_eq_true h1) HS.out.h2).mono ?_; rintro e w5 ⟨rfl, hh, hg⟩; have HS5 := hid (HS.out.rng1 hg hh); clear hh hg)
            | (go_at_call_has 223 (Value.pointer (some ⟨w.heap.size + 1 + 1 + 1, 0, none⟩)); refine (next_k _ _ n2 c2 _ k _ hk2 hn2 false (decide_eq_false h2) HS5.out.h4).mono ?_; rintro e w6 ⟨rfl, hh, hg⟩; have HS6 := hid (HS5.out.rng2 hg hh); clear hh hg))
        refine leaves_cons (f := 174) (args := #[.pointer (some al), .iface 323 (.pointer (some ⟨w.heap.size + 1 + 1 + 1, 0, none⟩))]) (by simp) (by simp [go_sem]) ?_
        refine (free_d al _ _ .returning _).mono ?_
        rintro e u' w'' ⟨rfl, rfl, rfl⟩
        refine leaves_cons (f := 174) (args := #[.pointer (some al), .iface 323 (.pointer (some ⟨w.heap.size + 1, 0, none⟩))]) (by simp [settle]) (by simp [go_sem]) ?_
        refine (free_d al _ _ .returning _).mono ?_
        rintro e u' w'' ⟨rfl, rfl, rfl⟩
        refine ⟨_, results_tmp rfl _ _ _, ?_, HS6.out.b⟩
        exact congrArg (fun q => Ending.returned (.int .i64 q)) (show (1 : Int) = cmpLs z l1 l2 from RES.out)
    · by_cases h2 : k < n2
      · have RES := hid (show (-1 : Int) = cmpLs z l1 l2 from by
          have hn : l1.drop k = [] := List.drop_eq_nil_of_le (by have := HM1.out; omega)
          have hc : l2.drop k = l2[k]'(by have := HM2.out; omega) :: l2.drop (k + 1) := List.drop_eq_getElem_cons (by have := HM2.out; omega)
          rw [← HC.out, hn, hc]; rfl)
        go_wp2_with (first
            | (go_at_call_has 223 (Value.pointer (some ⟨w.heap.size + 1, 0, none⟩)); refine (next_k (w.heap.size + 1) _ n1 c1 _ k _ hk1 hn1 false (decide_eq_false h1) HS.out.h2).mono ?_; rintro e w5 ⟨rfl, hh, hg⟩; have HS5 := hid (HS.out.rng1 hg hh); clear hh hg)
            | (go_at_call_has 223 (Value.pointer (some ⟨w.heap.size + 1 + 1 + 1, 0, none⟩)); refine (next_k _ _ n2 c2 _ k _ hk2 hn2 true (decide_eq_true h2) HS5.out.h4).mono ?_; rintro e w6 ⟨rfl, hh, hg⟩; have HS6 := hid (HS5.out.rng2 hg hh); clear hh hg))
        refine leaves_cons (f := 174) (args := #[.pointer (some al), .iface 323 (.pointer (some ⟨w.heap.size + 1 + 1 + 1, 0, none⟩))]) (by simp) (by simp [go_sem]) ?_
        refine (free_d al _ _ .returning _).mono ?_
        rintro e u' w'' ⟨rfl, rfl, rfl⟩
        refine leaves_cons (f := 174) (args := #[.pointer (some al), .iface 323 (.pointer (some ⟨w.heap.size + 1, 0, none⟩))]) (by simp [settle]) (by simp [go_sem]) ?_
        refine (free_d al _ _ .returning _).mono ?_
        rintro e u' w'' ⟨rfl, rfl, rfl⟩
        refine ⟨_, results_tmp rfl _ _ _, ?_, HS6.out.b⟩
        exact congrArg (fun q => Ending.returned (.int .i64 q)) (show (-1 : Int) = cmpLs z l1 l2 from RES.out)
      · have RES := hid (show (0 : Int) = cmpLs z l1 l2 from by
          have hn : l1.drop k = [] := List.drop_eq_nil_of_le (by have := HM1.out; omega)
          have hc : l2.drop k = [] := List.drop_eq_nil_of_le (by have := HM2.out; omega)
          rw [← HC.out, hn, hc]; rfl)
        go_wp2_with (first
            | (go_at_call_has 223 (Value.pointer (some ⟨w.heap.size + 1, 0, none⟩)); refine (next_k (w.heap.size + 1) _ n1 c1 _ k _ hk1 hn1 false (decide_eq_false h1) HS.out.h2).mono ?_; rintro e w5 ⟨rfl, hh, hg⟩; have HS5 := hid (HS.out.rng1 hg hh); clear hh hg)
            | (go_at_call_has 223 (Value.pointer (some ⟨w.heap.size + 1 + 1 + 1, 0, none⟩)); refine (next_k _ _ n2 c2 _ k _ hk2 hn2 false (decide_eq_false h2) HS5.out.h4).mono ?_; rintro e w6 ⟨rfl, hh, hg⟩; have HS6 := hid (HS5.out.rng2 hg hh); clear hh hg))
        refine leaves_cons (f := 174) (args := #[.pointer (some al), .iface 323 (.pointer (some ⟨w.heap.size + 1 + 1 + 1, 0, none⟩))]) (by simp) (by simp [go_sem]) ?_
        refine (free_d al _ _ .returning _).mono ?_
        rintro e u' w'' ⟨rfl, rfl, rfl⟩
        refine leaves_cons (f := 174) (args := #[.pointer (some al), .iface 323 (.pointer (some ⟨w.heap.size + 1, 0, none⟩))]) (by simp [settle]) (by simp [go_sem]) ?_
        refine (free_d al _ _ .returning _).mono ?_
        rintro e u' w'' ⟨rfl, rfl, rfl⟩
        refine ⟨_, results_tmp rfl _ _ _, ?_, HS6.out.b⟩
        exact congrArg (fun q => Ending.returned (.int .i64 q)) (show (0 : Int) = cmpLs z l1 l2 from RES.out)
end Go.Proofs.Ytempfaefopfobaa
