/- LEqu: value.ListEqualsUsing, of lists that lie in an interface themselves or behind a pointer. -/
import Derived.Test.YtempfaefopfobaaEquScal

set_option maxRecDepth 100000
namespace Go.Proofs.Ytempfaefopfobaa
open Go.ChangeShapes Go.WideShapes Go.ChangeAt Go.RowKit
set_option linter.unusedVariables false
set_option linter.unusedSimpArgs false

theorem eqLs_step {z : Tree → Tree → Bool} {l1 l2 : List Tree} {k : Nat} {a b : Tree} (h1 : l1[k]? = some a) (h2 : l2[k]? = some b) : eqLs z (l1.drop k) (l2.drop k) = (z a b && eqLs z (l1.drop (k + 1)) (l2.drop (k + 1))) := by
  obtain ⟨h3, rfl⟩ := List.getElem?_eq_some_iff.1 h1
  obtain ⟨h4, rfl⟩ := List.getElem?_eq_some_iff.1 h2
  rw [List.drop_eq_getElem_cons h3, List.drop_eq_getElem_cons h4]
  rfl
theorem eqLs_len {z : Tree → Tree → Bool} : ∀ {l1 l2 : List Tree}, l1.length ≠ l2.length → eqLs z l1 l2 = false
  | [], [], h => absurd rfl h
  | [], _ :: _, _ => rfl
  | _ :: _, [], _ => rfl
  | a :: x, b :: y, h => by
    unfold eqLs
    rw [eqLs_len (l1 := x) (l2 := y) (by simpa using h), Bool.and_false]
theorem llen_any (a : Option Addr) (n c : Nat) (w : World) : Calls Try.prog 197 #[.slice a n c] w fun e w' => e = .returned (.int .i64 n) ∧ w = w' := by
  go_enter Try.func197, Try.ntmps197
  go_wp2_with fail
  go_ret
  exact ⟨rfl, rfl⟩
theorem loadLU (b : Nat) (x : Value) (w : World) (h : w.cell? ⟨b, 0, none⟩ = some x) : (loadVar 315 ⟨b, 0, none⟩).run Try.prog w = .ok x w := by
  simp [loadVar, go_sem, h]
@[go_sem] theorem mpl_RangeUsing (b : Nat) (x : Value) (w : World) (h : w.cell? ⟨b, 0, none⟩ = some x) : (method 431 325 (.pointer (some ⟨b, 0, none⟩)) "RangeUsing").run Try.prog w = .ok (199, x) w :=
  run_method_ptrval (by kernel_rfl) Try.underlying325 (loadLU b x w h)
@[go_sem] theorem mpl_Length (b : Nat) (x : Value) (w : World) (h : w.cell? ⟨b, 0, none⟩ = some x) : (method 431 325 (.pointer (some ⟨b, 0, none⟩)) "Length").run Try.prog w = .ok (197, x) w :=
  run_method_ptrval (by kernel_rfl) Try.underlying325 (loadLU b x w h)
theorem leu_ne_v (al : Addr) (a1 a2 : Option Addr) (n1 c1 n2 c2 : Nat) (hn : n1 ≠ n2) (w : World) : Calls Try.prog 200 #[.iface 172 (.pointer (some al)), .iface 315 (.slice a1 n1 c1), .iface 315 (.slice a2 n2 c2)] w fun e w' => e = .returned (.bool false) ∧ Ext w w' := by
  have hd : ((n1 : Int) != (n2 : Int)) = true := by rw [bne_iff_ne]; omega
  clear hn
  go_enter_defers Try.func200, Try.ntmps200
  go_wp2_with (first
    | (go_at_call_of 197 a1; refine (llen_any a1 n1 c1 _).mono ?_; rintro e w2 ⟨rfl, rfl⟩)
    | (go_at_call_of 197 a2; refine (llen_any a2 n2 c2 _).mono ?_; rintro e w2 ⟨rfl, rfl⟩))
  exact ⟨_, results_tmp rfl _ _ _, rfl, Ext.refl _⟩
set_option maxHeartbeats 1000000 in
theorem leu_00_v (al : Addr) (a1 a2 : Option Addr) (c1 c2 : Nat) (w : World) : Calls Try.prog 200 #[.iface 172 (.pointer (some al)), .iface 315 (.slice a1 0 c1), .iface 315 (.slice a2 0 c2)] w fun e w' => e = .returned (.bool true) ∧ Ext w w' := by
  go_enter_defers Try.func200, Try.ntmps200
  go_wp2_with (first
    | (go_at_call_of 197 a1; refine (llen_any a1 0 c1 _).mono ?_; rintro e w2 ⟨rfl, rfl⟩)
    | (go_at_call_of 197 a2; refine (llen_any a2 0 c2 _).mono ?_; rintro e w2 ⟨rfl, rfl⟩)
    | (go_at_call_of 199 a1; refine (range_nil a1 _ c1 _).mono ?_; rintro e w2 ⟨⟨b1, rfl⟩, hE⟩; have HE2 := hid hE; clear hE)
    | (go_at_call_of 199 a2; refine (range_nil a2 _ c2 _).mono ?_; rintro e w3 ⟨⟨b2, rfl⟩, hE⟩; have HE3 := hid (HE2.out.trans hE); clear hE))
  go_loopw [] (fun wr => Hid (Ext w wr)) (fun _ => 0)
  case atStart => exact HE3
  case round =>
    have HR := hrel
    clear hrel
    go_wp2_with (first
      | (go_at_call_of 225 b1; refine (next_nil b1 _).mono ?_; rintro e w4 ⟨rfl, rfl⟩))
    refine leaves_cons (f := 174) (args := #[.pointer (some al), .iface 326 (.pointer (some ⟨b2, 0, none⟩))]) (by simp) (by simp [go_sem]) ?_
    refine (free_d al _ _ .returning _).mono ?_
    rintro e u' w'' ⟨rfl, rfl, rfl⟩
    refine leaves_cons (f := 174) (args := #[.pointer (some al), .iface 326 (.pointer (some ⟨b1, 0, none⟩))]) (by simp [settle]) (by simp [go_sem]) ?_
    refine (free_d al _ _ .returning _).mono ?_
    rintro e u' w'' ⟨rfl, rfl, rfl⟩
    exact ⟨_, results_tmp rfl _ _ _, rfl, HR.out⟩
set_option maxHeartbeats 2000000 in
theorem leu_11_v (z : Tree → Tree → Bool) (l1 l2 : List Tree) (n : Nat) (al : Addr) (a1 a2 : Option Addr) (c1 c2 : Nat) (w : World) (hl1 : l1.length = n) (hl2 : l2.length = n) (hn0 : n ≠ 0) (hn : n ≤ 140737488351232)
    (hi1 : ItemsAt w l1 a1) (hi2 : ItemsAt w l2 a2) (hz : ∀ a ∈ l1, ∀ b ∈ l2, EquU a b (z a b)) :
    Calls Try.prog 200 #[.iface 172 (.pointer (some al)), .iface 315 (.slice a1 n c1), .iface 315 (.slice a2 n c2)] w fun e w' => e = .returned (.bool (eqLs z l1 l2)) ∧ Ext w w' := by
  have HN0 := hid hn0
  have HI1 := hid hi1
  have HI2 := hid hi2
  have HZ := hid hz
  have HM1 := hid hl1
  have HM2 := hid hl2
  clear hl1 hl2 hi1 hi2 hz hn0
  go_enter_defers Try.func200, Try.ntmps200
  go_wp2_with (first
    | (go_at_call_of 197 a1; refine (llen_any a1 n c1 _).mono ?_; rintro e w2 ⟨rfl, rfl⟩)
    | (go_at_call_of 197 a2; refine (llen_any a2 n c2 _).mono ?_; rintro e w2 ⟨rfl, rfl⟩)
    | (go_at_call_of 199 a1; refine (range_any a1 al n c1 HN0.out _).mono ?_; rintro e w2 ⟨rfl, rfl⟩)
    | (go_at_call_of 199 a2; refine (range_any a2 al n c2 HN0.out _).mono ?_; rintro e w3 ⟨rfl, rfl⟩))
  go_loopg [] (n + 1) (fun gk wr => ∃ (k : Nat) (u1 u2 : Value), gk + k = n + 1 ∧ k ≤ n ∧ Hid (LSt w wr ((k : Int) - 1) ((k : Int) - 1) a1 a2 n c1 n c2 u1 u2) ∧ Hid (eqLs z (l1.drop k) (l2.drop k) = eqLs z l1 l2))
  case atStart =>
    obtain ⟨y1, y2, y3, -⟩ := boxes3 w (.cells #[.nilIface] 218) (.cells #[.slice a1 n c1, .pointer (some ⟨w.heap.size, 0, none⟩), .int .i64 (-1)] 329) (.cells #[.nilIface] 218) _ (show Below (w.heap.size + 3) (((w.alloc (.cells #[.nilIface] 218)).alloc (.cells #[.slice a1 n c1, .pointer (some ⟨w.heap.size, 0, none⟩), .int .i64 (-1)] 329)).alloc (.cells #[.nilIface] 218)) ((((w.alloc (.cells #[.nilIface] 218)).alloc (.cells #[.slice a1 n c1, .pointer (some ⟨w.heap.size, 0, none⟩), .int .i64 (-1)] 329)).alloc (.cells #[.nilIface] 218)).alloc (.cells #[.slice a2 n c2, .pointer (some ⟨w.heap.size + 1 + 1, 0, none⟩), .int .i64 (-1)] 329)) from ((Ext.refl _).alloc _).mono (by simp))
    have y4 := heap_alloc_new (((w.alloc (.cells #[.nilIface] 218)).alloc (.cells #[.slice a1 n c1, .pointer (some ⟨w.heap.size, 0, none⟩), .int .i64 (-1)] 329)).alloc (.cells #[.nilIface] 218)) (.cells #[.slice a2 n c2, .pointer (some ⟨w.heap.size + 1 + 1, 0, none⟩), .int .i64 (-1)] 329)
    refine ⟨0, .nilIface, .nilIface, rfl, Nat.zero_le _, hid ⟨((((Ext.refl w).alloc _).alloc _).alloc _).alloc _, y1, y2, y3, ?_⟩, hid rfl⟩
    rw [show (((w.alloc (.cells #[.nilIface] 218)).alloc (.cells #[.slice a1 n c1, .pointer (some ⟨w.heap.size, 0, none⟩), .int .i64 (-1)] 329)).alloc (.cells #[.nilIface] 218)).heap.size = w.heap.size + 3 by simp] at y4
    exact y4
  case round =>
    obtain ⟨k, u1, u2, hgk, hk, HS, HC⟩ := hrel
    have HGK := hid hgk
    clear hgk
    by_cases h1 : k < n
    · obtain ⟨t1, ht1⟩ : ∃ t, l1[k]? = some t := ⟨_, List.getElem?_eq_getElem (by have := HM1.out; omega)⟩
      obtain ⟨t2, ht2⟩ : ∃ t, l2[k]? = some t := ⟨_, List.getElem?_eq_getElem (by have := HM2.out; omega)⟩
      obtain ⟨lb1, lo1, v1, rfl, hlb1, hc1, hT1⟩ := HI1.out k t1 ht1
      obtain ⟨lb2, lo2, v2, rfl, hlb2, hc2, hT2⟩ := HI2.out k t2 ht2
      have HX1 := hid hc1
      have HX2 := hid hc2
      have HF1 := hid hT1.form
      have HF2 := hid hT2.form
      have HT1 := hid hT1
      have HT2 := hid hT2
      have hst := eqLs_step (z := z) ht1 ht2
      rw [HC.out] at hst
      have hcu := HZ.out t1 (List.mem_of_getElem? ht1) t2 (List.mem_of_getElem? ht2)
      cases hz0 : z t1 t2
      all_goals
        rw [hz0] at hst hcu
        have HST := hid hst
        have HZ0 := hid hcu
        clear hst hcu hz0 hc1 hc2 hT1 hT2 ht1 ht2
        go_wp2_with (first
            | (go_at_call_has 223 (Value.pointer (some ⟨w.heap.size + 1, 0, none⟩)); refine (next_k (w.heap.size + 1) _ n c1 _ k _ hk hn true (decide_eq_true h1) HS.out.h2).mono ?_; rintro e w5 ⟨rfl, hh, hg⟩; have HS5 := hid (HS.out.rng1 hg hh); clear hh hg)
            | (go_at_call_has 223 (Value.pointer (some ⟨w.heap.size + 1 + 1 + 1, 0, none⟩)); refine (next_k _ _ n c2 _ k _ hk hn true (decide_eq_true h1) HS5.out.h4).mono ?_; rintro e w6 ⟨rfl, hh, hg⟩; have HS6 := hid (HS5.out.rng2 hg hh); clear hh hg)
            | (go_at_call_has 222 (Value.pointer (some ⟨w.heap.size + 1, 0, none⟩)); refine (item_any (w.heap.size + 1) w.heap.size lb1 lo1 n c1 k u1 v1 _ h1 hn HF1.out HS6.out.h2 HS6.out.h1 ((Below.cell HS6.out.b (show lb1 < w.heap.size from hlb1)).trans HX1.out) (by omega) (by omega)).mono ?_; rintro e w7 ⟨rfl, hh, hg⟩; have HS7 := hid (HS6.out.box1 hg hh); clear hh hg)
            | (go_at_call_has 222 (Value.pointer (some ⟨w.heap.size + 1 + 1 + 1, 0, none⟩)); refine (item_any (w.heap.size + 3) (w.heap.size + 2) lb2 lo2 n c2 k u2 v2 _ h1 hn HF2.out HS7.out.h4 HS7.out.h3 ((Below.cell HS7.out.b (show lb2 < w.heap.size from hlb2)).trans HX2.out) (by omega) (by omega)).mono ?_; rintro e w8 ⟨rfl, hh, hg⟩; have HS8 := hid (HS7.out.box2 hg hh); clear hh hg)
            | (go_at_call 119; refine (HZ0.out _ al _ _ ⟨w.heap.size, v1, rfl, trivial, HS8.out.h1, HT1.out.mono (same_below HS8.out.b (fun b hb => hb)) (fun _ _ _ => trivial)⟩ ⟨w.heap.size + 2, v2, rfl, trivial, HS8.out.h3, HT2.out.mono (same_below HS8.out.b (fun b hb => hb)) (fun _ _ _ => trivial)⟩).mono ?_; rintro e w9 ⟨rfl, hE⟩; have HS9 := hid (HS8.out.ext hE); clear hE))
      · refine leaves_cons (f := 174) (args := #[.pointer (some al), .iface 323 (.pointer (some ⟨w.heap.size + 1 + 1 + 1, 0, none⟩))]) (by simp) (by simp [go_sem]) ?_
        refine (free_d al _ _ .returning _).mono ?_
        rintro e u' w'' ⟨rfl, rfl, rfl⟩
        refine leaves_cons (f := 174) (args := #[.pointer (some al), .iface 323 (.pointer (some ⟨w.heap.size + 1, 0, none⟩))]) (by simp [settle]) (by simp [go_sem]) ?_
        refine (free_d al _ _ .returning _).mono ?_
        rintro e u' w'' ⟨rfl, rfl, rfl⟩
        refine ⟨_, results_tmp rfl _ _ _, ?_, HS9.out.b⟩
        exact congrArg (fun q => Ending.returned (.bool q)) (show false = eqLs z l1 l2 from HST.out.symm)
      · go_roundg (gk - 1)
        case measure => have := HGK.out; omega
        case rel => exact ⟨k + 1, v1, v2, by have := HGK.out; omega, by omega, hid (by rw [show ((k + 1 : Nat) : Int) - 1 = k by omega]; exact HS9.out), hid (by have := HST.out; simpa using this.symm)⟩
    · have RES := hid (show true = eqLs z l1 l2 from by
        have hn1 : l1.drop k = [] := List.drop_eq_nil_of_le (by have := HM1.out; omega)
        have hn2 : l2.drop k = [] := List.drop_eq_nil_of_le (by have := HM2.out; omega)
        rw [← HC.out, hn1, hn2]; rfl)
      go_wp2_with (first
        | (go_at_call_has 223 (Value.pointer (some ⟨w.heap.size + 1, 0, none⟩)); refine (next_k (w.heap.size + 1) _ n c1 _ k _ hk hn false (decide_eq_false h1) HS.out.h2).mono ?_; rintro e w5 ⟨rfl, hh, hg⟩; have HS5 := hid (HS.out.rng1 hg hh); clear hh hg))
      refine leaves_cons (f := 174) (args := #[.pointer (some al), .iface 323 (.pointer (some ⟨w.heap.size + 1 + 1 + 1, 0, none⟩))]) (by simp) (by simp [go_sem]) ?_
      refine (free_d al _ _ .returning _).mono ?_
      rintro e u' w'' ⟨rfl, rfl, rfl⟩
      refine leaves_cons (f := 174) (args := #[.pointer (some al), .iface 323 (.pointer (some ⟨w.heap.size + 1, 0, none⟩))]) (by simp [settle]) (by simp [go_sem]) ?_
      refine (free_d al _ _ .returning _).mono ?_
      rintro e u' w'' ⟨rfl, rfl, rfl⟩
      refine ⟨_, results_tmp rfl _ _ _, ?_, HS5.out.b⟩
      exact congrArg (fun q => Ending.returned (.bool q)) RES.out
theorem leu_any_v (z : Tree → Tree → Bool) (l1 l2 : List Tree) (al : Addr) (a1 a2 : Option Addr) (c1 c2 : Nat) (w : World) (hn : l1.length ≤ 140737488351232)
    (hi1 : ItemsAt w l1 a1) (hi2 : ItemsAt w l2 a2) (hz : ∀ a ∈ l1, ∀ b ∈ l2, EquU a b (z a b)) :
    Calls Try.prog 200 #[.iface 172 (.pointer (some al)), .iface 315 (.slice a1 l1.length c1), .iface 315 (.slice a2 l2.length c2)] w fun e w' => e = .returned (.bool (eqLs z l1 l2)) ∧ Ext w w' := by
  by_cases hl : l1.length = l2.length
  · by_cases h0 : l1.length = 0
    · have e1 : l1 = [] := List.eq_nil_of_length_eq_zero h0
      have e2 : l2 = [] := List.eq_nil_of_length_eq_zero (hl ▸ h0)
      subst e1 e2
      exact leu_00_v al a1 a2 c1 c2 w
    · rw [← hl]
      exact leu_11_v z l1 l2 l1.length al a1 a2 c1 c2 w rfl hl.symm h0 hn hi1 hi2 hz
  · rw [eqLs_len hl]
    exact leu_ne_v al a1 a2 _ c1 _ c2 hl w
theorem leu_ne_p (al : Addr) (a1 a2 : Option Addr) (n1 c1 n2 c2 : Nat) (hn : n1 ≠ n2) (w : World) (bp : Nat) (hbp : w.cell? ⟨bp, 0, none⟩ = some (.slice a1 n1 c1)) : Calls Try.prog 200 #[.iface 172 (.pointer (some al)), .iface 325 (.pointer (some ⟨bp, 0, none⟩)), .iface 315 (.slice a2 n2 c2)] w fun e w' => e = .returned (.bool false) ∧ Ext w w' := by
  have hd : ((n1 : Int) != (n2 : Int)) = true := by rw [bne_iff_ne]; omega
  clear hn
  go_enter_defers Try.func200, Try.ntmps200
  go_wp2_with (first
    | (go_at_call_of 197 a1; refine (llen_any a1 n1 c1 _).mono ?_; rintro e w2 ⟨rfl, rfl⟩)
    | (go_at_call_of 197 a2; refine (llen_any a2 n2 c2 _).mono ?_; rintro e w2 ⟨rfl, rfl⟩))
  exact ⟨_, results_tmp rfl _ _ _, rfl, Ext.refl _⟩
set_option maxHeartbeats 1000000 in
theorem leu_00_p (al : Addr) (a1 a2 : Option Addr) (c1 c2 : Nat) (w : World) (bp : Nat) (hbp : w.cell? ⟨bp, 0, none⟩ = some (.slice a1 0 c1)) : Calls Try.prog 200 #[.iface 172 (.pointer (some al)), .iface 325 (.pointer (some ⟨bp, 0, none⟩)), .iface 315 (.slice a2 0 c2)] w fun e w' => e = .returned (.bool true) ∧ Ext w w' := by
  go_enter_defers Try.func200, Try.ntmps200
  go_wp2_with (first
    | (go_at_call_of 197 a1; refine (llen_any a1 0 c1 _).mono ?_; rintro e w2 ⟨rfl, rfl⟩)
    | (go_at_call_of 197 a2; refine (llen_any a2 0 c2 _).mono ?_; rintro e w2 ⟨rfl, rfl⟩)
    | (go_at_call_of 199 a1; refine (range_nil a1 _ c1 _).mono ?_; rintro e w2 ⟨⟨b1, rfl⟩, hE⟩; have HE2 := hid hE; clear hE)
    | (go_at_call_of 199 a2; refine (range_nil a2 _ c2 _).mono ?_; rintro e w3 ⟨⟨b2, rfl⟩, hE⟩; have HE3 := hid (HE2.out.trans hE); clear hE))
  go_loopw [] (fun wr => Hid (Ext w wr)) (fun _ => 0)
  case atStart => exact HE3
  case round =>
    have HR := hrel
    clear hrel
    go_wp2_with (first
      | (go_at_call_of 225 b1; refine (next_nil b1 _).mono ?_; rintro e w4 ⟨rfl, rfl⟩))
    refine leaves_cons (f := 174) (args := #[.pointer (some al), .iface 326 (.pointer (some ⟨b2, 0, none⟩))]) (by simp) (by simp [go_sem]) ?_
    refine (free_d al _ _ .returning _).mono ?_
    rintro e u' w'' ⟨rfl, rfl, rfl⟩
    refine leaves_cons (f := 174) (args := #[.pointer (some al), .iface 326 (.pointer (some ⟨b1, 0, none⟩))]) (by simp [settle]) (by simp [go_sem]) ?_
    refine (free_d al _ _ .returning _).mono ?_
    rintro e u' w'' ⟨rfl, rfl, rfl⟩
    exact ⟨_, results_tmp rfl _ _ _, rfl, HR.out⟩
set_option maxHeartbeats 2000000 in
theorem leu_11_p (z : Tree → Tree → Bool) (l1 l2 : List Tree) (n : Nat) (al : Addr) (a1 a2 : Option Addr) (c1 c2 : Nat) (w : World) (bp : Nat) (hbp : w.cell? ⟨bp, 0, none⟩ = some (.slice a1 n c1)) (hl1 : l1.length = n) (hl2 : l2.length = n) (hn0 : n ≠ 0) (hn : n ≤ 140737488351232)
    (hi1 : ItemsAt w l1 a1) (hi2 : ItemsAt w l2 a2) (hz : ∀ a ∈ l1, ∀ b ∈ l2, EquU a b (z a b)) :
    Calls Try.prog 200 #[.iface 172 (.pointer (some al)), .iface 325 (.pointer (some ⟨bp, 0, none⟩)), .iface 315 (.slice a2 n c2)] w fun e w' => e = .returned (.bool (eqLs z l1 l2)) ∧ Ext w w' := by
  have HN0 := hid hn0
  have HI1 := hid hi1
  have HI2 := hid hi2
  have HZ := hid hz
  have HM1 := hid hl1
  have HM2 := hid hl2
  clear hl1 hl2 hi1 hi2 hz hn0
  go_enter_defers Try.func200, Try.ntmps200
  go_wp2_with (first
    | (go_at_call_of 197 a1; refine (llen_any a1 n c1 _).mono ?_; rintro e w2 ⟨rfl, rfl⟩)
    | (go_at_call_of 197 a2; refine (llen_any a2 n c2 _).mono ?_; rintro e w2 ⟨rfl, rfl⟩)
    | (go_at_call_of 199 a1; refine (range_any a1 al n c1 HN0.out _).mono ?_; rintro e w2 ⟨rfl, rfl⟩)
    | (go_at_call_of 199 a2; refine (range_any a2 al n c2 HN0.out _).mono ?_; rintro e w3 ⟨rfl, rfl⟩))
  go_loopg [] (n + 1) (fun gk wr => ∃ (k : Nat) (u1 u2 : Value), gk + k = n + 1 ∧ k ≤ n ∧ Hid (LSt w wr ((k : Int) - 1) ((k : Int) - 1) a1 a2 n c1 n c2 u1 u2) ∧ Hid (eqLs z (l1.drop k) (l2.drop k) = eqLs z l1 l2))
  case atStart =>
    obtain ⟨y1, y2, y3, -⟩ := boxes3 w (.cells #[.nilIface] 218) (.cells #[.slice a1 n c1, .pointer (some ⟨w.heap.size, 0, none⟩), .int .i64 (-1)] 329) (.cells #[.nilIface] 218) _ (show Below (w.heap.size + 3) (((w.alloc (.cells #[.nilIface] 218)).alloc (.cells #[.slice a1 n c1, .pointer (some ⟨w.heap.size, 0, none⟩), .int .i64 (-1)] 329)).alloc (.cells #[.nilIface] 218)) ((((w.alloc (.cells #[.nilIface] 218)).alloc (.cells #[.slice a1 n c1, .pointer (some ⟨w.heap.size, 0, none⟩), .int .i64 (-1)] 329)).alloc (.cells #[.nilIface] 218)).alloc (.cells #[.slice a2 n c2, .pointer (some ⟨w.heap.size + 1 + 1, 0, none⟩), .int .i64 (-1)] 329)) from ((Ext.refl _).alloc _).mono (by simp))
    have y4 := heap_alloc_new (((w.alloc (.cells #[.nilIface] 218)).alloc (.cells #[.slice a1 n c1, .pointer (some ⟨w.heap.size, 0, none⟩), .int .i64 (-1)] 329)).alloc (.cells #[.nilIface] 218)) (.cells #[.slice a2 n c2, .pointer (some ⟨w.heap.size + 1 + 1, 0, none⟩), .int .i64 (-1)] 329)
    refine ⟨0, .nilIface, .nilIface, rfl, Nat.zero_le _, hid ⟨((((Ext.refl w).alloc _).alloc _).alloc _).alloc _, y1, y2, y3, ?_⟩, hid rfl⟩
    rw [show (((w.alloc (.cells #[.nilIface] 218)).alloc (.cells #[.slice a1 n c1, .pointer (some ⟨w.heap.size, 0, none⟩), .int .i64 (-1)] 329)).alloc (.cells #[.nilIface] 218)).heap.size = w.heap.size + 3 by simp] at y4
    exact y4
  case round =>
    obtain ⟨k, u1, u2, hgk, hk, HS, HC⟩ := hrel
    have HGK := hid hgk
    clear hgk
    by_cases h1 : k < n
    · obtain ⟨t1, ht1⟩ : ∃ t, l1[k]? = some t := ⟨_, List.getElem?_eq_getElem (by have := HM1.out; omega)⟩
      obtain ⟨t2, ht2⟩ : ∃ t, l2[k]? = some t := ⟨_, List.getElem?_eq_getElem (by have := HM2.out; omega)⟩
      obtain ⟨lb1, lo1, v1, rfl, hlb1, hc1, hT1⟩ := HI1.out k t1 ht1
      obtain ⟨lb2, lo2, v2, rfl, hlb2, hc2, hT2⟩ := HI2.out k t2 ht2
      have HX1 := hid hc1
      have HX2 := hid hc2
      have HF1 := hid hT1.form
      have HF2 := hid hT2.form
      have HT1 := hid hT1
      have HT2 := hid hT2
      have hst := eqLs_step (z := z) ht1 ht2
      rw [HC.out] at hst
      have hcu := HZ.out t1 (List.mem_of_getElem? ht1) t2 (List.mem_of_getElem? ht2)
      cases hz0 : z t1 t2
      all_goals
        rw [hz0] at hst hcu
        have HST := hid hst
        have HZ0 := hid hcu
        clear hst hcu hz0 hc1 hc2 hT1 hT2 ht1 ht2
        go_wp2_with (first
            | (go_at_call_has 223 (Value.pointer (some ⟨w.heap.size + 1, 0, none⟩)); refine (next_k (w.heap.size + 1) _ n c1 _ k _ hk hn true (decide_eq_true h1) HS.out.h2).mono ?_; rintro e w5 ⟨rfl, hh, hg⟩; have HS5 := hid (HS.out.rng1 hg hh); clear hh hg)
            | (go_at_call_has 223 (Value.pointer (some ⟨w.heap.size + 1 + 1 + 1, 0, none⟩)); refine (next_k _ _ n c2 _ k _ hk hn true (decide_eq_true h1) HS5.out.h4).mono ?_; rintro e w6 ⟨rfl, hh, hg⟩; have HS6 := hid (HS5.out.rng2 hg hh); clear hh hg)
            | (go_at_call_has 222 (Value.pointer (some ⟨w.heap.size + 1, 0, none⟩)); refine (item_any (w.heap.size + 1) w.heap.size lb1 lo1 n c1 k u1 v1 _ h1 hn HF1.out HS6.out.h2 HS6.out.h1 ((Below.cell HS6.out.b (show lb1 < w.heap.size from hlb1)).trans HX1.out) (by omega) (by omega)).mono ?_; rintro e w7 ⟨rfl, hh, hg⟩; have HS7 := hid (HS6.out.box1 hg hh); clear hh hg)
            | (go_at_call_has 222 (Value.pointer (some ⟨w.heap.size + 1 + 1 + 1, 0, none⟩)); refine (item_any (w.heap.size + 3) (w.heap.size + 2) lb2 lo2 n c2 k u2 v2 _ h1 hn HF2.out HS7.out.h4 HS7.out.h3 ((Below.cell HS7.out.b (show lb2 < w.heap.size from hlb2)).trans HX2.out) (by omega) (by omega)).mono ?_; rintro e w8 ⟨rfl, hh, hg⟩; have HS8 := hid (HS7.out.box2 hg hh); clear hh hg)
            | (go_at_call 119; refine (HZ0.out _ al _ _ ⟨w.heap.size, v1, rfl, trivial, HS8.out.h1, HT1.out.mono (same_below HS8.out.b (fun b hb => hb)) (fun _ _ _ => trivial)⟩ ⟨w.heap.size + 2, v2, rfl, trivial, HS8.out.h3, HT2.out.mono (same_below HS8.out.b (fun b hb => hb)) (fun _ _ _ => trivial)⟩).mono ?_; rintro e w9 ⟨rfl, hE⟩; have HS9 := hid (HS8.out.ext hE); clear hE))
      · refine leaves_cons (f := 174) (args := #[.pointer (some al), .iface 323 (.pointer (some ⟨w.heap.size + 1 + 1 + 1, 0, none⟩))]) (by simp) (by simp [go_sem]) ?_
        refine (free_d al _ _ .returning _).mono ?_
        rintro e u' w'' ⟨rfl, rfl, rfl⟩
        refine leaves_cons (f := 174) (args := #[.pointer (some al), .iface 323 (.pointer (some ⟨w.heap.size + 1, 0, none⟩))]) (by simp [settle]) (by simp [go_sem]) ?_
        refine (free_d al _ _ .returning _).mono ?_
        rintro e u' w'' ⟨rfl, rfl, rfl⟩
        refine ⟨_, results_tmp rfl _ _ _, ?_, HS9.out.b⟩
        exact congrArg (fun q => Ending.returned (.bool q)) (show false = eqLs z l1 l2 from HST.out.symm)
      · go_roundg (gk - 1)
        case measure => have := HGK.out; omega
        case rel => exact ⟨k + 1, v1, v2, by have := HGK.out; omega, by omega, hid (by rw [show ((k + 1 : Nat) : Int) - 1 = k by omega]; exact HS9.out), hid (by have := HST.out; simpa using this.symm)⟩
    · have RES := hid (show true = eqLs z l1 l2 from by
        have hn1 : l1.drop k = [] := List.drop_eq_nil_of_le (by have := HM1.out; omega)
        have hn2 : l2.drop k = [] := List.drop_eq_nil_of_le (by have := HM2.out; omega)
        rw [← HC.out, hn1, hn2]; rfl)
      go_wp2_with (first
        | (go_at_call_has 223 (Value.pointer (some ⟨w.heap.size + 1, 0, none⟩)); refine (next_k (w.heap.size + 1) _ n c1 _ k _ hk hn false (decide_eq_false h1) HS.out.h2).mono ?_; rintro e w5 ⟨rfl, hh, hg⟩; have HS5 := hid (HS.out.rng1 hg hh); clear hh hg))
      refine leaves_cons (f := 174) (args := #[.pointer (some al), .iface 323 (.pointer (some ⟨w.heap.size + 1 + 1 + 1, 0, none⟩))]) (by simp) (by simp [go_sem]) ?_
      refine (free_d al _ _ .returning _).mono ?_
      rintro e u' w'' ⟨rfl, rfl, rfl⟩
      refine leaves_cons (f := 174) (args := #[.pointer (some al), .iface 323 (.pointer (some ⟨w.heap.size + 1, 0, none⟩))]) (by simp [settle]) (by simp [go_sem]) ?_
      refine (free_d al _ _ .returning _).mono ?_
      rintro e u' w'' ⟨rfl, rfl, rfl⟩
      refine ⟨_, results_tmp rfl _ _ _, ?_, HS5.out.b⟩
      exact congrArg (fun q => Ending.returned (.bool q)) RES.out
theorem leu_any_p (z : Tree → Tree → Bool) (l1 l2 : List Tree) (al : Addr) (a1 a2 : Option Addr) (c1 c2 : Nat) (w : World) (bp : Nat) (hbp : w.cell? ⟨bp, 0, none⟩ = some (.slice a1 l1.length c1)) (hn : l1.length ≤ 140737488351232)
    (hi1 : ItemsAt w l1 a1) (hi2 : ItemsAt w l2 a2) (hz : ∀ a ∈ l1, ∀ b ∈ l2, EquU a b (z a b)) :
    Calls Try.prog 200 #[.iface 172 (.pointer (some al)), .iface 325 (.pointer (some ⟨bp, 0, none⟩)), .iface 315 (.slice a2 l2.length c2)] w fun e w' => e = .returned (.bool (eqLs z l1 l2)) ∧ Ext w w' := by
  by_cases hl : l1.length = l2.length
  · by_cases h0 : l1.length = 0
    · have e1 : l1 = [] := List.eq_nil_of_length_eq_zero h0
      have e2 : l2 = [] := List.eq_nil_of_length_eq_zero (hl ▸ h0)
      subst e1 e2
      exact leu_00_p al a1 a2 c1 c2 w bp hbp
    · rw [← hl]
      exact leu_11_p z l1 l2 l1.length al a1 a2 c1 c2 w bp hbp rfl hl.symm h0 hn hi1 hi2 hz
  · rw [eqLs_len hl]
    exact leu_ne_p al a1 a2 _ c1 _ c2 hl w bp hbp
end Go.Proofs.Ytempfaefopfobaa
