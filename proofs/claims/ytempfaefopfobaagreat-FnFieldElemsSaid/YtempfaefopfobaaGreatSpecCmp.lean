/- SpecCmp: the reference's comparison of plain values: kindRank, asFloat, comparePlain and what it rests on; CompareValues. -/
import Derived.Test.YtempfaefopfobaaGreatCmpM
import Derived.Test.YtempfaefopfobaaGreatCleanMap
import Derived.Test.YtempfaefopfobaaGreatStrBig
import Derived.Deep.RegionHeld3

set_option maxRecDepth 100000
namespace Go.Proofs.YtempfaefopfobaaGreat
open Go.ChangeShapes Go.WideShapes Go.ChangeAt Go.RowKit
set_option linter.unusedVariables false
set_option linter.unusedSimpArgs false

theorem kr_0 (n : Int) (f : Nat) (s : ByteArray) (kv lv : Value) (w : World) : Calls Tryz.prog 25 #[.agg #[.int .i64 0, .int .i64 n, .float .f64 f, .string s, kv, lv]] w fun e w' => e = .returned (.int .i64 5) ∧ Ext w w' := by
  go_enter Tryz.func25, Tryz.ntmps25
  go_wp2
  go_ret
  exact ⟨rfl, (Ext.refl _).alloc _⟩
theorem kr_1 (n : Int) (f : Nat) (s : ByteArray) (kv lv : Value) (w : World) : Calls Tryz.prog 25 #[.agg #[.int .i64 1, .int .i64 n, .float .f64 f, .string s, kv, lv]] w fun e w' => e = .returned (.int .i64 2) ∧ Ext w w' := by
  go_enter Tryz.func25, Tryz.ntmps25
  go_wp2
  go_ret
  exact ⟨rfl, (Ext.refl _).alloc _⟩
theorem kr_2 (n : Int) (f : Nat) (s : ByteArray) (kv lv : Value) (w : World) : Calls Tryz.prog 25 #[.agg #[.int .i64 2, .int .i64 n, .float .f64 f, .string s, kv, lv]] w fun e w' => e = .returned (.int .i64 0) ∧ Ext w w' := by
  go_enter Tryz.func25, Tryz.ntmps25
  go_wp2
  go_ret
  exact ⟨rfl, (Ext.refl _).alloc _⟩
theorem kr_3 (n : Int) (f : Nat) (s : ByteArray) (kv lv : Value) (w : World) : Calls Tryz.prog 25 #[.agg #[.int .i64 3, .int .i64 n, .float .f64 f, .string s, kv, lv]] w fun e w' => e = .returned (.int .i64 0) ∧ Ext w w' := by
  go_enter Tryz.func25, Tryz.ntmps25
  go_wp2
  go_ret
  exact ⟨rfl, (Ext.refl _).alloc _⟩
theorem kr_4 (n : Int) (f : Nat) (s : ByteArray) (kv lv : Value) (w : World) : Calls Tryz.prog 25 #[.agg #[.int .i64 4, .int .i64 n, .float .f64 f, .string s, kv, lv]] w fun e w' => e = .returned (.int .i64 1) ∧ Ext w w' := by
  go_enter Tryz.func25, Tryz.ntmps25
  go_wp2
  go_ret
  exact ⟨rfl, (Ext.refl _).alloc _⟩
theorem kr_5 (n : Int) (f : Nat) (s : ByteArray) (kv lv : Value) (w : World) : Calls Tryz.prog 25 #[.agg #[.int .i64 5, .int .i64 n, .float .f64 f, .string s, kv, lv]] w fun e w' => e = .returned (.int .i64 3) ∧ Ext w w' := by
  go_enter Tryz.func25, Tryz.ntmps25
  go_wp2
  go_ret
  exact ⟨rfl, (Ext.refl _).alloc _⟩
theorem kr_6 (n : Int) (f : Nat) (s : ByteArray) (kv lv : Value) (w : World) : Calls Tryz.prog 25 #[.agg #[.int .i64 6, .int .i64 n, .float .f64 f, .string s, kv, lv]] w fun e w' => e = .returned (.int .i64 4) ∧ Ext w w' := by
  go_enter Tryz.func25, Tryz.ntmps25
  go_wp2
  go_ret
  exact ⟨rfl, (Ext.refl _).alloc _⟩
theorem fromT_kind (t : Tree) : (fromT t).kind = kcode t := by cases t <;> rfl
theorem kr_any (t : Tree) (cs : List Value) (w : World) (hR : RepGV Any w (fromT t) cs) : Calls Tryz.prog 25 #[.agg cs.toArray] w fun e w' => e = .returned (.int .i64 (rankC (kcode t))) ∧ Ext w w' := by
  cases t <;> cases hR
  · exact kr_0 _ _ _ _ _ w
  · exact kr_1 _ _ _ _ _ w
  · exact kr_2 _ _ _ _ _ w
  · exact kr_3 _ _ _ _ _ w
  · exact kr_4 _ _ _ _ _ w
  · exact kr_5 _ _ _ _ _ w
  · exact kr_6 _ _ _ _ _ w
theorem asf_int (n : Int) (f : Nat) (s : ByteArray) (kv lv : Value) (w : World) : Calls Tryz.prog 27 #[.agg #[.int .i64 2, .int .i64 n, .float .f64 f, .string s, kv, lv]] w fun e w' => e = .returned (.float .f64 (floatOfInt .f64 n)) ∧ Ext w w' := by
  go_enter Tryz.func27, Tryz.ntmps27
  go_wp2
  go_ret
  exact ⟨rfl, (Ext.refl _).alloc _⟩
theorem asf_flt (n : Int) (f : Nat) (s : ByteArray) (kv lv : Value) (w : World) : Calls Tryz.prog 27 #[.agg #[.int .i64 3, .int .i64 n, .float .f64 f, .string s, kv, lv]] w fun e w' => e = .returned (.float .f64 f) ∧ Ext w w' := by
  go_enter Tryz.func27, Tryz.ntmps27
  go_wp2
  go_ret
  exact ⟨rfl, (Ext.refl _).alloc _⟩
/-- what the reference's comparison of plain values says -/
def SpC (t1 t2 : Tree) : Prop := ∀ (W : World) (c1 c2 : List Value), RepGV Any W (fromT t1) c1 → RepGV Any W (fromT t2) c2 →
  Calls Tryz.prog 17 #[.agg c1.toArray, .agg c2.toArray] W fun e W' => e = .returned (.int .i64 (cmpT t1 t2)) ∧ Ext W W'
theorem ints_eq (a : Int) (w : World) : Calls Tryz.prog 10 #[.int .i64 a, .int .i64 a] w fun e w' => e = .returned (.int .i64 0) ∧ w = w' := by
  have h := ints_any a a w
  rwa [show icmp a a = 0 by unfold icmp; rw [if_neg (Int.lt_irrefl _), if_neg (Int.lt_irrefl _)]] at h
theorem icmp_rank {c d : Nat} (hc : c ≤ 6) (hd : d ≤ 6) (hne : rankC c ≠ rankC d) : icmp (rankC c) (rankC d) = cmpC c d := by
  rw [cmpC_rank hc hd hne]
  unfold icmp
  by_cases h : rankC c < rankC d
  · rw [if_pos (by omega), if_pos h]
  · rw [if_neg (by omega), if_neg h, if_pos (by omega)]
theorem icmp_ne {a b : Int} (h : a ≠ b) : icmp a b ≠ 0 := by
  unfold icmp
  split
  · omega
  · split <;> omega
theorem cell6s {w W : World} {b : Nat} {o : Obj} {c0 c1 c2 c3 c4 c5 : Value} {t : TypeId} (h : W.heap[b]? = some (.cells #[c0, c1, c2, c3, c4, c5] t)) :
    W.cell? ⟨b, 0, none⟩ = some c0 ∧ W.cell? ⟨b, 1, none⟩ = some c1 ∧ W.cell? ⟨b, 2, none⟩ = some c2 ∧ W.cell? ⟨b, 3, none⟩ = some c3 ∧ W.cell? ⟨b, 4, none⟩ = some c4 ∧ W.cell? ⟨b, 5, none⟩ = some c5 := (slot6 h).1
set_option maxHeartbeats 2000000 in
theorem cp_kinds (k k' ra rb : Int) (n : Int) (f : Nat) (s : ByteArray) (a1 : Option Addr) (b1 c1 : Nat) (a2 : Option Addr) (b2 c2 : Nat) (n' : Int) (f' : Nat) (s' : ByteArray) (a1' : Option Addr) (b1' c1' : Nat) (a2' : Option Addr) (b2' c2' : Nat) (w : World) (hne : ra ≠ rb) (h1 : ∀ W, Ext w W → Calls Tryz.prog 25 #[.agg #[.int .i64 k, .int .i64 n, .float .f64 f, .string s, .slice a1 b1 c1, .slice a2 b2 c2]] W fun e W' => e = .returned (.int .i64 ra) ∧ Ext W W') (h2 : ∀ W, Ext w W → Calls Tryz.prog 25 #[.agg #[.int .i64 k', .int .i64 n', .float .f64 f', .string s', .slice a1' b1' c1', .slice a2' b2' c2']] W fun e W' => e = .returned (.int .i64 rb) ∧ Ext W W') :
    Calls Tryz.prog 17 #[.agg #[.int .i64 k, .int .i64 n, .float .f64 f, .string s, .slice a1 b1 c1, .slice a2 b2 c2], .agg #[.int .i64 k', .int .i64 n', .float .f64 f', .string s', .slice a1' b1' c1', .slice a2' b2' c2']] w fun e w' => e = .returned (.int .i64 (icmp ra rb)) ∧ Ext w w' := by
  have H1 := hid h1
  have H2 := hid h2
  have hd : (icmp ra rb != 0) = true := by simpa using icmp_ne hne
  clear h1 h2 hne
  go_enter Tryz.func17, Tryz.ntmps17
  go_upto_region 1 with fail
  obtain ⟨x1, x2, hEE⟩ := boxes2 w (.cells #[.int .i64 k, .int .i64 n, .float .f64 f, .string s, .slice a1 b1 c1, .slice a2 b2 c2] 26) (.cells #[.int .i64 k', .int .i64 n', .float .f64 f', .string s', .slice a1' b1' c1', .slice a2' b2' c2'] 26) _ (Below.refl _ _)
  generalize (w.alloc (.cells #[.int .i64 k, .int .i64 n, .float .f64 f, .string s, .slice a1 b1 c1, .slice a2 b2 c2] 26)).alloc (.cells #[.int .i64 k', .int .i64 n', .float .f64 f', .string s', .slice a1' b1' c1', .slice a2' b2' c2'] 26) = w1 at *
  have HE1 := hid hEE
  have K := hid (show ∀ w' : World, Ext w1 w' → (fun w' : World => w'.cell? ⟨w.heap.size, 0, none⟩ = some (.int .i64 k) ∧ w'.cell? ⟨w.heap.size, 1, none⟩ = some (.int .i64 n) ∧ w'.cell? ⟨w.heap.size, 2, none⟩ = some (.float .f64 f) ∧ w'.cell? ⟨w.heap.size, 3, none⟩ = some (.string s) ∧ w'.cell? ⟨w.heap.size, 4, none⟩ = some (.slice a1 b1 c1) ∧ w'.cell? ⟨w.heap.size, 5, none⟩ = some (.slice a2 b2 c2) ∧ w'.cell? ⟨w.heap.size + 1, 0, none⟩ = some (.int .i64 k') ∧ w'.cell? ⟨w.heap.size + 1, 1, none⟩ = some (.int .i64 n') ∧ w'.cell? ⟨w.heap.size + 1, 2, none⟩ = some (.float .f64 f') ∧ w'.cell? ⟨w.heap.size + 1, 3, none⟩ = some (.string s') ∧ w'.cell? ⟨w.heap.size + 1, 4, none⟩ = some (.slice a1' b1' c1') ∧ w'.cell? ⟨w.heap.size + 1, 5, none⟩ = some (.slice a2' b2' c2')) w' from fun w' h => by
    obtain ⟨⟨z0, z1, z2, z3, z4, z5⟩, -⟩ := slot6 (h.block x1)
    obtain ⟨⟨y0, y1, y2, y3, y4, y5⟩, -⟩ := slot6 (h.block x2)
    exact ⟨z0, z1, z2, z3, z4, z5, y0, y1, y2, y3, y4, y5⟩)
  clear x1 x2 hEE
  go_region_held3 (fun w' : World => w'.cell? ⟨w.heap.size, 0, none⟩ = some (.int .i64 k) ∧ w'.cell? ⟨w.heap.size, 1, none⟩ = some (.int .i64 n) ∧ w'.cell? ⟨w.heap.size, 2, none⟩ = some (.float .f64 f) ∧ w'.cell? ⟨w.heap.size, 3, none⟩ = some (.string s) ∧ w'.cell? ⟨w.heap.size, 4, none⟩ = some (.slice a1 b1 c1) ∧ w'.cell? ⟨w.heap.size, 5, none⟩ = some (.slice a2 b2 c2) ∧ w'.cell? ⟨w.heap.size + 1, 0, none⟩ = some (.int .i64 k') ∧ w'.cell? ⟨w.heap.size + 1, 1, none⟩ = some (.int .i64 n') ∧ w'.cell? ⟨w.heap.size + 1, 2, none⟩ = some (.float .f64 f') ∧ w'.cell? ⟨w.heap.size + 1, 3, none⟩ = some (.string s') ∧ w'.cell? ⟨w.heap.size + 1, 4, none⟩ = some (.slice a1' b1' c1') ∧ w'.cell? ⟨w.heap.size + 1, 5, none⟩ = some (.slice a2' b2' c2'))
    (first | with_reducible exact K.out _ HE6.out | with_reducible exact K.out _ HE5.out | with_reducible exact K.out _ (Ext.refl w1).drew)
    (first
      | (go_at_call_of 25 s; refine (H1.out _ (HE1.out.trans (Ext.refl w1).drew)).mono ?_; rintro e w5 ⟨rfl, hE⟩; have HE5 := hid ((Ext.refl w1).drew.trans hE); clear hE)
      | (go_at_call_of 25 s'; refine (H2.out _ (HE1.out.trans HE5.out)).mono ?_; rintro e w6 ⟨rfl, hE⟩; have HE6 := hid (HE5.out.trans hE); clear hE)
      | (go_at_call 10; refine (ints_any _ _ _).mono ?_; rintro e w7 ⟨rfl, rfl⟩))
  all_goals
    go_wp2_with fail
    go_ret
    exact ⟨rfl, HE1.out.trans HE6.out⟩
set_option maxHeartbeats 2000000 in
theorem cp_null (n : Int) (f : Nat) (s : ByteArray) (a1 : Option Addr) (b1 c1 : Nat) (a2 : Option Addr) (b2 c2 : Nat) (n' : Int) (f' : Nat) (s' : ByteArray) (a1' : Option Addr) (b1' c1' : Nat) (a2' : Option Addr) (b2' c2' : Nat) (w : World)  :
    Calls Tryz.prog 17 #[.agg #[.int .i64 0, .int .i64 n, .float .f64 f, .string s, .slice a1 b1 c1, .slice a2 b2 c2], .agg #[.int .i64 0, .int .i64 n', .float .f64 f', .string s', .slice a1' b1' c1', .slice a2' b2' c2']] w fun e w' => e = .returned (.int .i64 (0)) ∧ Ext w w' := by
  go_enter Tryz.func17, Tryz.ntmps17
  go_upto_region 1 with fail
  obtain ⟨x1, x2, hEE⟩ := boxes2 w (.cells #[.int .i64 0, .int .i64 n, .float .f64 f, .string s, .slice a1 b1 c1, .slice a2 b2 c2] 26) (.cells #[.int .i64 0, .int .i64 n', .float .f64 f', .string s', .slice a1' b1' c1', .slice a2' b2' c2'] 26) _ (Below.refl _ _)
  generalize (w.alloc (.cells #[.int .i64 0, .int .i64 n, .float .f64 f, .string s, .slice a1 b1 c1, .slice a2 b2 c2] 26)).alloc (.cells #[.int .i64 0, .int .i64 n', .float .f64 f', .string s', .slice a1' b1' c1', .slice a2' b2' c2'] 26) = w1 at *
  have HE1 := hid hEE
  have K := hid (show ∀ w' : World, Ext w1 w' → (fun w' : World => w'.cell? ⟨w.heap.size, 0, none⟩ = some (.int .i64 0) ∧ w'.cell? ⟨w.heap.size, 1, none⟩ = some (.int .i64 n) ∧ w'.cell? ⟨w.heap.size, 2, none⟩ = some (.float .f64 f) ∧ w'.cell? ⟨w.heap.size, 3, none⟩ = some (.string s) ∧ w'.cell? ⟨w.heap.size, 4, none⟩ = some (.slice a1 b1 c1) ∧ w'.cell? ⟨w.heap.size, 5, none⟩ = some (.slice a2 b2 c2) ∧ w'.cell? ⟨w.heap.size + 1, 0, none⟩ = some (.int .i64 0) ∧ w'.cell? ⟨w.heap.size + 1, 1, none⟩ = some (.int .i64 n') ∧ w'.cell? ⟨w.heap.size + 1, 2, none⟩ = some (.float .f64 f') ∧ w'.cell? ⟨w.heap.size + 1, 3, none⟩ = some (.string s') ∧ w'.cell? ⟨w.heap.size + 1, 4, none⟩ = some (.slice a1' b1' c1') ∧ w'.cell? ⟨w.heap.size + 1, 5, none⟩ = some (.slice a2' b2' c2')) w' from fun w' h => by
    obtain ⟨⟨z0, z1, z2, z3, z4, z5⟩, -⟩ := slot6 (h.block x1)
    obtain ⟨⟨y0, y1, y2, y3, y4, y5⟩, -⟩ := slot6 (h.block x2)
    exact ⟨z0, z1, z2, z3, z4, z5, y0, y1, y2, y3, y4, y5⟩)
  clear x1 x2 hEE
  go_region_held3 (fun w' : World => w'.cell? ⟨w.heap.size, 0, none⟩ = some (.int .i64 0) ∧ w'.cell? ⟨w.heap.size, 1, none⟩ = some (.int .i64 n) ∧ w'.cell? ⟨w.heap.size, 2, none⟩ = some (.float .f64 f) ∧ w'.cell? ⟨w.heap.size, 3, none⟩ = some (.string s) ∧ w'.cell? ⟨w.heap.size, 4, none⟩ = some (.slice a1 b1 c1) ∧ w'.cell? ⟨w.heap.size, 5, none⟩ = some (.slice a2 b2 c2) ∧ w'.cell? ⟨w.heap.size + 1, 0, none⟩ = some (.int .i64 0) ∧ w'.cell? ⟨w.heap.size + 1, 1, none⟩ = some (.int .i64 n') ∧ w'.cell? ⟨w.heap.size + 1, 2, none⟩ = some (.float .f64 f') ∧ w'.cell? ⟨w.heap.size + 1, 3, none⟩ = some (.string s') ∧ w'.cell? ⟨w.heap.size + 1, 4, none⟩ = some (.slice a1' b1' c1') ∧ w'.cell? ⟨w.heap.size + 1, 5, none⟩ = some (.slice a2' b2' c2'))
    (first | with_reducible exact K.out _ HE6.out | with_reducible exact K.out _ HE5.out | with_reducible exact K.out _ (Ext.refl w1).drew)
    (first
      | (go_at_call_of 25 s; refine (kr_0 n f s _ _ _).mono ?_; rintro e w5 ⟨rfl, hE⟩; have HE5 := hid ((Ext.refl w1).drew.trans hE); clear hE)
      | (go_at_call_of 25 s'; refine (kr_0 n' f' s' _ _ _).mono ?_; rintro e w6 ⟨rfl, hE⟩; have HE6 := hid (HE5.out.trans hE); clear hE)
      | (go_at_call 10; refine (ints_eq _ _).mono ?_; rintro e w7 ⟨rfl, rfl⟩))
  all_goals
    obtain ⟨z0, z1, z2, z3, z4, z5, y0, y1, y2, y3, y4, y5⟩ := K.out _ HE6.out
    go_wp2_with (first
      | (go_at_call_of 25 s; refine (kr_0 n f s _ _ _).mono ?_; rintro e w8 ⟨rfl, hE⟩; have HE8 := hid (HE6.out.trans hE); clear hE z0 z1 z2 z3 z4 z5 y0 y1 y2 y3 y4 y5; obtain ⟨z0, z1, z2, z3, z4, z5, y0, y1, y2, y3, y4, y5⟩ := K.out _ HE8.out)
      )
    go_ret
    exact ⟨rfl, HE1.out.trans HE8.out⟩
set_option maxHeartbeats 2000000 in
theorem cp_int (n : Int) (f : Nat) (s : ByteArray) (a1 : Option Addr) (b1 c1 : Nat) (a2 : Option Addr) (b2 c2 : Nat) (n' : Int) (f' : Nat) (s' : ByteArray) (a1' : Option Addr) (b1' c1' : Nat) (a2' : Option Addr) (b2' c2' : Nat) (w : World)  :
    Calls Tryz.prog 17 #[.agg #[.int .i64 2, .int .i64 n, .float .f64 f, .string s, .slice a1 b1 c1, .slice a2 b2 c2], .agg #[.int .i64 2, .int .i64 n', .float .f64 f', .string s', .slice a1' b1' c1', .slice a2' b2' c2']] w fun e w' => e = .returned (.int .i64 (icmp n n')) ∧ Ext w w' := by
  go_enter Tryz.func17, Tryz.ntmps17
  go_upto_region 1 with fail
  obtain ⟨x1, x2, hEE⟩ := boxes2 w (.cells #[.int .i64 2, .int .i64 n, .float .f64 f, .string s, .slice a1 b1 c1, .slice a2 b2 c2] 26) (.cells #[.int .i64 2, .int .i64 n', .float .f64 f', .string s', .slice a1' b1' c1', .slice a2' b2' c2'] 26) _ (Below.refl _ _)
  generalize (w.alloc (.cells #[.int .i64 2, .int .i64 n, .float .f64 f, .string s, .slice a1 b1 c1, .slice a2 b2 c2] 26)).alloc (.cells #[.int .i64 2, .int .i64 n', .float .f64 f', .string s', .slice a1' b1' c1', .slice a2' b2' c2'] 26) = w1 at *
  have HE1 := hid hEE
  have K := hid (show ∀ w' : World, Ext w1 w' → (fun w' : World => w'.cell? ⟨w.heap.size, 0, none⟩ = some (.int .i64 2) ∧ w'.cell? ⟨w.heap.size, 1, none⟩ = some (.int .i64 n) ∧ w'.cell? ⟨w.heap.size, 2, none⟩ = some (.float .f64 f) ∧ w'.cell? ⟨w.heap.size, 3, none⟩ = some (.string s) ∧ w'.cell? ⟨w.heap.size, 4, none⟩ = some (.slice a1 b1 c1) ∧ w'.cell? ⟨w.heap.size, 5, none⟩ = some (.slice a2 b2 c2) ∧ w'.cell? ⟨w.heap.size + 1, 0, none⟩ = some (.int .i64 2) ∧ w'.cell? ⟨w.heap.size + 1, 1, none⟩ = some (.int .i64 n') ∧ w'.cell? ⟨w.heap.size + 1, 2, none⟩ = some (.float .f64 f') ∧ w'.cell? ⟨w.heap.size + 1, 3, none⟩ = some (.string s') ∧ w'.cell? ⟨w.heap.size + 1, 4, none⟩ = some (.slice a1' b1' c1') ∧ w'.cell? ⟨w.heap.size + 1, 5, none⟩ = some (.slice a2' b2' c2')) w' from fun w' h => by
    obtain ⟨⟨z0, z1, z2, z3, z4, z5⟩, -⟩ := slot6 (h.block x1)
    obtain ⟨⟨y0, y1, y2, y3, y4, y5⟩, -⟩ := slot6 (h.block x2)
    exact ⟨z0, z1, z2, z3, z4, z5, y0, y1, y2, y3, y4, y5⟩)
  clear x1 x2 hEE
  go_region_held3 (fun w' : World => w'.cell? ⟨w.heap.size, 0, none⟩ = some (.int .i64 2) ∧ w'.cell? ⟨w.heap.size, 1, none⟩ = some (.int .i64 n) ∧ w'.cell? ⟨w.heap.size, 2, none⟩ = some (.float .f64 f) ∧ w'.cell? ⟨w.heap.size, 3, none⟩ = some (.string s) ∧ w'.cell? ⟨w.heap.size, 4, none⟩ = some (.slice a1 b1 c1) ∧ w'.cell? ⟨w.heap.size, 5, none⟩ = some (.slice a2 b2 c2) ∧ w'.cell? ⟨w.heap.size + 1, 0, none⟩ = some (.int .i64 2) ∧ w'.cell? ⟨w.heap.size + 1, 1, none⟩ = some (.int .i64 n') ∧ w'.cell? ⟨w.heap.size + 1, 2, none⟩ = some (.float .f64 f') ∧ w'.cell? ⟨w.heap.size + 1, 3, none⟩ = some (.string s') ∧ w'.cell? ⟨w.heap.size + 1, 4, none⟩ = some (.slice a1' b1' c1') ∧ w'.cell? ⟨w.heap.size + 1, 5, none⟩ = some (.slice a2' b2' c2'))
    (first | with_reducible exact K.out _ HE6.out | with_reducible exact K.out _ HE5.out | with_reducible exact K.out _ (Ext.refl w1).drew)
    (first
      | (go_at_call_of 25 s; refine (kr_2 n f s _ _ _).mono ?_; rintro e w5 ⟨rfl, hE⟩; have HE5 := hid ((Ext.refl w1).drew.trans hE); clear hE)
      | (go_at_call_of 25 s'; refine (kr_2 n' f' s' _ _ _).mono ?_; rintro e w6 ⟨rfl, hE⟩; have HE6 := hid (HE5.out.trans hE); clear hE)
      | (go_at_call 10; refine (ints_eq _ _).mono ?_; rintro e w7 ⟨rfl, rfl⟩))
  all_goals
    obtain ⟨z0, z1, z2, z3, z4, z5, y0, y1, y2, y3, y4, y5⟩ := K.out _ HE6.out
    go_wp2_with (first
      | (go_at_call_of 25 s; refine (kr_2 n f s _ _ _).mono ?_; rintro e w8 ⟨rfl, hE⟩; have HE8 := hid (HE6.out.trans hE); clear hE z0 z1 z2 z3 z4 z5 y0 y1 y2 y3 y4 y5; obtain ⟨z0, z1, z2, z3, z4, z5, y0, y1, y2, y3, y4, y5⟩ := K.out _ HE8.out)
      | (go_at_call 10; refine (ints_any _ _ _).mono ?_; rintro e w9 ⟨rfl, rfl⟩))
    go_ret
    exact ⟨rfl, HE1.out.trans HE8.out⟩
set_option maxHeartbeats 2000000 in
theorem cp_bool (n : Int) (f : Nat) (s : ByteArray) (a1 : Option Addr) (b1 c1 : Nat) (a2 : Option Addr) (b2 c2 : Nat) (n' : Int) (f' : Nat) (s' : ByteArray) (a1' : Option Addr) (b1' c1' : Nat) (a2' : Option Addr) (b2' c2' : Nat) (w : World)  :
    Calls Tryz.prog 17 #[.agg #[.int .i64 1, .int .i64 n, .float .f64 f, .string s, .slice a1 b1 c1, .slice a2 b2 c2], .agg #[.int .i64 1, .int .i64 n', .float .f64 f', .string s', .slice a1' b1' c1', .slice a2' b2' c2']] w fun e w' => e = .returned (.int .i64 (icmp n n')) ∧ Ext w w' := by
  go_enter Tryz.func17, Tryz.ntmps17
  go_upto_region 1 with fail
  obtain ⟨x1, x2, hEE⟩ := boxes2 w (.cells #[.int .i64 1, .int .i64 n, .float .f64 f, .string s, .slice a1 b1 c1, .slice a2 b2 c2] 26) (.cells #[.int .i64 1, .int .i64 n', .float .f64 f', .string s', .slice a1' b1' c1', .slice a2' b2' c2'] 26) _ (Below.refl _ _)
  generalize (w.alloc (.cells #[.int .i64 1, .int .i64 n, .float .f64 f, .string s, .slice a1 b1 c1, .slice a2 b2 c2] 26)).alloc (.cells #[.int .i64 1, .int .i64 n', .float .f64 f', .string s', .slice a1' b1' c1', .slice a2' b2' c2'] 26) = w1 at *
  have HE1 := hid hEE
  have K := hid (show ∀ w' : World, Ext w1 w' → (fun w' : World => w'.cell? ⟨w.heap.size, 0, none⟩ = some (.int .i64 1) ∧ w'.cell? ⟨w.heap.size, 1, none⟩ = some (.int .i64 n) ∧ w'.cell? ⟨w.heap.size, 2, none⟩ = some (.float .f64 f) ∧ w'.cell? ⟨w.heap.size, 3, none⟩ = some (.string s) ∧ w'.cell? ⟨w.heap.size, 4, none⟩ = some (.slice a1 b1 c1) ∧ w'.cell? ⟨w.heap.size, 5, none⟩ = some (.slice a2 b2 c2) ∧ w'.cell? ⟨w.heap.size + 1, 0, none⟩ = some (.int .i64 1) ∧ w'.cell? ⟨w.heap.size + 1, 1, none⟩ = some (.int .i64 n') ∧ w'.cell? ⟨w.heap.size + 1, 2, none⟩ = some (.float .f64 f') ∧ w'.cell? ⟨w.heap.size + 1, 3, none⟩ = some (.string s') ∧ w'.cell? ⟨w.heap.size + 1, 4, none⟩ = some (.slice a1' b1' c1') ∧ w'.cell? ⟨w.heap.size + 1, 5, none⟩ = some (.slice a2' b2' c2')) w' from fun w' h => by
    obtain ⟨⟨z0, z1, z2, z3, z4, z5⟩, -⟩ := slot6 (h.block x1)
    obtain ⟨⟨y0, y1, y2, y3, y4, y5⟩, -⟩ := slot6 (h.block x2)
    exact ⟨z0, z1, z2, z3, z4, z5, y0, y1, y2, y3, y4, y5⟩)
  clear x1 x2 hEE
  go_region_held3 (fun w' : World => w'.cell? ⟨w.heap.size, 0, none⟩ = some (.int .i64 1) ∧ w'.cell? ⟨w.heap.size, 1, none⟩ = some (.int .i64 n) ∧ w'.cell? ⟨w.heap.size, 2, none⟩ = some (.float .f64 f) ∧ w'.cell? ⟨w.heap.size, 3, none⟩ = some (.string s) ∧ w'.cell? ⟨w.heap.size, 4, none⟩ = some (.slice a1 b1 c1) ∧ w'.cell? ⟨w.heap.size, 5, none⟩ = some (.slice a2 b2 c2) ∧ w'.cell? ⟨w.heap.size + 1, 0, none⟩ = some (.int .i64 1) ∧ w'.cell? ⟨w.heap.size + 1, 1, none⟩ = some (.int .i64 n') ∧ w'.cell? ⟨w.heap.size + 1, 2, none⟩ = some (.float .f64 f') ∧ w'.cell? ⟨w.heap.size + 1, 3, none⟩ = some (.string s') ∧ w'.cell? ⟨w.heap.size + 1, 4, none⟩ = some (.slice a1' b1' c1') ∧ w'.cell? ⟨w.heap.size + 1, 5, none⟩ = some (.slice a2' b2' c2'))
    (first | with_reducible exact K.out _ HE6.out | with_reducible exact K.out _ HE5.out | with_reducible exact K.out _ (Ext.refl w1).drew)
    (first
      | (go_at_call_of 25 s; refine (kr_1 n f s _ _ _).mono ?_; rintro e w5 ⟨rfl, hE⟩; have HE5 := hid ((Ext.refl w1).drew.trans hE); clear hE)
      | (go_at_call_of 25 s'; refine (kr_1 n' f' s' _ _ _).mono ?_; rintro e w6 ⟨rfl, hE⟩; have HE6 := hid (HE5.out.trans hE); clear hE)
      | (go_at_call 10; refine (ints_eq _ _).mono ?_; rintro e w7 ⟨rfl, rfl⟩))
  all_goals
    obtain ⟨z0, z1, z2, z3, z4, z5, y0, y1, y2, y3, y4, y5⟩ := K.out _ HE6.out
    go_wp2_with (first
      | (go_at_call_of 25 s; refine (kr_1 n f s _ _ _).mono ?_; rintro e w8 ⟨rfl, hE⟩; have HE8 := hid (HE6.out.trans hE); clear hE z0 z1 z2 z3 z4 z5 y0 y1 y2 y3 y4 y5; obtain ⟨z0, z1, z2, z3, z4, z5, y0, y1, y2, y3, y4, y5⟩ := K.out _ HE8.out)
      | (go_at_call 10; refine (ints_any _ _ _).mono ?_; rintro e w9 ⟨rfl, rfl⟩))
    go_ret
    exact ⟨rfl, HE1.out.trans HE8.out⟩
set_option maxHeartbeats 2000000 in
theorem cp_intflt (n : Int) (f : Nat) (s : ByteArray) (a1 : Option Addr) (b1 c1 : Nat) (a2 : Option Addr) (b2 c2 : Nat) (n' : Int) (f' : Nat) (s' : ByteArray) (a1' : Option Addr) (b1' c1' : Nat) (a2' : Option Addr) (b2' c2' : Nat) (w : World)  :
    Calls Tryz.prog 17 #[.agg #[.int .i64 2, .int .i64 n, .float .f64 f, .string s, .slice a1 b1 c1, .slice a2 b2 c2], .agg #[.int .i64 3, .int .i64 n', .float .f64 f', .string s', .slice a1' b1' c1', .slice a2' b2' c2']] w fun e w' => e = .returned (.int .i64 (fcmp (floatOfInt .f64 n) f')) ∧ Ext w w' := by
  go_enter Tryz.func17, Tryz.ntmps17
  go_upto_region 1 with fail
  obtain ⟨x1, x2, hEE⟩ := boxes2 w (.cells #[.int .i64 2, .int .i64 n, .float .f64 f, .string s, .slice a1 b1 c1, .slice a2 b2 c2] 26) (.cells #[.int .i64 3, .int .i64 n', .float .f64 f', .string s', .slice a1' b1' c1', .slice a2' b2' c2'] 26) _ (Below.refl _ _)
  generalize (w.alloc (.cells #[.int .i64 2, .int .i64 n, .float .f64 f, .string s, .slice a1 b1 c1, .slice a2 b2 c2] 26)).alloc (.cells #[.int .i64 3, .int .i64 n', .float .f64 f', .string s', .slice a1' b1' c1', .slice a2' b2' c2'] 26) = w1 at *
  have HE1 := hid hEE
  have K := hid (show ∀ w' : World, Ext w1 w' → (fun w' : World => w'.cell? ⟨w.heap.size, 0, none⟩ = some (.int .i64 2) ∧ w'.cell? ⟨w.heap.size, 1, none⟩ = some (.int .i64 n) ∧ w'.cell? ⟨w.heap.size, 2, none⟩ = some (.float .f64 f) ∧ w'.cell? ⟨w.heap.size, 3, none⟩ = some (.string s) ∧ w'.cell? ⟨w.heap.size, 4, none⟩ = some (.slice a1 b1 c1) ∧ w'.cell? ⟨w.heap.size, 5, none⟩ = some (.slice a2 b2 c2) ∧ w'.cell? ⟨w.heap.size + 1, 0, none⟩ = some (.int .i64 3) ∧ w'.cell? ⟨w.heap.size + 1, 1, none⟩ = some (.int .i64 n') ∧ w'.cell? ⟨w.heap.size + 1, 2, none⟩ = some (.float .f64 f') ∧ w'.cell? ⟨w.heap.size + 1, 3, none⟩ = some (.string s') ∧ w'.cell? ⟨w.heap.size + 1, 4, none⟩ = some (.slice a1' b1' c1') ∧ w'.cell? ⟨w.heap.size + 1, 5, none⟩ = some (.slice a2' b2' c2')) w' from fun w' h => by
    obtain ⟨⟨z0, z1, z2, z3, z4, z5⟩, -⟩ := slot6 (h.block x1)
    obtain ⟨⟨y0, y1, y2, y3, y4, y5⟩, -⟩ := slot6 (h.block x2)
    exact ⟨z0, z1, z2, z3, z4, z5, y0, y1, y2, y3, y4, y5⟩)
  clear x1 x2 hEE
  go_region_held3 (fun w' : World => w'.cell? ⟨w.heap.size, 0, none⟩ = some (.int .i64 2) ∧ w'.cell? ⟨w.heap.size, 1, none⟩ = some (.int .i64 n) ∧ w'.cell? ⟨w.heap.size, 2, none⟩ = some (.float .f64 f) ∧ w'.cell? ⟨w.heap.size, 3, none⟩ = some (.string s) ∧ w'.cell? ⟨w.heap.size, 4, none⟩ = some (.slice a1 b1 c1) ∧ w'.cell? ⟨w.heap.size, 5, none⟩ = some (.slice a2 b2 c2) ∧ w'.cell? ⟨w.heap.size + 1, 0, none⟩ = some (.int .i64 3) ∧ w'.cell? ⟨w.heap.size + 1, 1, none⟩ = some (.int .i64 n') ∧ w'.cell? ⟨w.heap.size + 1, 2, none⟩ = some (.float .f64 f') ∧ w'.cell? ⟨w.heap.size + 1, 3, none⟩ = some (.string s') ∧ w'.cell? ⟨w.heap.size + 1, 4, none⟩ = some (.slice a1' b1' c1') ∧ w'.cell? ⟨w.heap.size + 1, 5, none⟩ = some (.slice a2' b2' c2'))
    (first | with_reducible exact K.out _ HE6.out | with_reducible exact K.out _ HE5.out | with_reducible exact K.out _ (Ext.refl w1).drew)
    (first
      | (go_at_call_of 25 s; refine (kr_2 n f s _ _ _).mono ?_; rintro e w5 ⟨rfl, hE⟩; have HE5 := hid ((Ext.refl w1).drew.trans hE); clear hE)
      | (go_at_call_of 25 s'; refine (kr_3 n' f' s' _ _ _).mono ?_; rintro e w6 ⟨rfl, hE⟩; have HE6 := hid (HE5.out.trans hE); clear hE)
      | (go_at_call 10; refine (ints_eq _ _).mono ?_; rintro e w7 ⟨rfl, rfl⟩))
  all_goals
    obtain ⟨z0, z1, z2, z3, z4, z5, y0, y1, y2, y3, y4, y5⟩ := K.out _ HE6.out
    go_upto_region 8 with (first
      | (go_at_call_of 25 s; refine (kr_2 n f s _ _ _).mono ?_; rintro e w8 ⟨rfl, hE⟩; have HE8 := hid (HE6.out.trans hE); clear hE z0 z1 z2 z3 z4 z5 y0 y1 y2 y3 y4 y5; obtain ⟨z0, z1, z2, z3, z4, z5, y0, y1, y2, y3, y4, y5⟩ := K.out _ HE8.out)
      )
    go_region_held3 (fun w' : World => w'.cell? ⟨w.heap.size, 0, none⟩ = some (.int .i64 2) ∧ w'.cell? ⟨w.heap.size, 1, none⟩ = some (.int .i64 n) ∧ w'.cell? ⟨w.heap.size, 2, none⟩ = some (.float .f64 f) ∧ w'.cell? ⟨w.heap.size, 3, none⟩ = some (.string s) ∧ w'.cell? ⟨w.heap.size, 4, none⟩ = some (.slice a1 b1 c1) ∧ w'.cell? ⟨w.heap.size, 5, none⟩ = some (.slice a2 b2 c2) ∧ w'.cell? ⟨w.heap.size + 1, 0, none⟩ = some (.int .i64 3) ∧ w'.cell? ⟨w.heap.size + 1, 1, none⟩ = some (.int .i64 n') ∧ w'.cell? ⟨w.heap.size + 1, 2, none⟩ = some (.float .f64 f') ∧ w'.cell? ⟨w.heap.size + 1, 3, none⟩ = some (.string s') ∧ w'.cell? ⟨w.heap.size + 1, 4, none⟩ = some (.slice a1' b1' c1') ∧ w'.cell? ⟨w.heap.size + 1, 5, none⟩ = some (.slice a2' b2' c2'))
      (first | with_reducible exact K.out _ HE10.out | with_reducible exact K.out _ HE9.out | with_reducible exact K.out _ HE8.out.drew)
      (first
        | (go_at_call_of 27 s; refine (asf_int n f s _ _ _).mono ?_; rintro e w9 ⟨rfl, hE⟩; have HE9 := hid (HE8.out.drew.trans hE); clear hE)
        | (go_at_call_of 27 s'; refine (asf_flt n' f' s' _ _ _).mono ?_; rintro e w10 ⟨rfl, hE⟩; have HE10 := hid (HE9.out.trans hE); clear hE)
        | (go_at_call 26; refine (specflt_any _ _ _).mono ?_; rintro e w11 ⟨rfl, rfl⟩))
    all_goals
      go_wp2_with fail
      go_ret
      exact ⟨rfl, HE1.out.trans HE10.out⟩
set_option maxHeartbeats 2000000 in
theorem cp_fltint (n : Int) (f : Nat) (s : ByteArray) (a1 : Option Addr) (b1 c1 : Nat) (a2 : Option Addr) (b2 c2 : Nat) (n' : Int) (f' : Nat) (s' : ByteArray) (a1' : Option Addr) (b1' c1' : Nat) (a2' : Option Addr) (b2' c2' : Nat) (w : World)  :
    Calls Tryz.prog 17 #[.agg #[.int .i64 3, .int .i64 n, .float .f64 f, .string s, .slice a1 b1 c1, .slice a2 b2 c2], .agg #[.int .i64 2, .int .i64 n', .float .f64 f', .string s', .slice a1' b1' c1', .slice a2' b2' c2']] w fun e w' => e = .returned (.int .i64 (fcmp f (floatOfInt .f64 n'))) ∧ Ext w w' := by
  go_enter Tryz.func17, Tryz.ntmps17
  go_upto_region 1 with fail
  obtain ⟨x1, x2, hEE⟩ := boxes2 w (.cells #[.int .i64 3, .int .i64 n, .float .f64 f, .string s, .slice a1 b1 c1, .slice a2 b2 c2] 26) (.cells #[.int .i64 2, .int .i64 n', .float .f64 f', .string s', .slice a1' b1' c1', .slice a2' b2' c2'] 26) _ (Below.refl _ _)
  generalize (w.alloc (.cells #[.int .i64 3, .int .i64 n, .float .f64 f, .string s, .slice a1 b1 c1, .slice a2 b2 c2] 26)).alloc (.cells #[.int .i64 2, .int .i64 n', .float .f64 f', .string s', .slice a1' b1' c1', .slice a2' b2' c2'] 26) = w1 at *
  have HE1 := hid hEE
  have K := hid (show ∀ w' : World, Ext w1 w' → (fun w' : World => w'.cell? ⟨w.heap.size, 0, none⟩ = some (.int .i64 3) ∧ w'.cell? ⟨w.heap.size, 1, none⟩ = some (.int .i64 n) ∧ w'.cell? ⟨w.heap.size, 2, none⟩ = some (.float .f64 f) ∧ w'.cell? ⟨w.heap.size, 3, none⟩ = some (.string s) ∧ w'.cell? ⟨w.heap.size, 4, none⟩ = some (.slice a1 b1 c1) ∧ w'.cell? ⟨w.heap.size, 5, none⟩ = some (.slice a2 b2 c2) ∧ w'.cell? ⟨w.heap.size + 1, 0, none⟩ = some (.int .i64 2) ∧ w'.cell? ⟨w.heap.size + 1, 1, none⟩ = some (.int .i64 n') ∧ w'.cell? ⟨w.heap.size + 1, 2, none⟩ = some (.float .f64 f') ∧ w'.cell? ⟨w.heap.size + 1, 3, none⟩ = some (.string s') ∧ w'.cell? ⟨w.heap.size + 1, 4, none⟩ = some (.slice a1' b1' c1') ∧ w'.cell? ⟨w.heap.size + 1, 5, none⟩ = some (.slice a2' b2' c2')) w' from fun w' h => by
    obtain ⟨⟨z0, z1, z2, z3, z4, z5⟩, -⟩ := slot6 (h.block x1)
    obtain ⟨⟨y0, y1, y2, y3, y4, y5⟩, -⟩ := slot6 (h.block x2)
    exact ⟨z0, z1, z2, z3, z4, z5, y0, y1, y2, y3, y4, y5⟩)
  clear x1 x2 hEE
  go_region_held3 (fun w' : World => w'.cell? ⟨w.heap.size, 0, none⟩ = some (.int .i64 3) ∧ w'.cell? ⟨w.heap.size, 1, none⟩ = some (.int .i64 n) ∧ w'.cell? ⟨w.heap.size, 2, none⟩ = some (.float .f64 f) ∧ w'.cell? ⟨w.heap.size, 3, none⟩ = some (.string s) ∧ w'.cell? ⟨w.heap.size, 4, none⟩ = some (.slice a1 b1 c1) ∧ w'.cell? ⟨w.heap.size, 5, none⟩ = some (.slice a2 b2 c2) ∧ w'.cell? ⟨w.heap.size + 1, 0, none⟩ = some (.int .i64 2) ∧ w'.cell? ⟨w.heap.size + 1, 1, none⟩ = some (.int .i64 n') ∧ w'.cell? ⟨w.heap.size + 1, 2, none⟩ = some (.float .f64 f') ∧ w'.cell? ⟨w.heap.size + 1, 3, none⟩ = some (.string s') ∧ w'.cell? ⟨w.heap.size + 1, 4, none⟩ = some (.slice a1' b1' c1') ∧ w'.cell? ⟨w.heap.size + 1, 5, none⟩ = some (.slice a2' b2' c2'))
    (first | with_reducible exact K.out _ HE6.out | with_reducible exact K.out _ HE5.out | with_reducible exact K.out _ (Ext.refl w1).drew)
    (first
      | (go_at_call_of 25 s; refine (kr_3 n f s _ _ _).mono ?_; rintro e w5 ⟨rfl, hE⟩; have HE5 := hid ((Ext.refl w1).drew.trans hE); clear hE)
      | (go_at_call_of 25 s'; refine (kr_2 n' f' s' _ _ _).mono ?_; rintro e w6 ⟨rfl, hE⟩; have HE6 := hid (HE5.out.trans hE); clear hE)
      | (go_at_call 10; refine (ints_eq _ _).mono ?_; rintro e w7 ⟨rfl, rfl⟩))
  all_goals
    obtain ⟨z0, z1, z2, z3, z4, z5, y0, y1, y2, y3, y4, y5⟩ := K.out _ HE6.out
    go_upto_region 8 with (first
      | (go_at_call_of 25 s; refine (kr_3 n f s _ _ _).mono ?_; rintro e w8 ⟨rfl, hE⟩; have HE8 := hid (HE6.out.trans hE); clear hE z0 z1 z2 z3 z4 z5 y0 y1 y2 y3 y4 y5; obtain ⟨z0, z1, z2, z3, z4, z5, y0, y1, y2, y3, y4, y5⟩ := K.out _ HE8.out)
      )
    go_region_held3 (fun w' : World => w'.cell? ⟨w.heap.size, 0, none⟩ = some (.int .i64 3) ∧ w'.cell? ⟨w.heap.size, 1, none⟩ = some (.int .i64 n) ∧ w'.cell? ⟨w.heap.size, 2, none⟩ = some (.float .f64 f) ∧ w'.cell? ⟨w.heap.size, 3, none⟩ = some (.string s) ∧ w'.cell? ⟨w.heap.size, 4, none⟩ = some (.slice a1 b1 c1) ∧ w'.cell? ⟨w.heap.size, 5, none⟩ = some (.slice a2 b2 c2) ∧ w'.cell? ⟨w.heap.size + 1, 0, none⟩ = some (.int .i64 2) ∧ w'.cell? ⟨w.heap.size + 1, 1, none⟩ = some (.int .i64 n') ∧ w'.cell? ⟨w.heap.size + 1, 2, none⟩ = some (.float .f64 f') ∧ w'.cell? ⟨w.heap.size + 1, 3, none⟩ = some (.string s') ∧ w'.cell? ⟨w.heap.size + 1, 4, none⟩ = some (.slice a1' b1' c1') ∧ w'.cell? ⟨w.heap.size + 1, 5, none⟩ = some (.slice a2' b2' c2'))
      (first | with_reducible exact K.out _ HE10.out | with_reducible exact K.out _ HE9.out | with_reducible exact K.out _ HE8.out.drew)
      (first
        | (go_at_call_of 27 s; refine (asf_flt n f s _ _ _).mono ?_; rintro e w9 ⟨rfl, hE⟩; have HE9 := hid (HE8.out.drew.trans hE); clear hE)
        | (go_at_call_of 27 s'; refine (asf_int n' f' s' _ _ _).mono ?_; rintro e w10 ⟨rfl, hE⟩; have HE10 := hid (HE9.out.trans hE); clear hE)
        | (go_at_call 26; refine (specflt_any _ _ _).mono ?_; rintro e w11 ⟨rfl, rfl⟩))
    all_goals
      go_wp2_with fail
      go_ret
      exact ⟨rfl, HE1.out.trans HE10.out⟩
set_option maxHeartbeats 2000000 in
theorem cp_flt (n : Int) (f : Nat) (s : ByteArray) (a1 : Option Addr) (b1 c1 : Nat) (a2 : Option Addr) (b2 c2 : Nat) (n' : Int) (f' : Nat) (s' : ByteArray) (a1' : Option Addr) (b1' c1' : Nat) (a2' : Option Addr) (b2' c2' : Nat) (w : World)  :
    Calls Tryz.prog 17 #[.agg #[.int .i64 3, .int .i64 n, .float .f64 f, .string s, .slice a1 b1 c1, .slice a2 b2 c2], .agg #[.int .i64 3, .int .i64 n', .float .f64 f', .string s', .slice a1' b1' c1', .slice a2' b2' c2']] w fun e w' => e = .returned (.int .i64 (fcmp f f')) ∧ Ext w w' := by
  go_enter Tryz.func17, Tryz.ntmps17
  go_upto_region 1 with fail
  obtain ⟨x1, x2, hEE⟩ := boxes2 w (.cells #[.int .i64 3, .int .i64 n, .float .f64 f, .string s, .slice a1 b1 c1, .slice a2 b2 c2] 26) (.cells #[.int .i64 3, .int .i64 n', .float .f64 f', .string s', .slice a1' b1' c1', .slice a2' b2' c2'] 26) _ (Below.refl _ _)
  generalize (w.alloc (.cells #[.int .i64 3, .int .i64 n, .float .f64 f, .string s, .slice a1 b1 c1, .slice a2 b2 c2] 26)).alloc (.cells #[.int .i64 3, .int .i64 n', .float .f64 f', .string s', .slice a1' b1' c1', .slice a2' b2' c2'] 26) = w1 at *
  have HE1 := hid hEE
  have K := hid (show ∀ w' : World, Ext w1 w' → (fun w' : World => w'.cell? ⟨w.heap.size, 0, none⟩ = some (.int .i64 3) ∧ w'.cell? ⟨w.heap.size, 1, none⟩ = some (.int .i64 n) ∧ w'.cell? ⟨w.heap.size, 2, none⟩ = some (.float .f64 f) ∧ w'.cell? ⟨w.heap.size, 3, none⟩ = some (.string s) ∧ w'.cell? ⟨w.heap.size, 4, none⟩ = some (.slice a1 b1 c1) ∧ w'.cell? ⟨w.heap.size, 5, none⟩ = some (.slice a2 b2 c2) ∧ w'.cell? ⟨w.heap.size + 1, 0, none⟩ = some (.int .i64 3) ∧ w'.cell? ⟨w.heap.size + 1, 1, none⟩ = some (.int .i64 n') ∧ w'.cell? ⟨w.heap.size + 1, 2, none⟩ = some (.float .f64 f') ∧ w'.cell? ⟨w.heap.size + 1, 3, none⟩ = some (.string s') ∧ w'.cell? ⟨w.heap.size + 1, 4, none⟩ = some (.slice a1' b1' c1') ∧ w'.cell? ⟨w.heap.size + 1, 5, none⟩ = some (.slice a2' b2' c2')) w' from fun w' h => by
    obtain ⟨⟨z0, z1, z2, z3, z4, z5⟩, -⟩ := slot6 (h.block x1)
    obtain ⟨⟨y0, y1, y2, y3, y4, y5⟩, -⟩ := slot6 (h.block x2)
    exact ⟨z0, z1, z2, z3, z4, z5, y0, y1, y2, y3, y4, y5⟩)
  clear x1 x2 hEE
  go_region_held3 (fun w' : World => w'.cell? ⟨w.heap.size, 0, none⟩ = some (.int .i64 3) ∧ w'.cell? ⟨w.heap.size, 1, none⟩ = some (.int .i64 n) ∧ w'.cell? ⟨w.heap.size, 2, none⟩ = some (.float .f64 f) ∧ w'.cell? ⟨w.heap.size, 3, none⟩ = some (.string s) ∧ w'.cell? ⟨w.heap.size, 4, none⟩ = some (.slice a1 b1 c1) ∧ w'.cell? ⟨w.heap.size, 5, none⟩ = some (.slice a2 b2 c2) ∧ w'.cell? ⟨w.heap.size + 1, 0, none⟩ = some (.int .i64 3) ∧ w'.cell? ⟨w.heap.size + 1, 1, none⟩ = some (.int .i64 n') ∧ w'.cell? ⟨w.heap.size + 1, 2, none⟩ = some (.float .f64 f') ∧ w'.cell? ⟨w.heap.size + 1, 3, none⟩ = some (.string s') ∧ w'.cell? ⟨w.heap.size + 1, 4, none⟩ = some (.slice a1' b1' c1') ∧ w'.cell? ⟨w.heap.size + 1, 5, none⟩ = some (.slice a2' b2' c2'))
    (first | with_reducible exact K.out _ HE6.out | with_reducible exact K.out _ HE5.out | with_reducible exact K.out _ (Ext.refl w1).drew)
    (first
      | (go_at_call_of 25 s; refine (kr_3 n f s _ _ _).mono ?_; rintro e w5 ⟨rfl, hE⟩; have HE5 := hid ((Ext.refl w1).drew.trans hE); clear hE)
      | (go_at_call_of 25 s'; refine (kr_3 n' f' s' _ _ _).mono ?_; rintro e w6 ⟨rfl, hE⟩; have HE6 := hid (HE5.out.trans hE); clear hE)
      | (go_at_call 10; refine (ints_eq _ _).mono ?_; rintro e w7 ⟨rfl, rfl⟩))
  all_goals
    obtain ⟨z0, z1, z2, z3, z4, z5, y0, y1, y2, y3, y4, y5⟩ := K.out _ HE6.out
    go_upto_region 8 with (first
      | (go_at_call_of 25 s; refine (kr_3 n f s _ _ _).mono ?_; rintro e w8 ⟨rfl, hE⟩; have HE8 := hid (HE6.out.trans hE); clear hE z0 z1 z2 z3 z4 z5 y0 y1 y2 y3 y4 y5; obtain ⟨z0, z1, z2, z3, z4, z5, y0, y1, y2, y3, y4, y5⟩ := K.out _ HE8.out)
      )
    go_region_held3 (fun w' : World => w'.cell? ⟨w.heap.size, 0, none⟩ = some (.int .i64 3) ∧ w'.cell? ⟨w.heap.size, 1, none⟩ = some (.int .i64 n) ∧ w'.cell? ⟨w.heap.size, 2, none⟩ = some (.float .f64 f) ∧ w'.cell? ⟨w.heap.size, 3, none⟩ = some (.string s) ∧ w'.cell? ⟨w.heap.size, 4, none⟩ = some (.slice a1 b1 c1) ∧ w'.cell? ⟨w.heap.size, 5, none⟩ = some (.slice a2 b2 c2) ∧ w'.cell? ⟨w.heap.size + 1, 0, none⟩ = some (.int .i64 3) ∧ w'.cell? ⟨w.heap.size + 1, 1, none⟩ = some (.int .i64 n') ∧ w'.cell? ⟨w.heap.size + 1, 2, none⟩ = some (.float .f64 f') ∧ w'.cell? ⟨w.heap.size + 1, 3, none⟩ = some (.string s') ∧ w'.cell? ⟨w.heap.size + 1, 4, none⟩ = some (.slice a1' b1' c1') ∧ w'.cell? ⟨w.heap.size + 1, 5, none⟩ = some (.slice a2' b2' c2'))
      (first | with_reducible exact K.out _ HE10.out | with_reducible exact K.out _ HE9.out | with_reducible exact K.out _ HE8.out.drew)
      (first
        | (go_at_call_of 27 s; refine (asf_flt n f s _ _ _).mono ?_; rintro e w9 ⟨rfl, hE⟩; have HE9 := hid (HE8.out.drew.trans hE); clear hE)
        | (go_at_call_of 27 s'; refine (asf_flt n' f' s' _ _ _).mono ?_; rintro e w10 ⟨rfl, hE⟩; have HE10 := hid (HE9.out.trans hE); clear hE)
        | (go_at_call 26; refine (specflt_any _ _ _).mono ?_; rintro e w11 ⟨rfl, rfl⟩))
    all_goals
      go_wp2_with fail
      go_ret
      exact ⟨rfl, HE1.out.trans HE10.out⟩
set_option maxHeartbeats 2000000 in
theorem cp_str (n : Int) (f : Nat) (s : ByteArray) (a1 : Option Addr) (b1 c1 : Nat) (a2 : Option Addr) (b2 c2 : Nat) (n' : Int) (f' : Nat) (s' : ByteArray) (a1' : Option Addr) (b1' c1' : Nat) (a2' : Option Addr) (b2' c2' : Nat) (w : World) (hs : s.size ≤ 140737488351232) :
    Calls Tryz.prog 17 #[.agg #[.int .i64 4, .int .i64 n, .float .f64 f, .string s, .slice a1 b1 c1, .slice a2 b2 c2], .agg #[.int .i64 4, .int .i64 n', .float .f64 f', .string s', .slice a1' b1' c1', .slice a2' b2' c2']] w fun e w' => e = .returned (.int .i64 (scmp s s')) ∧ Ext w w' := by
  go_enter Tryz.func17, Tryz.ntmps17
  go_upto_region 1 with fail
  obtain ⟨x1, x2, hEE⟩ := boxes2 w (.cells #[.int .i64 4, .int .i64 n, .float .f64 f, .string s, .slice a1 b1 c1, .slice a2 b2 c2] 26) (.cells #[.int .i64 4, .int .i64 n', .float .f64 f', .string s', .slice a1' b1' c1', .slice a2' b2' c2'] 26) _ (Below.refl _ _)
  generalize (w.alloc (.cells #[.int .i64 4, .int .i64 n, .float .f64 f, .string s, .slice a1 b1 c1, .slice a2 b2 c2] 26)).alloc (.cells #[.int .i64 4, .int .i64 n', .float .f64 f', .string s', .slice a1' b1' c1', .slice a2' b2' c2'] 26) = w1 at *
  have HE1 := hid hEE
  have K := hid (show ∀ w' : World, Ext w1 w' → (fun w' : World => w'.cell? ⟨w.heap.size, 0, none⟩ = some (.int .i64 4) ∧ w'.cell? ⟨w.heap.size, 1, none⟩ = some (.int .i64 n) ∧ w'.cell? ⟨w.heap.size, 2, none⟩ = some (.float .f64 f) ∧ w'.cell? ⟨w.heap.size, 3, none⟩ = some (.string s) ∧ w'.cell? ⟨w.heap.size, 4, none⟩ = some (.slice a1 b1 c1) ∧ w'.cell? ⟨w.heap.size, 5, none⟩ = some (.slice a2 b2 c2) ∧ w'.cell? ⟨w.heap.size + 1, 0, none⟩ = some (.int .i64 4) ∧ w'.cell? ⟨w.heap.size + 1, 1, none⟩ = some (.int .i64 n') ∧ w'.cell? ⟨w.heap.size + 1, 2, none⟩ = some (.float .f64 f') ∧ w'.cell? ⟨w.heap.size + 1, 3, none⟩ = some (.string s') ∧ w'.cell? ⟨w.heap.size + 1, 4, none⟩ = some (.slice a1' b1' c1') ∧ w'.cell? ⟨w.heap.size + 1, 5, none⟩ = some (.slice a2' b2' c2')) w' from fun w' h => by
    obtain ⟨⟨z0, z1, z2, z3, z4, z5⟩, -⟩ := slot6 (h.block x1)
    obtain ⟨⟨y0, y1, y2, y3, y4, y5⟩, -⟩ := slot6 (h.block x2)
    exact ⟨z0, z1, z2, z3, z4, z5, y0, y1, y2, y3, y4, y5⟩)
  clear x1 x2 hEE
  go_region_held3 (fun w' : World => w'.cell? ⟨w.heap.size, 0, none⟩ = some (.int .i64 4) ∧ w'.cell? ⟨w.heap.size, 1, none⟩ = some (.int .i64 n) ∧ w'.cell? ⟨w.heap.size, 2, none⟩ = some (.float .f64 f) ∧ w'.cell? ⟨w.heap.size, 3, none⟩ = some (.string s) ∧ w'.cell? ⟨w.heap.size, 4, none⟩ = some (.slice a1 b1 c1) ∧ w'.cell? ⟨w.heap.size, 5, none⟩ = some (.slice a2 b2 c2) ∧ w'.cell? ⟨w.heap.size + 1, 0, none⟩ = some (.int .i64 4) ∧ w'.cell? ⟨w.heap.size + 1, 1, none⟩ = some (.int .i64 n') ∧ w'.cell? ⟨w.heap.size + 1, 2, none⟩ = some (.float .f64 f') ∧ w'.cell? ⟨w.heap.size + 1, 3, none⟩ = some (.string s') ∧ w'.cell? ⟨w.heap.size + 1, 4, none⟩ = some (.slice a1' b1' c1') ∧ w'.cell? ⟨w.heap.size + 1, 5, none⟩ = some (.slice a2' b2' c2'))
    (first | with_reducible exact K.out _ HE6.out | with_reducible exact K.out _ HE5.out | with_reducible exact K.out _ (Ext.refl w1).drew)
    (first
      | (go_at_call_of 25 s; refine (kr_4 n f s _ _ _).mono ?_; rintro e w5 ⟨rfl, hE⟩; have HE5 := hid ((Ext.refl w1).drew.trans hE); clear hE)
      | (go_at_call_of 25 s'; refine (kr_4 n' f' s' _ _ _).mono ?_; rintro e w6 ⟨rfl, hE⟩; have HE6 := hid (HE5.out.trans hE); clear hE)
      | (go_at_call 10; refine (ints_eq _ _).mono ?_; rintro e w7 ⟨rfl, rfl⟩))
  all_goals
    obtain ⟨z0, z1, z2, z3, z4, z5, y0, y1, y2, y3, y4, y5⟩ := K.out _ HE6.out
    go_wp2_with (first
      | (go_at_call_of 25 s; refine (kr_4 n f s _ _ _).mono ?_; rintro e w8 ⟨rfl, hE⟩; have HE8 := hid (HE6.out.trans hE); clear hE z0 z1 z2 z3 z4 z5 y0 y1 y2 y3 y4 y5; obtain ⟨z0, z1, z2, z3, z4, z5, y0, y1, y2, y3, y4, y5⟩ := K.out _ HE8.out)
      | (go_at_call 8; refine (specStr_big s s' _ hs).mono ?_; rintro e w9 ⟨rfl, hE⟩; have HE9 := hid (HE8.out.trans hE); clear hE))
    go_ret
    exact ⟨rfl, HE1.out.trans HE9.out⟩
set_option maxHeartbeats 2000000 in
theorem cp_list (n : Int) (f : Nat) (s : ByteArray) (a1 : Option Addr) (b1 c1 : Nat) (a2 : Option Addr) (b2 c2 : Nat) (n' : Int) (f' : Nat) (s' : ByteArray) (a1' : Option Addr) (b1' c1' : Nat) (a2' : Option Addr) (b2' c2' : Nat) (w : World) (zz : Int) (hl : ∀ W, Ext w W → Calls Tryz.prog 28 #[.slice a2 b2 c2, .slice a2' b2' c2'] W fun e W' => e = .returned (.int .i64 zz) ∧ Ext W W') :
    Calls Tryz.prog 17 #[.agg #[.int .i64 5, .int .i64 n, .float .f64 f, .string s, .slice a1 b1 c1, .slice a2 b2 c2], .agg #[.int .i64 5, .int .i64 n', .float .f64 f', .string s', .slice a1' b1' c1', .slice a2' b2' c2']] w fun e w' => e = .returned (.int .i64 (zz)) ∧ Ext w w' := by
  have HL := hid hl
  clear hl
  go_enter Tryz.func17, Tryz.ntmps17
  go_upto_region 1 with fail
  obtain ⟨x1, x2, hEE⟩ := boxes2 w (.cells #[.int .i64 5, .int .i64 n, .float .f64 f, .string s, .slice a1 b1 c1, .slice a2 b2 c2] 26) (.cells #[.int .i64 5, .int .i64 n', .float .f64 f', .string s', .slice a1' b1' c1', .slice a2' b2' c2'] 26) _ (Below.refl _ _)
  generalize (w.alloc (.cells #[.int .i64 5, .int .i64 n, .float .f64 f, .string s, .slice a1 b1 c1, .slice a2 b2 c2] 26)).alloc (.cells #[.int .i64 5, .int .i64 n', .float .f64 f', .string s', .slice a1' b1' c1', .slice a2' b2' c2'] 26) = w1 at *
  have HE1 := hid hEE
  have K := hid (show ∀ w' : World, Ext w1 w' → (fun w' : World => w'.cell? ⟨w.heap.size, 0, none⟩ = some (.int .i64 5) ∧ w'.cell? ⟨w.heap.size, 1, none⟩ = some (.int .i64 n) ∧ w'.cell? ⟨w.heap.size, 2, none⟩ = some (.float .f64 f) ∧ w'.cell? ⟨w.heap.size, 3, none⟩ = some (.string s) ∧ w'.cell? ⟨w.heap.size, 4, none⟩ = some (.slice a1 b1 c1) ∧ w'.cell? ⟨w.heap.size, 5, none⟩ = some (.slice a2 b2 c2) ∧ w'.cell? ⟨w.heap.size + 1, 0, none⟩ = some (.int .i64 5) ∧ w'.cell? ⟨w.heap.size + 1, 1, none⟩ = some (.int .i64 n') ∧ w'.cell? ⟨w.heap.size + 1, 2, none⟩ = some (.float .f64 f') ∧ w'.cell? ⟨w.heap.size + 1, 3, none⟩ = some (.string s') ∧ w'.cell? ⟨w.heap.size + 1, 4, none⟩ = some (.slice a1' b1' c1') ∧ w'.cell? ⟨w.heap.size + 1, 5, none⟩ = some (.slice a2' b2' c2')) w' from fun w' h => by
    obtain ⟨⟨z0, z1, z2, z3, z4, z5⟩, -⟩ := slot6 (h.block x1)
    obtain ⟨⟨y0, y1, y2, y3, y4, y5⟩, -⟩ := slot6 (h.block x2)
    exact ⟨z0, z1, z2, z3, z4, z5, y0, y1, y2, y3, y4, y5⟩)
  clear x1 x2 hEE
  go_region_held3 (fun w' : World => w'.cell? ⟨w.heap.size, 0, none⟩ = some (.int .i64 5) ∧ w'.cell? ⟨w.heap.size, 1, none⟩ = some (.int .i64 n) ∧ w'.cell? ⟨w.heap.size, 2, none⟩ = some (.float .f64 f) ∧ w'.cell? ⟨w.heap.size, 3, none⟩ = some (.string s) ∧ w'.cell? ⟨w.heap.size, 4, none⟩ = some (.slice a1 b1 c1) ∧ w'.cell? ⟨w.heap.size, 5, none⟩ = some (.slice a2 b2 c2) ∧ w'.cell? ⟨w.heap.size + 1, 0, none⟩ = some (.int .i64 5) ∧ w'.cell? ⟨w.heap.size + 1, 1, none⟩ = some (.int .i64 n') ∧ w'.cell? ⟨w.heap.size + 1, 2, none⟩ = some (.float .f64 f') ∧ w'.cell? ⟨w.heap.size + 1, 3, none⟩ = some (.string s') ∧ w'.cell? ⟨w.heap.size + 1, 4, none⟩ = some (.slice a1' b1' c1') ∧ w'.cell? ⟨w.heap.size + 1, 5, none⟩ = some (.slice a2' b2' c2'))
    (first | with_reducible exact K.out _ HE6.out | with_reducible exact K.out _ HE5.out | with_reducible exact K.out _ (Ext.refl w1).drew)
    (first
      | (go_at_call_of 25 s; refine (kr_5 n f s _ _ _).mono ?_; rintro e w5 ⟨rfl, hE⟩; have HE5 := hid ((Ext.refl w1).drew.trans hE); clear hE)
      | (go_at_call_of 25 s'; refine (kr_5 n' f' s' _ _ _).mono ?_; rintro e w6 ⟨rfl, hE⟩; have HE6 := hid (HE5.out.trans hE); clear hE)
      | (go_at_call 10; refine (ints_eq _ _).mono ?_; rintro e w7 ⟨rfl, rfl⟩))
  all_goals
    obtain ⟨z0, z1, z2, z3, z4, z5, y0, y1, y2, y3, y4, y5⟩ := K.out _ HE6.out
    go_wp2_with (first
      | (go_at_call_of 25 s; refine (kr_5 n f s _ _ _).mono ?_; rintro e w8 ⟨rfl, hE⟩; have HE8 := hid (HE6.out.trans hE); clear hE z0 z1 z2 z3 z4 z5 y0 y1 y2 y3 y4 y5; obtain ⟨z0, z1, z2, z3, z4, z5, y0, y1, y2, y3, y4, y5⟩ := K.out _ HE8.out)
      | (go_at_call 28; refine (HL.out _ (HE1.out.trans HE8.out)).mono ?_; rintro e w9 ⟨rfl, hE⟩; have HE9 := hid (HE8.out.trans hE); clear hE))
    go_ret
    exact ⟨rfl, HE1.out.trans HE9.out⟩
set_option maxHeartbeats 2000000 in
theorem cp_map (n : Int) (f : Nat) (s : ByteArray) (a1 : Option Addr) (b1 c1 : Nat) (a2 : Option Addr) (b2 c2 : Nat) (n' : Int) (f' : Nat) (s' : ByteArray) (a1' : Option Addr) (b1' c1' : Nat) (a2' : Option Addr) (b2' c2' : Nat) (w : World) (zz : Int) (hl : ∀ W, Ext w W → Calls Tryz.prog 29 #[.agg #[.int .i64 6, .int .i64 n, .float .f64 f, .string s, .slice a1 b1 c1, .slice a2 b2 c2], .agg #[.int .i64 6, .int .i64 n', .float .f64 f', .string s', .slice a1' b1' c1', .slice a2' b2' c2']] W fun e W' => e = .returned (.int .i64 zz) ∧ Ext W W') :
    Calls Tryz.prog 17 #[.agg #[.int .i64 6, .int .i64 n, .float .f64 f, .string s, .slice a1 b1 c1, .slice a2 b2 c2], .agg #[.int .i64 6, .int .i64 n', .float .f64 f', .string s', .slice a1' b1' c1', .slice a2' b2' c2']] w fun e w' => e = .returned (.int .i64 (zz)) ∧ Ext w w' := by
  have HL := hid hl
  clear hl
  go_enter Tryz.func17, Tryz.ntmps17
  go_upto_region 1 with fail
  obtain ⟨x1, x2, hEE⟩ := boxes2 w (.cells #[.int .i64 6, .int .i64 n, .float .f64 f, .string s, .slice a1 b1 c1, .slice a2 b2 c2] 26) (.cells #[.int .i64 6, .int .i64 n', .float .f64 f', .string s', .slice a1' b1' c1', .slice a2' b2' c2'] 26) _ (Below.refl _ _)
  generalize (w.alloc (.cells #[.int .i64 6, .int .i64 n, .float .f64 f, .string s, .slice a1 b1 c1, .slice a2 b2 c2] 26)).alloc (.cells #[.int .i64 6, .int .i64 n', .float .f64 f', .string s', .slice a1' b1' c1', .slice a2' b2' c2'] 26) = w1 at *
  have HE1 := hid hEE
  have K := hid (show ∀ w' : World, Ext w1 w' → (fun w' : World => w'.cell? ⟨w.heap.size, 0, none⟩ = some (.int .i64 6) ∧ w'.cell? ⟨w.heap.size, 1, none⟩ = some (.int .i64 n) ∧ w'.cell? ⟨w.heap.size, 2, none⟩ = some (.float .f64 f) ∧ w'.cell? ⟨w.heap.size, 3, none⟩ = some (.string s) ∧ w'.cell? ⟨w.heap.size, 4, none⟩ = some (.slice a1 b1 c1) ∧ w'.cell? ⟨w.heap.size, 5, none⟩ = some (.slice a2 b2 c2) ∧ w'.cell? ⟨w.heap.size + 1, 0, none⟩ = some (.int .i64 6) ∧ w'.cell? ⟨w.heap.size + 1, 1, none⟩ = some (.int .i64 n') ∧ w'.cell? ⟨w.heap.size + 1, 2, none⟩ = some (.float .f64 f') ∧ w'.cell? ⟨w.heap.size + 1, 3, none⟩ = some (.string s') ∧ w'.cell? ⟨w.heap.size + 1, 4, none⟩ = some (.slice a1' b1' c1') ∧ w'.cell? ⟨w.heap.size + 1, 5, none⟩ = some (.slice a2' b2' c2')) w' from fun w' h => by
    obtain ⟨⟨z0, z1, z2, z3, z4, z5⟩, -⟩ := slot6 (h.block x1)
    obtain ⟨⟨y0, y1, y2, y3, y4, y5⟩, -⟩ := slot6 (h.block x2)
    exact ⟨z0, z1, z2, z3, z4, z5, y0, y1, y2, y3, y4, y5⟩)
  clear x1 x2 hEE
  go_region_held3 (fun w' : World => w'.cell? ⟨w.heap.size, 0, none⟩ = some (.int .i64 6) ∧ w'.cell? ⟨w.heap.size, 1, none⟩ = some (.int .i64 n) ∧ w'.cell? ⟨w.heap.size, 2, none⟩ = some (.float .f64 f) ∧ w'.cell? ⟨w.heap.size, 3, none⟩ = some (.string s) ∧ w'.cell? ⟨w.heap.size, 4, none⟩ = some (.slice a1 b1 c1) ∧ w'.cell? ⟨w.heap.size, 5, none⟩ = some (.slice a2 b2 c2) ∧ w'.cell? ⟨w.heap.size + 1, 0, none⟩ = some (.int .i64 6) ∧ w'.cell? ⟨w.heap.size + 1, 1, none⟩ = some (.int .i64 n') ∧ w'.cell? ⟨w.heap.size + 1, 2, none⟩ = some (.float .f64 f') ∧ w'.cell? ⟨w.heap.size + 1, 3, none⟩ = some (.string s') ∧ w'.cell? ⟨w.heap.size + 1, 4, none⟩ = some (.slice a1' b1' c1') ∧ w'.cell? ⟨w.heap.size + 1, 5, none⟩ = some (.slice a2' b2' c2'))
    (first | with_reducible exact K.out _ HE6.out | with_reducible exact K.out _ HE5.out | with_reducible exact K.out _ (Ext.refl w1).drew)
    (first
      | (go_at_call_of 25 s; refine (kr_6 n f s _ _ _).mono ?_; rintro e w5 ⟨rfl, hE⟩; have HE5 := hid ((Ext.refl w1).drew.trans hE); clear hE)
      | (go_at_call_of 25 s'; refine (kr_6 n' f' s' _ _ _).mono ?_; rintro e w6 ⟨rfl, hE⟩; have HE6 := hid (HE5.out.trans hE); clear hE)
      | (go_at_call 10; refine (ints_eq _ _).mono ?_; rintro e w7 ⟨rfl, rfl⟩))
  all_goals
    obtain ⟨z0, z1, z2, z3, z4, z5, y0, y1, y2, y3, y4, y5⟩ := K.out _ HE6.out
    go_wp2_with (first
      | (go_at_call_of 25 s; refine (kr_6 n f s _ _ _).mono ?_; rintro e w8 ⟨rfl, hE⟩; have HE8 := hid (HE6.out.trans hE); clear hE z0 z1 z2 z3 z4 z5 y0 y1 y2 y3 y4 y5; obtain ⟨z0, z1, z2, z3, z4, z5, y0, y1, y2, y3, y4, y5⟩ := K.out _ HE8.out)
      | (go_at_call 29; refine (HL.out _ (HE1.out.trans HE8.out)).mono ?_; rintro e w9 ⟨rfl, hE⟩; have HE9 := hid (HE8.out.trans hE); clear hE))
    go_ret
    exact ⟨rfl, HE1.out.trans HE9.out⟩
end Go.Proofs.YtempfaefopfobaaGreat
