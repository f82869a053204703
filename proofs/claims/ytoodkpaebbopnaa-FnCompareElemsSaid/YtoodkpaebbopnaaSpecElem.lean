/- SpecElem: spec.CompareElems. -/
import Derived.Test.YtoodkpaebbopnaaSpecKeys
set_option maxRecDepth 100000
namespace Go.Proofs.Ytoodkpaebbopnaa
open Go.ChangeShapes Go.WideShapes Go.ChangeAt Go.RowKit
set_option linter.unusedVariables false
set_option linter.unusedSimpArgs false

set_option maxHeartbeats 4000000 in
theorem se_ne (k k' : Int) (s s' : ByteArray) (a1 a2 a1' a2' : Option Addr) (n1 c1 n2 c2 n1' c1' n2' c2' : Nat) (v0 v1 v2 v3 v4 v5 v0' v1' v2' v3' v4' v5' : Value) (n n' : Int) (w : World) (r r' : Int) (hne : r ≠ r') (hr1 : ∀ W, Ext w W → Calls Try.prog 78 #[.agg #[.int .i64 k, .string s, .slice a1 n1 c1, .slice a2 n2 c2, v0, v1, v2, v3, v4, v5, .int .i64 n]] W fun en w' => en = .returned (.int .i64 r) ∧ Ext W w') (hr2 : ∀ W, Ext w W → Calls Try.prog 78 #[.agg #[.int .i64 k', .string s', .slice a1' n1' c1', .slice a2' n2' c2', v0', v1', v2', v3', v4', v5', .int .i64 n']] W fun en w' => en = .returned (.int .i64 r') ∧ Ext W w') :
    Calls Try.prog 41 #[.agg #[.int .i64 k, .string s, .slice a1 n1 c1, .slice a2 n2 c2, v0, v1, v2, v3, v4, v5, .int .i64 n], .agg #[.int .i64 k', .string s', .slice a1' n1' c1', .slice a2' n2' c2', v0', v1', v2', v3', v4', v5', .int .i64 n']] w fun e w' => e = .returned (.int .i64 (icmp r r')) ∧ Ext w w' := by
  have H1 := hid hr1
  have H2 := hid hr2
  obtain ⟨z, hz⟩ : ∃ z, icmp r r' = z := ⟨_, rfl⟩
  have hd : (z != 0) = true := by have := icmp_ne hne; rw [hz] at this; simp [bne, this]
  have HI := hid (fun W => ints_any r r' W)
  rw [hz] at HI
  rw [hz]
  clear hz hne hr1 hr2
  go_enter Try.func41, Try.ntmps41
  go_upto_region 1 with fail
  obtain ⟨x1, x2, hEE⟩ := boxes2 w (.cells #[.int .i64 k, .string s, .slice a1 n1 c1, .slice a2 n2 c2, v0, v1, v2, v3, v4, v5, .int .i64 n] 51) (.cells #[.int .i64 k', .string s', .slice a1' n1' c1', .slice a2' n2' c2', v0', v1', v2', v3', v4', v5', .int .i64 n'] 51) _ (Below.refl _ _)
  generalize (w.alloc (.cells #[.int .i64 k, .string s, .slice a1 n1 c1, .slice a2 n2 c2, v0, v1, v2, v3, v4, v5, .int .i64 n] 51)).alloc (.cells #[.int .i64 k', .string s', .slice a1' n1' c1', .slice a2' n2' c2', v0', v1', v2', v3', v4', v5', .int .i64 n'] 51) = w1 at *
  have HE1 := hid hEE
  have K := hid (show ∀ w' : World, Ext w1 w' → (fun w' : World => w'.cell? ⟨w.heap.size, 0, none⟩ = some (.int .i64 k) ∧ w'.cell? ⟨w.heap.size, 1, none⟩ = some (.string s) ∧ w'.cell? ⟨w.heap.size, 2, none⟩ = some (.slice a1 n1 c1) ∧ w'.cell? ⟨w.heap.size, 3, none⟩ = some (.slice a2 n2 c2) ∧ w'.cell? ⟨w.heap.size, 4, none⟩ = some (v0) ∧ w'.cell? ⟨w.heap.size, 5, none⟩ = some (v1) ∧ w'.cell? ⟨w.heap.size, 6, none⟩ = some (v2) ∧ w'.cell? ⟨w.heap.size, 7, none⟩ = some (v3) ∧ w'.cell? ⟨w.heap.size, 8, none⟩ = some (v4) ∧ w'.cell? ⟨w.heap.size, 9, none⟩ = some (v5) ∧ w'.cell? ⟨w.heap.size, 10, none⟩ = some (.int .i64 n) ∧ w'.cell? ⟨w.heap.size + 1, 0, none⟩ = some (.int .i64 k') ∧ w'.cell? ⟨w.heap.size + 1, 1, none⟩ = some (.string s') ∧ w'.cell? ⟨w.heap.size + 1, 2, none⟩ = some (.slice a1' n1' c1') ∧ w'.cell? ⟨w.heap.size + 1, 3, none⟩ = some (.slice a2' n2' c2') ∧ w'.cell? ⟨w.heap.size + 1, 4, none⟩ = some (v0') ∧ w'.cell? ⟨w.heap.size + 1, 5, none⟩ = some (v1') ∧ w'.cell? ⟨w.heap.size + 1, 6, none⟩ = some (v2') ∧ w'.cell? ⟨w.heap.size + 1, 7, none⟩ = some (v3') ∧ w'.cell? ⟨w.heap.size + 1, 8, none⟩ = some (v4') ∧ w'.cell? ⟨w.heap.size + 1, 9, none⟩ = some (v5') ∧ w'.cell? ⟨w.heap.size + 1, 10, none⟩ = some (.int .i64 n')) w' from fun w' h => by
    obtain ⟨⟨z0, z1, z2, z3, z4, z5, z6, z7, z8, z9, z10⟩, -⟩ := slot11 (h.block x1)
    obtain ⟨⟨y0, y1, y2, y3, y4, y5, y6, y7, y8, y9, y10⟩, -⟩ := slot11 (h.block x2)
    exact ⟨z0, z1, z2, z3, z4, z5, z6, z7, z8, z9, z10, y0, y1, y2, y3, y4, y5, y6, y7, y8, y9, y10⟩)
  clear x1 x2 hEE
  go_region_held3 (fun w' : World => w'.cell? ⟨w.heap.size, 0, none⟩ = some (.int .i64 k) ∧ w'.cell? ⟨w.heap.size, 1, none⟩ = some (.string s) ∧ w'.cell? ⟨w.heap.size, 2, none⟩ = some (.slice a1 n1 c1) ∧ w'.cell? ⟨w.heap.size, 3, none⟩ = some (.slice a2 n2 c2) ∧ w'.cell? ⟨w.heap.size, 4, none⟩ = some (v0) ∧ w'.cell? ⟨w.heap.size, 5, none⟩ = some (v1) ∧ w'.cell? ⟨w.heap.size, 6, none⟩ = some (v2) ∧ w'.cell? ⟨w.heap.size, 7, none⟩ = some (v3) ∧ w'.cell? ⟨w.heap.size, 8, none⟩ = some (v4) ∧ w'.cell? ⟨w.heap.size, 9, none⟩ = some (v5) ∧ w'.cell? ⟨w.heap.size, 10, none⟩ = some (.int .i64 n) ∧ w'.cell? ⟨w.heap.size + 1, 0, none⟩ = some (.int .i64 k') ∧ w'.cell? ⟨w.heap.size + 1, 1, none⟩ = some (.string s') ∧ w'.cell? ⟨w.heap.size + 1, 2, none⟩ = some (.slice a1' n1' c1') ∧ w'.cell? ⟨w.heap.size + 1, 3, none⟩ = some (.slice a2' n2' c2') ∧ w'.cell? ⟨w.heap.size + 1, 4, none⟩ = some (v0') ∧ w'.cell? ⟨w.heap.size + 1, 5, none⟩ = some (v1') ∧ w'.cell? ⟨w.heap.size + 1, 6, none⟩ = some (v2') ∧ w'.cell? ⟨w.heap.size + 1, 7, none⟩ = some (v3') ∧ w'.cell? ⟨w.heap.size + 1, 8, none⟩ = some (v4') ∧ w'.cell? ⟨w.heap.size + 1, 9, none⟩ = some (v5') ∧ w'.cell? ⟨w.heap.size + 1, 10, none⟩ = some (.int .i64 n'))
    (first | with_reducible exact K.out _ HE7.out | with_reducible exact K.out _ HE6.out | with_reducible exact K.out _ HE5.out | with_reducible exact K.out _ (Ext.refl w1).drew)
    (first
      | (go_at_call_of 78 k; refine (H1.out _ (HE1.out.drew)).mono ?_; rintro e w5 ⟨rfl, hE⟩; have HE5 := hid ((Ext.refl w1).drew.trans hE); clear hE)
      | (go_at_call_of 78 k'; refine (H2.out _ (HE1.out.trans HE5.out)).mono ?_; rintro e w6 ⟨rfl, hE⟩; have HE6 := hid (HE5.out.trans hE); clear hE)
      | (go_at_call 23; refine (HI.out _).mono ?_; rintro e w7 ⟨rfl, hw⟩; have HE7 := hid (show Ext w1 w7 from hw ▸ HE6.out); clear hw))
  all_goals
    obtain ⟨z0, z1, z2, z3, z4, z5, z6, z7, z8, z9, z10, y0, y1, y2, y3, y4, y5, y6, y7, y8, y9, y10⟩ := K.out _ HE7.out
    go_wp2_with fail
    go_ret
    exact ⟨rfl, HE1.out.trans HE7.out⟩
set_option maxHeartbeats 4000000 in
theorem se_0 (k k' : Int) (s s' : ByteArray) (a1 a2 a1' a2' : Option Addr) (n1 c1 n2 c2 n1' c1' n2' c2' : Nat) (v0 v1 v2 v3 v4 v5 v0' v1' v2' v3' v4' v5' : Value) (n n' : Int) (w : World) (z : Int) (hr1 : ∀ W, Ext w W → Calls Try.prog 78 #[.agg #[.int .i64 k, .string s, .slice a1 n1 c1, .slice a2 n2 c2, v0, v1, v2, v3, v4, v5, .int .i64 n]] W fun en w' => en = .returned (.int .i64 0) ∧ Ext W w') (hr2 : ∀ W, Ext w W → Calls Try.prog 78 #[.agg #[.int .i64 k', .string s', .slice a1' n1' c1', .slice a2' n2' c2', v0', v1', v2', v3', v4', v5', .int .i64 n']] W fun en w' => en = .returned (.int .i64 0) ∧ Ext W w') (hz : ∀ W, Ext w W → Calls Try.prog 20 #[.string s, .string s'] W fun en w' => en = .returned (.int .i64 z) ∧ Ext W w') :
    Calls Try.prog 41 #[.agg #[.int .i64 k, .string s, .slice a1 n1 c1, .slice a2 n2 c2, v0, v1, v2, v3, v4, v5, .int .i64 n], .agg #[.int .i64 k', .string s', .slice a1' n1' c1', .slice a2' n2' c2', v0', v1', v2', v3', v4', v5', .int .i64 n']] w fun e w' => e = .returned (.int .i64 z) ∧ Ext w w' := by
  have H1 := hid hr1
  have H2 := hid hr2
  have HZ := hid hz
  have HI := hid (fun W => ints_eq 0 W)
  clear hz hr1 hr2
  go_enter Try.func41, Try.ntmps41
  go_upto_region 1 with fail
  obtain ⟨x1, x2, hEE⟩ := boxes2 w (.cells #[.int .i64 k, .string s, .slice a1 n1 c1, .slice a2 n2 c2, v0, v1, v2, v3, v4, v5, .int .i64 n] 51) (.cells #[.int .i64 k', .string s', .slice a1' n1' c1', .slice a2' n2' c2', v0', v1', v2', v3', v4', v5', .int .i64 n'] 51) _ (Below.refl _ _)
  generalize (w.alloc (.cells #[.int .i64 k, .string s, .slice a1 n1 c1, .slice a2 n2 c2, v0, v1, v2, v3, v4, v5, .int .i64 n] 51)).alloc (.cells #[.int .i64 k', .string s', .slice a1' n1' c1', .slice a2' n2' c2', v0', v1', v2', v3', v4', v5', .int .i64 n'] 51) = w1 at *
  have HE1 := hid hEE
  have K := hid (show ∀ w' : World, Ext w1 w' → (fun w' : World => w'.cell? ⟨w.heap.size, 0, none⟩ = some (.int .i64 k) ∧ w'.cell? ⟨w.heap.size, 1, none⟩ = some (.string s) ∧ w'.cell? ⟨w.heap.size, 2, none⟩ = some (.slice a1 n1 c1) ∧ w'.cell? ⟨w.heap.size, 3, none⟩ = some (.slice a2 n2 c2) ∧ w'.cell? ⟨w.heap.size, 4, none⟩ = some (v0) ∧ w'.cell? ⟨w.heap.size, 5, none⟩ = some (v1) ∧ w'.cell? ⟨w.heap.size, 6, none⟩ = some (v2) ∧ w'.cell? ⟨w.heap.size, 7, none⟩ = some (v3) ∧ w'.cell? ⟨w.heap.size, 8, none⟩ = some (v4) ∧ w'.cell? ⟨w.heap.size, 9, none⟩ = some (v5) ∧ w'.cell? ⟨w.heap.size, 10, none⟩ = some (.int .i64 n) ∧ w'.cell? ⟨w.heap.size + 1, 0, none⟩ = some (.int .i64 k') ∧ w'.cell? ⟨w.heap.size + 1, 1, none⟩ = some (.string s') ∧ w'.cell? ⟨w.heap.size + 1, 2, none⟩ = some (.slice a1' n1' c1') ∧ w'.cell? ⟨w.heap.size + 1, 3, none⟩ = some (.slice a2' n2' c2') ∧ w'.cell? ⟨w.heap.size + 1, 4, none⟩ = some (v0') ∧ w'.cell? ⟨w.heap.size + 1, 5, none⟩ = some (v1') ∧ w'.cell? ⟨w.heap.size + 1, 6, none⟩ = some (v2') ∧ w'.cell? ⟨w.heap.size + 1, 7, none⟩ = some (v3') ∧ w'.cell? ⟨w.heap.size + 1, 8, none⟩ = some (v4') ∧ w'.cell? ⟨w.heap.size + 1, 9, none⟩ = some (v5') ∧ w'.cell? ⟨w.heap.size + 1, 10, none⟩ = some (.int .i64 n')) w' from fun w' h => by
    obtain ⟨⟨z0, z1, z2, z3, z4, z5, z6, z7, z8, z9, z10⟩, -⟩ := slot11 (h.block x1)
    obtain ⟨⟨y0, y1, y2, y3, y4, y5, y6, y7, y8, y9, y10⟩, -⟩ := slot11 (h.block x2)
    exact ⟨z0, z1, z2, z3, z4, z5, z6, z7, z8, z9, z10, y0, y1, y2, y3, y4, y5, y6, y7, y8, y9, y10⟩)
  clear x1 x2 hEE
  go_region_held3 (fun w' : World => w'.cell? ⟨w.heap.size, 0, none⟩ = some (.int .i64 k) ∧ w'.cell? ⟨w.heap.size, 1, none⟩ = some (.string s) ∧ w'.cell? ⟨w.heap.size, 2, none⟩ = some (.slice a1 n1 c1) ∧ w'.cell? ⟨w.heap.size, 3, none⟩ = some (.slice a2 n2 c2) ∧ w'.cell? ⟨w.heap.size, 4, none⟩ = some (v0) ∧ w'.cell? ⟨w.heap.size, 5, none⟩ = some (v1) ∧ w'.cell? ⟨w.heap.size, 6, none⟩ = some (v2) ∧ w'.cell? ⟨w.heap.size, 7, none⟩ = some (v3) ∧ w'.cell? ⟨w.heap.size, 8, none⟩ = some (v4) ∧ w'.cell? ⟨w.heap.size, 9, none⟩ = some (v5) ∧ w'.cell? ⟨w.heap.size, 10, none⟩ = some (.int .i64 n) ∧ w'.cell? ⟨w.heap.size + 1, 0, none⟩ = some (.int .i64 k') ∧ w'.cell? ⟨w.heap.size + 1, 1, none⟩ = some (.string s') ∧ w'.cell? ⟨w.heap.size + 1, 2, none⟩ = some (.slice a1' n1' c1') ∧ w'.cell? ⟨w.heap.size + 1, 3, none⟩ = some (.slice a2' n2' c2') ∧ w'.cell? ⟨w.heap.size + 1, 4, none⟩ = some (v0') ∧ w'.cell? ⟨w.heap.size + 1, 5, none⟩ = some (v1') ∧ w'.cell? ⟨w.heap.size + 1, 6, none⟩ = some (v2') ∧ w'.cell? ⟨w.heap.size + 1, 7, none⟩ = some (v3') ∧ w'.cell? ⟨w.heap.size + 1, 8, none⟩ = some (v4') ∧ w'.cell? ⟨w.heap.size + 1, 9, none⟩ = some (v5') ∧ w'.cell? ⟨w.heap.size + 1, 10, none⟩ = some (.int .i64 n'))
    (first | with_reducible exact K.out _ HE7.out | with_reducible exact K.out _ HE6.out | with_reducible exact K.out _ HE5.out | with_reducible exact K.out _ (Ext.refl w1).drew)
    (first
      | (go_at_call_of 78 k; refine (H1.out _ (HE1.out.drew)).mono ?_; rintro e w5 ⟨rfl, hE⟩; have HE5 := hid ((Ext.refl w1).drew.trans hE); clear hE)
      | (go_at_call_of 78 k'; refine (H2.out _ (HE1.out.trans HE5.out)).mono ?_; rintro e w6 ⟨rfl, hE⟩; have HE6 := hid (HE5.out.trans hE); clear hE)
      | (go_at_call 23; refine (HI.out _).mono ?_; rintro e w7 ⟨rfl, hw⟩; have HE7 := hid (show Ext w1 w7 from hw ▸ HE6.out); clear hw))
  all_goals
    obtain ⟨z0, z1, z2, z3, z4, z5, z6, z7, z8, z9, z10, y0, y1, y2, y3, y4, y5, y6, y7, y8, y9, y10⟩ := K.out _ HE7.out
    go_wp2_with (first
      | (go_at_call 78; refine (H1.out _ (HE1.out.trans HE7.out)).mono ?_; rintro e w8 ⟨rfl, hE⟩; have HE8 := hid (HE7.out.trans hE); clear z0 z1 z2 z3 z4 z5 z6 z7 z8 z9 z10 y0 y1 y2 y3 y4 y5 y6 y7 y8 y9 y10; obtain ⟨z0, z1, z2, z3, z4, z5, z6, z7, z8, z9, z10, y0, y1, y2, y3, y4, y5, y6, y7, y8, y9, y10⟩ := K.out _ HE8.out; clear hE)
      | (go_at_call 20; refine (HZ.out _ (HE1.out.trans HE8.out)).mono ?_; rintro e w9 ⟨rfl, hE⟩; have HE9 := hid (HE8.out.trans hE); clear hE))
    go_ret
    exact ⟨rfl, HE1.out.trans HE9.out⟩
set_option maxHeartbeats 4000000 in
theorem se_1 (k k' : Int) (s s' : ByteArray) (a1 a2 a1' a2' : Option Addr) (n1 c1 n2 c2 n1' c1' n2' c2' : Nat) (v0 v1 v2 v3 v4 v5 v0' v1' v2' v3' v4' v5' : Value) (n n' : Int) (w : World) (z : Int) (hr1 : ∀ W, Ext w W → Calls Try.prog 78 #[.agg #[.int .i64 k, .string s, .slice a1 n1 c1, .slice a2 n2 c2, v0, v1, v2, v3, v4, v5, .int .i64 n]] W fun en w' => en = .returned (.int .i64 1) ∧ Ext W w') (hr2 : ∀ W, Ext w W → Calls Try.prog 78 #[.agg #[.int .i64 k', .string s', .slice a1' n1' c1', .slice a2' n2' c2', v0', v1', v2', v3', v4', v5', .int .i64 n']] W fun en w' => en = .returned (.int .i64 1) ∧ Ext W w') (hz : ∀ W, Ext w W → Calls Try.prog 79 #[.agg #[.int .i64 k, .string s, .slice a1 n1 c1, .slice a2 n2 c2, v0, v1, v2, v3, v4, v5, .int .i64 n], .agg #[.int .i64 k', .string s', .slice a1' n1' c1', .slice a2' n2' c2', v0', v1', v2', v3', v4', v5', .int .i64 n']] W fun en w' => en = .returned (.int .i64 z) ∧ Ext W w') :
    Calls Try.prog 41 #[.agg #[.int .i64 k, .string s, .slice a1 n1 c1, .slice a2 n2 c2, v0, v1, v2, v3, v4, v5, .int .i64 n], .agg #[.int .i64 k', .string s', .slice a1' n1' c1', .slice a2' n2' c2', v0', v1', v2', v3', v4', v5', .int .i64 n']] w fun e w' => e = .returned (.int .i64 z) ∧ Ext w w' := by
  have H1 := hid hr1
  have H2 := hid hr2
  have HZ := hid hz
  have HI := hid (fun W => ints_eq 1 W)
  clear hz hr1 hr2
  go_enter Try.func41, Try.ntmps41
  go_upto_region 1 with fail
  obtain ⟨x1, x2, hEE⟩ := boxes2 w (.cells #[.int .i64 k, .string s, .slice a1 n1 c1, .slice a2 n2 c2, v0, v1, v2, v3, v4, v5, .int .i64 n] 51) (.cells #[.int .i64 k', .string s', .slice a1' n1' c1', .slice a2' n2' c2', v0', v1', v2', v3', v4', v5', .int .i64 n'] 51) _ (Below.refl _ _)
  generalize (w.alloc (.cells #[.int .i64 k, .string s, .slice a1 n1 c1, .slice a2 n2 c2, v0, v1, v2, v3, v4, v5, .int .i64 n] 51)).alloc (.cells #[.int .i64 k', .string s', .slice a1' n1' c1', .slice a2' n2' c2', v0', v1', v2', v3', v4', v5', .int .i64 n'] 51) = w1 at *
  have HE1 := hid hEE
  have K := hid (show ∀ w' : World, Ext w1 w' → (fun w' : World => w'.cell? ⟨w.heap.size, 0, none⟩ = some (.int .i64 k) ∧ w'.cell? ⟨w.heap.size, 1, none⟩ = some (.string s) ∧ w'.cell? ⟨w.heap.size, 2, none⟩ = some (.slice a1 n1 c1) ∧ w'.cell? ⟨w.heap.size, 3, none⟩ = some (.slice a2 n2 c2) ∧ w'.cell? ⟨w.heap.size, 4, none⟩ = some (v0) ∧ w'.cell? ⟨w.heap.size, 5, none⟩ = some (v1) ∧ w'.cell? ⟨w.heap.size, 6, none⟩ = some (v2) ∧ w'.cell? ⟨w.heap.size, 7, none⟩ = some (v3) ∧ w'.cell? ⟨w.heap.size, 8, none⟩ = some (v4) ∧ w'.cell? ⟨w.heap.size, 9, none⟩ = some (v5) ∧ w'.cell? ⟨w.heap.size, 10, none⟩ = some (.int .i64 n) ∧ w'.cell? ⟨w.heap.size + 1, 0, none⟩ = some (.int .i64 k') ∧ w'.cell? ⟨w.heap.size + 1, 1, none⟩ = some (.string s') ∧ w'.cell? ⟨w.heap.size + 1, 2, none⟩ = some (.slice a1' n1' c1') ∧ w'.cell? ⟨w.heap.size + 1, 3, none⟩ = some (.slice a2' n2' c2') ∧ w'.cell? ⟨w.heap.size + 1, 4, none⟩ = some (v0') ∧ w'.cell? ⟨w.heap.size + 1, 5, none⟩ = some (v1') ∧ w'.cell? ⟨w.heap.size + 1, 6, none⟩ = some (v2') ∧ w'.cell? ⟨w.heap.size + 1, 7, none⟩ = some (v3') ∧ w'.cell? ⟨w.heap.size + 1, 8, none⟩ = some (v4') ∧ w'.cell? ⟨w.heap.size + 1, 9, none⟩ = some (v5') ∧ w'.cell? ⟨w.heap.size + 1, 10, none⟩ = some (.int .i64 n')) w' from fun w' h => by
    obtain ⟨⟨z0, z1, z2, z3, z4, z5, z6, z7, z8, z9, z10⟩, -⟩ := slot11 (h.block x1)
    obtain ⟨⟨y0, y1, y2, y3, y4, y5, y6, y7, y8, y9, y10⟩, -⟩ := slot11 (h.block x2)
    exact ⟨z0, z1, z2, z3, z4, z5, z6, z7, z8, z9, z10, y0, y1, y2, y3, y4, y5, y6, y7, y8, y9, y10⟩)
  clear x1 x2 hEE
  go_region_held3 (fun w' : World => w'.cell? ⟨w.heap.size, 0, none⟩ = some (.int .i64 k) ∧ w'.cell? ⟨w.heap.size, 1, none⟩ = some (.string s) ∧ w'.cell? ⟨w.heap.size, 2, none⟩ = some (.slice a1 n1 c1) ∧ w'.cell? ⟨w.heap.size, 3, none⟩ = some (.slice a2 n2 c2) ∧ w'.cell? ⟨w.heap.size, 4, none⟩ = some (v0) ∧ w'.cell? ⟨w.heap.size, 5, none⟩ = some (v1) ∧ w'.cell? ⟨w.heap.size, 6, none⟩ = some (v2) ∧ w'.cell? ⟨w.heap.size, 7, none⟩ = some (v3) ∧ w'.cell? ⟨w.heap.size, 8, none⟩ = some (v4) ∧ w'.cell? ⟨w.heap.size, 9, none⟩ = some (v5) ∧ w'.cell? ⟨w.heap.size, 10, none⟩ = some (.int .i64 n) ∧ w'.cell? ⟨w.heap.size + 1, 0, none⟩ = some (.int .i64 k') ∧ w'.cell? ⟨w.heap.size + 1, 1, none⟩ = some (.string s') ∧ w'.cell? ⟨w.heap.size + 1, 2, none⟩ = some (.slice a1' n1' c1') ∧ w'.cell? ⟨w.heap.size + 1, 3, none⟩ = some (.slice a2' n2' c2') ∧ w'.cell? ⟨w.heap.size + 1, 4, none⟩ = some (v0') ∧ w'.cell? ⟨w.heap.size + 1, 5, none⟩ = some (v1') ∧ w'.cell? ⟨w.heap.size + 1, 6, none⟩ = some (v2') ∧ w'.cell? ⟨w.heap.size + 1, 7, none⟩ = some (v3') ∧ w'.cell? ⟨w.heap.size + 1, 8, none⟩ = some (v4') ∧ w'.cell? ⟨w.heap.size + 1, 9, none⟩ = some (v5') ∧ w'.cell? ⟨w.heap.size + 1, 10, none⟩ = some (.int .i64 n'))
    (first | with_reducible exact K.out _ HE7.out | with_reducible exact K.out _ HE6.out | with_reducible exact K.out _ HE5.out | with_reducible exact K.out _ (Ext.refl w1).drew)
    (first
      | (go_at_call_of 78 k; refine (H1.out _ (HE1.out.drew)).mono ?_; rintro e w5 ⟨rfl, hE⟩; have HE5 := hid ((Ext.refl w1).drew.trans hE); clear hE)
      | (go_at_call_of 78 k'; refine (H2.out _ (HE1.out.trans HE5.out)).mono ?_; rintro e w6 ⟨rfl, hE⟩; have HE6 := hid (HE5.out.trans hE); clear hE)
      | (go_at_call 23; refine (HI.out _).mono ?_; rintro e w7 ⟨rfl, hw⟩; have HE7 := hid (show Ext w1 w7 from hw ▸ HE6.out); clear hw))
  all_goals
    obtain ⟨z0, z1, z2, z3, z4, z5, z6, z7, z8, z9, z10, y0, y1, y2, y3, y4, y5, y6, y7, y8, y9, y10⟩ := K.out _ HE7.out
    go_wp2_with (first
      | (go_at_call 78; refine (H1.out _ (HE1.out.trans HE7.out)).mono ?_; rintro e w8 ⟨rfl, hE⟩; have HE8 := hid (HE7.out.trans hE); clear z0 z1 z2 z3 z4 z5 z6 z7 z8 z9 z10 y0 y1 y2 y3 y4 y5 y6 y7 y8 y9 y10; obtain ⟨z0, z1, z2, z3, z4, z5, z6, z7, z8, z9, z10, y0, y1, y2, y3, y4, y5, y6, y7, y8, y9, y10⟩ := K.out _ HE8.out; clear hE)
      | (go_at_call 79; refine (HZ.out _ (HE1.out.trans HE8.out)).mono ?_; rintro e w9 ⟨rfl, hE⟩; have HE9 := hid (HE8.out.trans hE); clear hE))
    go_ret
    exact ⟨rfl, HE1.out.trans HE9.out⟩
set_option maxHeartbeats 4000000 in
theorem se_2 (k k' : Int) (s s' : ByteArray) (a1 a2 a1' a2' : Option Addr) (n1 c1 n2 c2 n1' c1' n2' c2' : Nat) (v0 v1 v2 v3 v4 v5 v0' v1' v2' v3' v4' v5' : Value) (n n' : Int) (w : World) (z : Int) (hr1 : ∀ W, Ext w W → Calls Try.prog 78 #[.agg #[.int .i64 k, .string s, .slice a1 n1 c1, .slice a2 n2 c2, v0, v1, v2, v3, v4, v5, .int .i64 n]] W fun en w' => en = .returned (.int .i64 2) ∧ Ext W w') (hr2 : ∀ W, Ext w W → Calls Try.prog 78 #[.agg #[.int .i64 k', .string s', .slice a1' n1' c1', .slice a2' n2' c2', v0', v1', v2', v3', v4', v5', .int .i64 n']] W fun en w' => en = .returned (.int .i64 2) ∧ Ext W w') (hz : ∀ W, Ext w W → Calls Try.prog 17 #[.agg #[v0, v1, v2, v3, v4, v5], .agg #[v0', v1', v2', v3', v4', v5']] W fun en w' => en = .returned (.int .i64 z) ∧ Ext W w') :
    Calls Try.prog 41 #[.agg #[.int .i64 k, .string s, .slice a1 n1 c1, .slice a2 n2 c2, v0, v1, v2, v3, v4, v5, .int .i64 n], .agg #[.int .i64 k', .string s', .slice a1' n1' c1', .slice a2' n2' c2', v0', v1', v2', v3', v4', v5', .int .i64 n']] w fun e w' => e = .returned (.int .i64 z) ∧ Ext w w' := by
  have H1 := hid hr1
  have H2 := hid hr2
  have HZ := hid hz
  have HI := hid (fun W => ints_eq 2 W)
  clear hz hr1 hr2
  go_enter Try.func41, Try.ntmps41
  go_upto_region 1 with fail
  obtain ⟨x1, x2, hEE⟩ := boxes2 w (.cells #[.int .i64 k, .string s, .slice a1 n1 c1, .slice a2 n2 c2, v0, v1, v2, v3, v4, v5, .int .i64 n] 51) (.cells #[.int .i64 k', .string s', .slice a1' n1' c1', .slice a2' n2' c2', v0', v1', v2', v3', v4', v5', .int .i64 n'] 51) _ (Below.refl _ _)
  generalize (w.alloc (.cells #[.int .i64 k, .string s, .slice a1 n1 c1, .slice a2 n2 c2, v0, v1, v2, v3, v4, v5, .int .i64 n] 51)).alloc (.cells #[.int .i64 k', .string s', .slice a1' n1' c1', .slice a2' n2' c2', v0', v1', v2', v3', v4', v5', .int .i64 n'] 51) = w1 at *
  have HE1 := hid hEE
  have K := hid (show ∀ w' : World, Ext w1 w' → (fun w' : World => w'.cell? ⟨w.heap.size, 0, none⟩ = some (.int .i64 k) ∧ w'.cell? ⟨w.heap.size, 1, none⟩ = some (.string s) ∧ w'.cell? ⟨w.heap.size, 2, none⟩ = some (.slice a1 n1 c1) ∧ w'.cell? ⟨w.heap.size, 3, none⟩ = some (.slice a2 n2 c2) ∧ w'.cell? ⟨w.heap.size, 4, none⟩ = some (v0) ∧ w'.cell? ⟨w.heap.size, 5, none⟩ = some (v1) ∧ w'.cell? ⟨w.heap.size, 6, none⟩ = some (v2) ∧ w'.cell? ⟨w.heap.size, 7, none⟩ = some (v3) ∧ w'.cell? ⟨w.heap.size, 8, none⟩ = some (v4) ∧ w'.cell? ⟨w.heap.size, 9, none⟩ = some (v5) ∧ w'.cell? ⟨w.heap.size, 10, none⟩ = some (.int .i64 n) ∧ w'.cell? ⟨w.heap.size + 1, 0, none⟩ = some (.int .i64 k') ∧ w'.cell? ⟨w.heap.size + 1, 1, none⟩ = some (.string s') ∧ w'.cell? ⟨w.heap.size + 1, 2, none⟩ = some (.slice a1' n1' c1') ∧ w'.cell? ⟨w.heap.size + 1, 3, none⟩ = some (.slice a2' n2' c2') ∧ w'.cell? ⟨w.heap.size + 1, 4, none⟩ = some (v0') ∧ w'.cell? ⟨w.heap.size + 1, 5, none⟩ = some (v1') ∧ w'.cell? ⟨w.heap.size + 1, 6, none⟩ = some (v2') ∧ w'.cell? ⟨w.heap.size + 1, 7, none⟩ = some (v3') ∧ w'.cell? ⟨w.heap.size + 1, 8, none⟩ = some (v4') ∧ w'.cell? ⟨w.heap.size + 1, 9, none⟩ = some (v5') ∧ w'.cell? ⟨w.heap.size + 1, 10, none⟩ = some (.int .i64 n')) w' from fun w' h => by
    obtain ⟨⟨z0, z1, z2, z3, z4, z5, z6, z7, z8, z9, z10⟩, -⟩ := slot11 (h.block x1)
    obtain ⟨⟨y0, y1, y2, y3, y4, y5, y6, y7, y8, y9, y10⟩, -⟩ := slot11 (h.block x2)
    exact ⟨z0, z1, z2, z3, z4, z5, z6, z7, z8, z9, z10, y0, y1, y2, y3, y4, y5, y6, y7, y8, y9, y10⟩)
  clear x1 x2 hEE
  go_region_held3 (fun w' : World => w'.cell? ⟨w.heap.size, 0, none⟩ = some (.int .i64 k) ∧ w'.cell? ⟨w.heap.size, 1, none⟩ = some (.string s) ∧ w'.cell? ⟨w.heap.size, 2, none⟩ = some (.slice a1 n1 c1) ∧ w'.cell? ⟨w.heap.size, 3, none⟩ = some (.slice a2 n2 c2) ∧ w'.cell? ⟨w.heap.size, 4, none⟩ = some (v0) ∧ w'.cell? ⟨w.heap.size, 5, none⟩ = some (v1) ∧ w'.cell? ⟨w.heap.size, 6, none⟩ = some (v2) ∧ w'.cell? ⟨w.heap.size, 7, none⟩ = some (v3) ∧ w'.cell? ⟨w.heap.size, 8, none⟩ = some (v4) ∧ w'.cell? ⟨w.heap.size, 9, none⟩ = some (v5) ∧ w'.cell? ⟨w.heap.size, 10, none⟩ = some (.int .i64 n) ∧ w'.cell? ⟨w.heap.size + 1, 0, none⟩ = some (.int .i64 k') ∧ w'.cell? ⟨w.heap.size + 1, 1, none⟩ = some (.string s') ∧ w'.cell? ⟨w.heap.size + 1, 2, none⟩ = some (.slice a1' n1' c1') ∧ w'.cell? ⟨w.heap.size + 1, 3, none⟩ = some (.slice a2' n2' c2') ∧ w'.cell? ⟨w.heap.size + 1, 4, none⟩ = some (v0') ∧ w'.cell? ⟨w.heap.size + 1, 5, none⟩ = some (v1') ∧ w'.cell? ⟨w.heap.size + 1, 6, none⟩ = some (v2') ∧ w'.cell? ⟨w.heap.size + 1, 7, none⟩ = some (v3') ∧ w'.cell? ⟨w.heap.size + 1, 8, none⟩ = some (v4') ∧ w'.cell? ⟨w.heap.size + 1, 9, none⟩ = some (v5') ∧ w'.cell? ⟨w.heap.size + 1, 10, none⟩ = some (.int .i64 n'))
    (first | with_reducible exact K.out _ HE7.out | with_reducible exact K.out _ HE6.out | with_reducible exact K.out _ HE5.out | with_reducible exact K.out _ (Ext.refl w1).drew)
    (first
      | (go_at_call_of 78 k; refine (H1.out _ (HE1.out.drew)).mono ?_; rintro e w5 ⟨rfl, hE⟩; have HE5 := hid ((Ext.refl w1).drew.trans hE); clear hE)
      | (go_at_call_of 78 k'; refine (H2.out _ (HE1.out.trans HE5.out)).mono ?_; rintro e w6 ⟨rfl, hE⟩; have HE6 := hid (HE5.out.trans hE); clear hE)
      | (go_at_call 23; refine (HI.out _).mono ?_; rintro e w7 ⟨rfl, hw⟩; have HE7 := hid (show Ext w1 w7 from hw ▸ HE6.out); clear hw))
  all_goals
    obtain ⟨z0, z1, z2, z3, z4, z5, z6, z7, z8, z9, z10, y0, y1, y2, y3, y4, y5, y6, y7, y8, y9, y10⟩ := K.out _ HE7.out
    go_wp2_with (first
      | (go_at_call 78; refine (H1.out _ (HE1.out.trans HE7.out)).mono ?_; rintro e w8 ⟨rfl, hE⟩; have HE8 := hid (HE7.out.trans hE); clear z0 z1 z2 z3 z4 z5 z6 z7 z8 z9 z10 y0 y1 y2 y3 y4 y5 y6 y7 y8 y9 y10; obtain ⟨z0, z1, z2, z3, z4, z5, z6, z7, z8, z9, z10, y0, y1, y2, y3, y4, y5, y6, y7, y8, y9, y10⟩ := K.out _ HE8.out; clear hE)
      | (go_at_call 17; refine (HZ.out _ (HE1.out.trans HE8.out)).mono ?_; rintro e w9 ⟨rfl, hE⟩; have HE9 := hid (HE8.out.trans hE); clear hE))
    go_ret
    exact ⟨rfl, HE1.out.trans HE9.out⟩
set_option maxHeartbeats 4000000 in
theorem se_3 (k k' : Int) (s s' : ByteArray) (a1 a2 a1' a2' : Option Addr) (n1 c1 n2 c2 n1' c1' n2' c2' : Nat) (v0 v1 v2 v3 v4 v5 v0' v1' v2' v3' v4' v5' : Value) (n n' : Int) (w : World) (z : Int) (hr1 : ∀ W, Ext w W → Calls Try.prog 78 #[.agg #[.int .i64 k, .string s, .slice a1 n1 c1, .slice a2 n2 c2, v0, v1, v2, v3, v4, v5, .int .i64 n]] W fun en w' => en = .returned (.int .i64 3) ∧ Ext W w') (hr2 : ∀ W, Ext w W → Calls Try.prog 78 #[.agg #[.int .i64 k', .string s', .slice a1' n1' c1', .slice a2' n2' c2', v0', v1', v2', v3', v4', v5', .int .i64 n']] W fun en w' => en = .returned (.int .i64 3) ∧ Ext W w') (hz : ∀ W, Ext w W → Calls Try.prog 23 #[.int .i64 n, .int .i64 n'] W fun en w' => en = .returned (.int .i64 z) ∧ Ext W w') :
    Calls Try.prog 41 #[.agg #[.int .i64 k, .string s, .slice a1 n1 c1, .slice a2 n2 c2, v0, v1, v2, v3, v4, v5, .int .i64 n], .agg #[.int .i64 k', .string s', .slice a1' n1' c1', .slice a2' n2' c2', v0', v1', v2', v3', v4', v5', .int .i64 n']] w fun e w' => e = .returned (.int .i64 z) ∧ Ext w w' := by
  have H1 := hid hr1
  have H2 := hid hr2
  have HZ := hid hz
  have HI := hid (fun W => ints_eq 3 W)
  clear hz hr1 hr2
  go_enter Try.func41, Try.ntmps41
  go_upto_region 1 with fail
  obtain ⟨x1, x2, hEE⟩ := boxes2 w (.cells #[.int .i64 k, .string s, .slice a1 n1 c1, .slice a2 n2 c2, v0, v1, v2, v3, v4, v5, .int .i64 n] 51) (.cells #[.int .i64 k', .string s', .slice a1' n1' c1', .slice a2' n2' c2', v0', v1', v2', v3', v4', v5', .int .i64 n'] 51) _ (Below.refl _ _)
  generalize (w.alloc (.cells #[.int .i64 k, .string s, .slice a1 n1 c1, .slice a2 n2 c2, v0, v1, v2, v3, v4, v5, .int .i64 n] 51)).alloc (.cells #[.int .i64 k', .string s', .slice a1' n1' c1', .slice a2' n2' c2', v0', v1', v2', v3', v4', v5', .int .i64 n'] 51) = w1 at *
  have HE1 := hid hEE
  have K := hid (show ∀ w' : World, Ext w1 w' → (fun w' : World => w'.cell? ⟨w.heap.size, 0, none⟩ = some (.int .i64 k) ∧ w'.cell? ⟨w.heap.size, 1, none⟩ = some (.string s) ∧ w'.cell? ⟨w.heap.size, 2, none⟩ = some (.slice a1 n1 c1) ∧ w'.cell? ⟨w.heap.size, 3, none⟩ = some (.slice a2 n2 c2) ∧ w'.cell? ⟨w.heap.size, 4, none⟩ = some (v0) ∧ w'.cell? ⟨w.heap.size, 5, none⟩ = some (v1) ∧ w'.cell? ⟨w.heap.size, 6, none⟩ = some (v2) ∧ w'.cell? ⟨w.heap.size, 7, none⟩ = some (v3) ∧ w'.cell? ⟨w.heap.size, 8, none⟩ = some (v4) ∧ w'.cell? ⟨w.heap.size, 9, none⟩ = some (v5) ∧ w'.cell? ⟨w.heap.size, 10, none⟩ = some (.int .i64 n) ∧ w'.cell? ⟨w.heap.size + 1, 0, none⟩ = some (.int .i64 k') ∧ w'.cell? ⟨w.heap.size + 1, 1, none⟩ = some (.string s') ∧ w'.cell? ⟨w.heap.size + 1, 2, none⟩ = some (.slice a1' n1' c1') ∧ w'.cell? ⟨w.heap.size + 1, 3, none⟩ = some (.slice a2' n2' c2') ∧ w'.cell? ⟨w.heap.size + 1, 4, none⟩ = some (v0') ∧ w'.cell? ⟨w.heap.size + 1, 5, none⟩ = some (v1') ∧ w'.cell? ⟨w.heap.size + 1, 6, none⟩ = some (v2') ∧ w'.cell? ⟨w.heap.size + 1, 7, none⟩ = some (v3') ∧ w'.cell? ⟨w.heap.size + 1, 8, none⟩ = some (v4') ∧ w'.cell? ⟨w.heap.size + 1, 9, none⟩ = some (v5') ∧ w'.cell? ⟨w.heap.size + 1, 10, none⟩ = some (.int .i64 n')) w' from fun w' h => by
    obtain ⟨⟨z0, z1, z2, z3, z4, z5, z6, z7, z8, z9, z10⟩, -⟩ := slot11 (h.block x1)
    obtain ⟨⟨y0, y1, y2, y3, y4, y5, y6, y7, y8, y9, y10⟩, -⟩ := slot11 (h.block x2)
    exact ⟨z0, z1, z2, z3, z4, z5, z6, z7, z8, z9, z10, y0, y1, y2, y3, y4, y5, y6, y7, y8, y9, y10⟩)
  clear x1 x2 hEE
  go_region_held3 (fun w' : World => w'.cell? ⟨w.heap.size, 0, none⟩ = some (.int .i64 k) ∧ w'.cell? ⟨w.heap.size, 1, none⟩ = some (.string s) ∧ w'.cell? ⟨w.heap.size, 2, none⟩ = some (.slice a1 n1 c1) ∧ w'.cell? ⟨w.heap.size, 3, none⟩ = some (.slice a2 n2 c2) ∧ w'.cell? ⟨w.heap.size, 4, none⟩ = some (v0) ∧ w'.cell? ⟨w.heap.size, 5, none⟩ = some (v1) ∧ w'.cell? ⟨w.heap.size, 6, none⟩ = some (v2) ∧ w'.cell? ⟨w.heap.size, 7, none⟩ = some (v3) ∧ w'.cell? ⟨w.heap.size, 8, none⟩ = some (v4) ∧ w'.cell? ⟨w.heap.size, 9, none⟩ = some (v5) ∧ w'.cell? ⟨w.heap.size, 10, none⟩ = some (.int .i64 n) ∧ w'.cell? ⟨w.heap.size + 1, 0, none⟩ = some (.int .i64 k') ∧ w'.cell? ⟨w.heap.size + 1, 1, none⟩ = some (.string s') ∧ w'.cell? ⟨w.heap.size + 1, 2, none⟩ = some (.slice a1' n1' c1') ∧ w'.cell? ⟨w.heap.size + 1, 3, none⟩ = some (.slice a2' n2' c2') ∧ w'.cell? ⟨w.heap.size + 1, 4, none⟩ = some (v0') ∧ w'.cell? ⟨w.heap.size + 1, 5, none⟩ = some (v1') ∧ w'.cell? ⟨w.heap.size + 1, 6, none⟩ = some (v2') ∧ w'.cell? ⟨w.heap.size + 1, 7, none⟩ = some (v3') ∧ w'.cell? ⟨w.heap.size + 1, 8, none⟩ = some (v4') ∧ w'.cell? ⟨w.heap.size + 1, 9, none⟩ = some (v5') ∧ w'.cell? ⟨w.heap.size + 1, 10, none⟩ = some (.int .i64 n'))
    (first | with_reducible exact K.out _ HE7.out | with_reducible exact K.out _ HE6.out | with_reducible exact K.out _ HE5.out | with_reducible exact K.out _ (Ext.refl w1).drew)
    (first
      | (go_at_call_of 78 k; refine (H1.out _ (HE1.out.drew)).mono ?_; rintro e w5 ⟨rfl, hE⟩; have HE5 := hid ((Ext.refl w1).drew.trans hE); clear hE)
      | (go_at_call_of 78 k'; refine (H2.out _ (HE1.out.trans HE5.out)).mono ?_; rintro e w6 ⟨rfl, hE⟩; have HE6 := hid (HE5.out.trans hE); clear hE)
      | (go_at_call 23; refine (HI.out _).mono ?_; rintro e w7 ⟨rfl, hw⟩; have HE7 := hid (show Ext w1 w7 from hw ▸ HE6.out); clear hw))
  all_goals
    obtain ⟨z0, z1, z2, z3, z4, z5, z6, z7, z8, z9, z10, y0, y1, y2, y3, y4, y5, y6, y7, y8, y9, y10⟩ := K.out _ HE7.out
    go_wp2_with (first
      | (go_at_call 78; refine (H1.out _ (HE1.out.trans HE7.out)).mono ?_; rintro e w8 ⟨rfl, hE⟩; have HE8 := hid (HE7.out.trans hE); clear z0 z1 z2 z3 z4 z5 z6 z7 z8 z9 z10 y0 y1 y2 y3 y4 y5 y6 y7 y8 y9 y10; obtain ⟨z0, z1, z2, z3, z4, z5, z6, z7, z8, z9, z10, y0, y1, y2, y3, y4, y5, y6, y7, y8, y9, y10⟩ := K.out _ HE8.out; clear hE)
      | (go_at_call 23; refine (HZ.out _ (HE1.out.trans HE8.out)).mono ?_; rintro e w9 ⟨rfl, hE⟩; have HE9 := hid (HE8.out.trans hE); clear hE))
    go_ret
    exact ⟨rfl, HE1.out.trans HE9.out⟩
end Go.Proofs.Ytoodkpaebbopnaa
