/- SameElem: spec.SameElem of two elements of one plain form. -/
import Derived.Test.YtempfaefopfobaaDoorCleanElem
import Derived.Test.YtempfaefopfobaaDoorSame

set_option maxRecDepth 100000
namespace Go.Proofs.YtempfaefopfobaaDoor
open Go.ChangeShapes Go.WideShapes Go.ChangeAt Go.RowKit
set_option linter.unusedVariables false
set_option linter.unusedSimpArgs false

theorem RepGE.form8 {S : Nat → Prop} {w : World} {e : GE} {cs : List Value} (h : RepGE S w e cs) : ∃ r2 r3 r4 r5 u1 u2 u3 u4 u5 u6 u7 u8 u9 u10, cs = [.int .i64 e.kind, .string e.s, .slice r2 e.keys.length r3, .slice r4 e.l.length r5, .int .i64 u1, .int .i64 u2, .float .f64 u3, .string u4, .slice u5 u6 u7, .slice u8 u9 u10, .int .i64 e.n] := by
  obtain ⟨ka, kc, la, lc, v0, v1, v2, v3, v4, v5, h, -, -, -, -, -, hv⟩ := h
  obtain ⟨u1, u2, u3, u4, u5, u6, u7, u8, u9, u10, h2⟩ := hv.form
  simp only [List.cons.injEq, and_true] at h2
  obtain ⟨rfl, rfl, rfl, rfl, rfl, rfl⟩ := h2
  exact ⟨_, _, _, _, _, _, _, _, _, _, _, _, _, _, h⟩
theorem RepGE.val {S : Nat → Prop} {w : World} {e : GE} {k n : Int} {s : ByteArray} {x2 x3 v0 v1 v2 v3 v4 v5 : Value} (h : RepGE S w e [.int .i64 k, .string s, x2, x3, v0, v1, v2, v3, v4, v5, .int .i64 n]) : RepGV S w e.v [v0, v1, v2, v3, v4, v5] := by
  obtain ⟨ka, kc, la, lc, a0, a1, a2, a3, a4, a5, h, -, -, -, -, -, hv⟩ := h
  simp only [List.cons.injEq, and_true] at h
  obtain ⟨-, -, -, -, rfl, rfl, rfl, rfl, rfl, rfl, -⟩ := h
  exact hv
set_option maxHeartbeats 1000000 in
theorem keyValue_any (e : GE) (cs : List Value) (w : World) (hR : RepGE Any w e cs) :
    Calls Tryd.prog 16 #[.agg cs.toArray] w fun en w' => ∃ cs', en = .returned (.agg cs'.toArray) ∧ RepGV Any w' (.mk 6 0 0 ByteArray.empty e.keys e.l) cs' ∧ Ext w w' := by
  obtain ⟨a1, c1, a2, c2, v0, v1, v2, v3, v4, v5, rfl, -, -, -, hk, hl, -⟩ := hR
  generalize hn1 : e.keys.length = n1 at *
  generalize hn2 : e.l.length = n2 at *
  have HK := hid hk
  have HL := hid hl
  clear hk hl hn1 hn2
  go_enter Tryd.func16, Tryd.ntmps16
  go_wp2_with fail
  have xx := second_heap w (.cells #[.int .i64 e.kind, .string e.s, .slice a1 n1 c1, .slice a2 n2 c2, v0, v1, v2, v3, v4, v5, .int .i64 e.n] 29) (.cells #[.int .i64 6, .int .i64 0, .float .f64 0, .string ⟨#[]⟩, .slice a1 n1 c1, .slice a2 n2 c2] 26)
  obtain ⟨⟨y0, y1, y2, y3, y4, y5⟩, -⟩ := slot6 xx
  have hE := ((Ext.refl w).alloc (.cells #[.int .i64 e.kind, .string e.s, .slice a1 n1 c1, .slice a2 n2 c2, v0, v1, v2, v3, v4, v5, .int .i64 e.n] 29)).alloc (.cells #[.int .i64 6, .int .i64 0, .float .f64 0, .string ⟨#[]⟩, .slice a1 n1 c1, .slice a2 n2 c2] 26)
  refine bodyPost_ret (v := .agg #[.int .i64 6, .int .i64 0, .float .f64 0, .string ⟨#[]⟩, .slice a1 n1 c1, .slice a2 n2 c2]) (by simp [results, Tryd.results16, go_sem, y0, y1, y2, y3, y4, y5]) rfl ⟨_, rfl, repGV_of (by decide) (by decide) (by decide) (by decide) (HK.out.ext hE) (HL.out.ext hE), hE⟩
set_option maxHeartbeats 4000000 in
theorem sameElem_true (ea eb : GE) (heq : cleanE ea = cleanE eb) (w : World) (ca cb : List Value) (hA : RepGE Any w ea ca) (hB : RepGE Any w eb cb) :
    Calls Tryd.prog 7 #[.agg ca.toArray, .agg cb.toArray] w fun e w' => e = .returned (.bool true) ∧ Ext w w' := by
  have HA := hid hA
  have HB := hid hB
  obtain ⟨k, s, a1, n1, c1, a2, n2, c2, v0, v1, v2, v3, v4, v5, n, rfl⟩ := hA.form
  obtain ⟨k', s', a1', n1', c1', a2', n2', c2', v0', v1', v2', v3', v4', v5', n', rfl⟩ := hB.form
  have C1 := hid (fun W x hx => cleanElem_any ea x W hx)
  have C2 := hid (fun W x hx => cleanElem_any eb x W hx)
  rw [← heq] at C2
  generalize cleanE ea = c at *
  clear hA hB heq
  go_enter Tryd.func7, Tryd.ntmps7
  go_upto_region 1 with fail
  obtain ⟨x1, x2, hEE⟩ := boxes2 w (.cells #[.int .i64 k, .string s, .slice a1 n1 c1, .slice a2 n2 c2, v0, v1, v2, v3, v4, v5, .int .i64 n] 29) (.cells #[.int .i64 k', .string s', .slice a1' n1' c1', .slice a2' n2' c2', v0', v1', v2', v3', v4', v5', .int .i64 n'] 29) _ (Below.refl _ _)
  have HSZ := hid (show ((w.alloc (.cells #[.int .i64 k, .string s, .slice a1 n1 c1, .slice a2 n2 c2, v0, v1, v2, v3, v4, v5, .int .i64 n] 29)).alloc (.cells #[.int .i64 k', .string s', .slice a1' n1' c1', .slice a2' n2' c2', v0', v1', v2', v3', v4', v5', .int .i64 n'] 29)).heap.size = w.heap.size + 2 by simp)
  generalize (w.alloc (.cells #[.int .i64 k, .string s, .slice a1 n1 c1, .slice a2 n2 c2, v0, v1, v2, v3, v4, v5, .int .i64 n] 29)).alloc (.cells #[.int .i64 k', .string s', .slice a1' n1' c1', .slice a2' n2' c2', v0', v1', v2', v3', v4', v5', .int .i64 n'] 29) = w1 at *
  have HE1 := hid hEE
  have X1 := hid x1
  have X2 := hid x2
  obtain ⟨⟨z0, z1, z2, z3, z4, z5, z6, z7, z8, z9, z10⟩, f0, f1, f2, f3, f4, f5, f6, f7, f8, f9, f10⟩ := slot11 x1
  obtain ⟨⟨y0, y1, y2, y3, y4, y5, y6, y7, y8, y9, y10⟩, g0, g1, g2, g3, g4, g5, g6, g7, g8, g9, g10⟩ := slot11 x2
  clear x1 x2 hEE
  have d1 : ¬ w.heap.size = w.heap.size + 1 := by omega
  have d2 : ¬ w.heap.size + 1 = w.heap.size := by omega
  go_region_law (first
    | (refine step_call _ rfl 14 [.tmp 5] #[29] rfl (by kernel_rfl) [_] rfl (C1.out _ _ (HA.out.ext HE1.out.drew)) ?_; rintro e w5 ⟨cs5, rfl, hT, hE⟩; obtain ⟨r2, r3, r4, r5, u1, u2, u3, u4, u5, u6, u7, u8, u9, u10, rfl⟩ := hT.form8; refine ⟨_, rfl, ?_⟩; have HT5 := hid (hT.weak (S' := fun b => w1.heap.size ≤ b) (fun b hb _ => by simpa using hb)); have HE5 := hid ((Ext.refl w1).drew.trans hE); clear hT hE z0 z1 z2 z3 z4 z5 z6 z7 z8 z9 z10 y0 y1 y2 y3 y4 y5 y6 y7 y8 y9 y10 f0 f1 f2 f3 f4 f5 f6 f7 f8 f9 f10 g0 g1 g2 g3 g4 g5 g6 g7 g8 g9 g10; obtain ⟨⟨z0, z1, z2, z3, z4, z5, z6, z7, z8, z9, z10⟩, f0, f1, f2, f3, f4, f5, f6, f7, f8, f9, f10⟩ := slot11 (HE5.out.block X1.out); obtain ⟨⟨y0, y1, y2, y3, y4, y5, y6, y7, y8, y9, y10⟩, g0, g1, g2, g3, g4, g5, g6, g7, g8, g9, g10⟩ := slot11 (HE5.out.block X2.out))
    | (refine step_call _ rfl 14 [.tmp 7] #[29] rfl (by kernel_rfl) [_] rfl (C2.out _ _ (HB.out.ext (HE1.out.trans HE5.out))) ?_; rintro e w6 ⟨cs6, rfl, hT, hE⟩; obtain ⟨r2', r3', r4', r5', u1', u2', u3', u4', u5', u6', u7', u8', u9', u10', rfl⟩ := hT.form8; refine ⟨_, rfl, ?_⟩; have HT6 := hid (hT.weak (S' := fun b => w1.heap.size ≤ b) (fun b hb _ => Nat.le_trans HE5.out.size hb)); have HE6 := hid (HE5.out.trans hE); have HT56 := hid (HT5.out.ext hE); clear hT hE z0 z1 z2 z3 z4 z5 z6 z7 z8 z9 z10 y0 y1 y2 y3 y4 y5 y6 y7 y8 y9 y10 f0 f1 f2 f3 f4 f5 f6 f7 f8 f9 f10 g0 g1 g2 g3 g4 g5 g6 g7 g8 g9 g10; obtain ⟨⟨z0, z1, z2, z3, z4, z5, z6, z7, z8, z9, z10⟩, f0, f1, f2, f3, f4, f5, f6, f7, f8, f9, f10⟩ := slot11 (HE6.out.block X1.out); obtain ⟨⟨y0, y1, y2, y3, y4, y5, y6, y7, y8, y9, y10⟩, g0, g1, g2, g3, g4, g5, g6, g7, g8, g9, g10⟩ := slot11 (HE6.out.block X2.out)))
  all_goals
    change Exit.then _ _ Exit.normal _ (setL (setL w6 w.heap.size 0 [.int .i64 c.kind, .string c.s, .slice r2 c.keys.length r3, .slice r4 c.l.length r5, .int .i64 u1, .int .i64 u2, .float .f64 u3, .string u4, .slice u5 u6 u7, .slice u8 u9 u10, .int .i64 c.n]) (w.heap.size + 1) 0 [.int .i64 c.kind, .string c.s, .slice r2' c.keys.length r3', .slice r4' c.l.length r5', .int .i64 u1', .int .i64 u2', .float .f64 u3', .string u4', .slice u5' u6' u7', .slice u8' u9' u10', .int .i64 c.n])
    have hb1 : (setL (setL w6 w.heap.size 0 [.int .i64 c.kind, .string c.s, .slice r2 c.keys.length r3, .slice r4 c.l.length r5, .int .i64 u1, .int .i64 u2, .float .f64 u3, .string u4, .slice u5 u6 u7, .slice u8 u9 u10, .int .i64 c.n]) (w.heap.size + 1) 0 [.int .i64 c.kind, .string c.s, .slice r2' c.keys.length r3', .slice r4' c.l.length r5', .int .i64 u1', .int .i64 u2', .float .f64 u3', .string u4', .slice u5' u6' u7', .slice u8' u9' u10', .int .i64 c.n]).heap[w.heap.size]? = some (.cells #[.int .i64 c.kind, .string c.s, .slice r2 c.keys.length r3, .slice r4 c.l.length r5, .int .i64 u1, .int .i64 u2, .float .f64 u3, .string u4, .slice u5 u6 u7, .slice u8 u9 u10, .int .i64 c.n] 29) := (setL_other d1 _).trans (setL_all (HE6.out.block X1.out) [.int .i64 c.kind, .string c.s, .slice r2 c.keys.length r3, .slice r4 c.l.length r5, .int .i64 u1, .int .i64 u2, .float .f64 u3, .string u4, .slice u5 u6 u7, .slice u8 u9 u10, .int .i64 c.n] rfl)
    have hb2 : (setL (setL w6 w.heap.size 0 [.int .i64 c.kind, .string c.s, .slice r2 c.keys.length r3, .slice r4 c.l.length r5, .int .i64 u1, .int .i64 u2, .float .f64 u3, .string u4, .slice u5 u6 u7, .slice u8 u9 u10, .int .i64 c.n]) (w.heap.size + 1) 0 [.int .i64 c.kind, .string c.s, .slice r2' c.keys.length r3', .slice r4' c.l.length r5', .int .i64 u1', .int .i64 u2', .float .f64 u3', .string u4', .slice u5' u6' u7', .slice u8' u9' u10', .int .i64 c.n]).heap[w.heap.size + 1]? = some (.cells #[.int .i64 c.kind, .string c.s, .slice r2' c.keys.length r3', .slice r4' c.l.length r5', .int .i64 u1', .int .i64 u2', .float .f64 u3', .string u4', .slice u5' u6' u7', .slice u8' u9' u10', .int .i64 c.n] 29) := setL_all ((setL_other d2 _).trans (HE6.out.block X2.out)) [.int .i64 c.kind, .string c.s, .slice r2' c.keys.length r3', .slice r4' c.l.length r5', .int .i64 u1', .int .i64 u2', .float .f64 u3', .string u4', .slice u5' u6' u7', .slice u8' u9' u10', .int .i64 c.n] rfl
    have HE7 := hid (show Ext w (setL (setL w6 w.heap.size 0 [.int .i64 c.kind, .string c.s, .slice r2 c.keys.length r3, .slice r4 c.l.length r5, .int .i64 u1, .int .i64 u2, .float .f64 u3, .string u4, .slice u5 u6 u7, .slice u8 u9 u10, .int .i64 c.n]) (w.heap.size + 1) 0 [.int .i64 c.kind, .string c.s, .slice r2' c.keys.length r3', .slice r4' c.l.length r5', .int .i64 u1', .int .i64 u2', .float .f64 u3', .string u4', .slice u5' u6' u7', .slice u8' u9' u10', .int .i64 c.n]) from setL_below (setL_below (HE1.out.trans HE6.out) (Nat.le_refl _) _ _) (Nat.le_succ _) _ _)
    have hs7 : Same (fun b => w1.heap.size ≤ b) w6 (setL (setL w6 w.heap.size 0 [.int .i64 c.kind, .string c.s, .slice r2 c.keys.length r3, .slice r4 c.l.length r5, .int .i64 u1, .int .i64 u2, .float .f64 u3, .string u4, .slice u5 u6 u7, .slice u8 u9 u10, .int .i64 c.n]) (w.heap.size + 1) 0 [.int .i64 c.kind, .string c.s, .slice r2' c.keys.length r3', .slice r4' c.l.length r5', .int .i64 u1', .int .i64 u2', .float .f64 u3', .string u4', .slice u5' u6' u7', .slice u8' u9' u10', .int .i64 c.n]) := fun b o hb ho => by
      have := HSZ.out
      rw [setL_other (by have hb' : w1.heap.size ≤ b := hb; omega), setL_other (by have hb' : w1.heap.size ≤ b := hb; omega)]; exact ho
    have HR1 := hid (HT56.out.mono hs7 (S' := Any) (fun _ _ _ => trivial))
    have HR2 := hid (HT6.out.mono hs7 (S' := Any) (fun _ _ _ => trivial))
    generalize setL (setL w6 w.heap.size 0 [.int .i64 c.kind, .string c.s, .slice r2 c.keys.length r3, .slice r4 c.l.length r5, .int .i64 u1, .int .i64 u2, .float .f64 u3, .string u4, .slice u5 u6 u7, .slice u8 u9 u10, .int .i64 c.n]) (w.heap.size + 1) 0 [.int .i64 c.kind, .string c.s, .slice r2' c.keys.length r3', .slice r4' c.l.length r5', .int .i64 u1', .int .i64 u2', .float .f64 u3', .string u4', .slice u5' u6' u7', .slice u8' u9' u10', .int .i64 c.n] = w7 at *
    have Y1 := hid hb1
    have Y2 := hid hb2
    have K := hid (show ∀ w' : World, Ext w7 w' → (fun w' : World => w'.cell? ⟨w.heap.size, 0, none⟩ = some (.int .i64 c.kind) ∧ w'.cell? ⟨w.heap.size, 1, none⟩ = some (.string c.s) ∧ w'.cell? ⟨w.heap.size, 2, none⟩ = some (.slice r2 c.keys.length r3) ∧ w'.cell? ⟨w.heap.size, 3, none⟩ = some (.slice r4 c.l.length r5) ∧ w'.cell? ⟨w.heap.size, 4, none⟩ = some (.int .i64 u1) ∧ w'.cell? ⟨w.heap.size, 5, none⟩ = some (.int .i64 u2) ∧ w'.cell? ⟨w.heap.size, 6, none⟩ = some (.float .f64 u3) ∧ w'.cell? ⟨w.heap.size, 7, none⟩ = some (.string u4) ∧ w'.cell? ⟨w.heap.size, 8, none⟩ = some (.slice u5 u6 u7) ∧ w'.cell? ⟨w.heap.size, 9, none⟩ = some (.slice u8 u9 u10) ∧ w'.cell? ⟨w.heap.size, 10, none⟩ = some (.int .i64 c.n) ∧ w'.cell? ⟨w.heap.size + 1, 0, none⟩ = some (.int .i64 c.kind) ∧ w'.cell? ⟨w.heap.size + 1, 1, none⟩ = some (.string c.s) ∧ w'.cell? ⟨w.heap.size + 1, 2, none⟩ = some (.slice r2' c.keys.length r3') ∧ w'.cell? ⟨w.heap.size + 1, 3, none⟩ = some (.slice r4' c.l.length r5') ∧ w'.cell? ⟨w.heap.size + 1, 4, none⟩ = some (.int .i64 u1') ∧ w'.cell? ⟨w.heap.size + 1, 5, none⟩ = some (.int .i64 u2') ∧ w'.cell? ⟨w.heap.size + 1, 6, none⟩ = some (.float .f64 u3') ∧ w'.cell? ⟨w.heap.size + 1, 7, none⟩ = some (.string u4') ∧ w'.cell? ⟨w.heap.size + 1, 8, none⟩ = some (.slice u5' u6' u7') ∧ w'.cell? ⟨w.heap.size + 1, 9, none⟩ = some (.slice u8' u9' u10') ∧ w'.cell? ⟨w.heap.size + 1, 10, none⟩ = some (.int .i64 c.n)) w' from fun w' h => by
      obtain ⟨⟨z0, z1, z2, z3, z4, z5, z6, z7, z8, z9, z10⟩, -⟩ := slot11 (h.block Y1.out)
      obtain ⟨⟨y0, y1, y2, y3, y4, y5, y6, y7, y8, y9, y10⟩, -⟩ := slot11 (h.block Y2.out)
      exact ⟨z0, z1, z2, z3, z4, z5, z6, z7, z8, z9, z10, y0, y1, y2, y3, y4, y5, y6, y7, y8, y9, y10⟩)
    clear hb1 hb2 hs7 z0 z1 z2 z3 z4 z5 z6 z7 z8 z9 z10 y0 y1 y2 y3 y4 y5 y6 y7 y8 y9 y10 f0 f1 f2 f3 f4 f5 f6 f7 f8 f9 f10 g0 g1 g2 g3 g4 g5 g6 g7 g8 g9 g10
    obtain ⟨z0, z1, z2, z3, z4, z5, z6, z7, z8, z9, z10, y0, y1, y2, y3, y4, y5, y6, y7, y8, y9, y10⟩ := K.out _ (Ext.refl w7)
    go_upto_region 4 with (go_at_call 15; refine (id_any c.v _ _ _ HR1.out.val HR2.out.val).mono ?_; rintro e w8 ⟨rfl, hE⟩; have HE8 := hid hE; clear hE z0 z1 z2 z3 z4 z5 z6 z7 z8 z9 z10 y0 y1 y2 y3 y4 y5 y6 y7 y8 y9 y10; obtain ⟨z0, z1, z2, z3, z4, z5, z6, z7, z8, z9, z10, y0, y1, y2, y3, y4, y5, y6, y7, y8, y9, y10⟩ := K.out _ HE8.out)
    go_region_held3 (fun w' : World => w'.cell? ⟨w.heap.size, 0, none⟩ = some (.int .i64 c.kind) ∧ w'.cell? ⟨w.heap.size, 1, none⟩ = some (.string c.s) ∧ w'.cell? ⟨w.heap.size, 2, none⟩ = some (.slice r2 c.keys.length r3) ∧ w'.cell? ⟨w.heap.size, 3, none⟩ = some (.slice r4 c.l.length r5) ∧ w'.cell? ⟨w.heap.size, 4, none⟩ = some (.int .i64 u1) ∧ w'.cell? ⟨w.heap.size, 5, none⟩ = some (.int .i64 u2) ∧ w'.cell? ⟨w.heap.size, 6, none⟩ = some (.float .f64 u3) ∧ w'.cell? ⟨w.heap.size, 7, none⟩ = some (.string u4) ∧ w'.cell? ⟨w.heap.size, 8, none⟩ = some (.slice u5 u6 u7) ∧ w'.cell? ⟨w.heap.size, 9, none⟩ = some (.slice u8 u9 u10) ∧ w'.cell? ⟨w.heap.size, 10, none⟩ = some (.int .i64 c.n) ∧ w'.cell? ⟨w.heap.size + 1, 0, none⟩ = some (.int .i64 c.kind) ∧ w'.cell? ⟨w.heap.size + 1, 1, none⟩ = some (.string c.s) ∧ w'.cell? ⟨w.heap.size + 1, 2, none⟩ = some (.slice r2' c.keys.length r3') ∧ w'.cell? ⟨w.heap.size + 1, 3, none⟩ = some (.slice r4' c.l.length r5') ∧ w'.cell? ⟨w.heap.size + 1, 4, none⟩ = some (.int .i64 u1') ∧ w'.cell? ⟨w.heap.size + 1, 5, none⟩ = some (.int .i64 u2') ∧ w'.cell? ⟨w.heap.size + 1, 6, none⟩ = some (.float .f64 u3') ∧ w'.cell? ⟨w.heap.size + 1, 7, none⟩ = some (.string u4') ∧ w'.cell? ⟨w.heap.size + 1, 8, none⟩ = some (.slice u5' u6' u7') ∧ w'.cell? ⟨w.heap.size + 1, 9, none⟩ = some (.slice u8' u9' u10') ∧ w'.cell? ⟨w.heap.size + 1, 10, none⟩ = some (.int .i64 c.n))
      (first | with_reducible exact K.out _ HE11.out | with_reducible exact K.out _ HE10.out | with_reducible exact K.out _ HE9.out | with_reducible exact K.out _ HE8.out.drew)
      (first
        | (go_at_call_of 16 r2; refine (keyValue_any c _ _ (HR1.out.ext HE8.out.drew)).mono ?_; rintro e w9 ⟨cs9, rfl, hT, hE⟩; obtain ⟨h1, h2, h3, h4, h5, h6, h7, h8, h9, h10, rfl⟩ := hT.form; have HT9 := hid hT; have HE9 := hid (HE8.out.drew.trans hE); clear hT hE)
        | (go_at_call_of 16 r2'; refine (keyValue_any c _ _ (HR2.out.ext HE9.out)).mono ?_; rintro e w10 ⟨cs10, rfl, hT, hE⟩; obtain ⟨h1', h2', h3', h4', h5', h6', h7', h8', h9', h10', rfl⟩ := hT.form; have HT10 := hid hT; have HT910 := hid (HT9.out.ext hE); have HE10 := hid (HE9.out.trans hE); clear hT hE)
        | (go_at_call 15; refine (id_any _ _ _ _ HT910.out HT10.out).mono ?_; rintro e w11 ⟨rfl, hE⟩; have HE11 := hid (HE10.out.trans hE); clear hE))
    all_goals
      go_wp2_with fail
      go_ret
      exact ⟨rfl, HE7.out.trans HE11.out⟩
end Go.Proofs.YtempfaefopfobaaDoor
