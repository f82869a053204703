/- OrdElem: spec.KeySorted, spec.OrderlyElem; the size test of an element. -/
import Derived.Test.YtempfaefopfobaaCleanElem
import Derived.Test.YtempfaefopfobaaOrdVals
import Derived.StillTailTactics
import Derived.Deep.QuietTactic
import Derived.BigQuiet
import Derived.Test.YtempfaefopfobaaStrBig
import Derived.Test.YtempfaefopfobaaFits

set_option maxRecDepth 100000
namespace Go.Proofs.Ytempfaefopfobaa
open Go.ChangeShapes Go.WideShapes Go.ChangeAt Go.RowKit
set_option linter.unusedVariables false
set_option linter.unusedSimpArgs false

/-- the names stand in increasing order, each once -/
def upK : List ByteArray → Bool
  | [] => true
  | [_] => true
  | a :: b :: l => blt a b && upK (b :: l)
theorem upK_step {l : List ByteArray} {j : Nat} {a b : ByteArray} (h1 : l[j]? = some a) (h2 : l[j + 1]? = some b) : upK (l.drop j) = (blt a b && upK (l.drop (j + 1))) := by
  obtain ⟨h3, rfl⟩ := List.getElem?_eq_some_iff.1 h1
  obtain ⟨h4, rfl⟩ := List.getElem?_eq_some_iff.1 h2
  rw [List.drop_eq_getElem_cons h3, List.drop_eq_getElem_cons h4]
  rfl
theorem upK_end {l : List ByteArray} {j : Nat} (h : l.length ≤ j + 1) : upK (l.drop j) = true := by
  rcases Nat.lt_or_ge j l.length with h1 | h1
  · rw [List.drop_eq_getElem_cons h1, List.drop_eq_nil_of_le h]; rfl
  · rw [List.drop_eq_nil_of_le h1]; rfl
theorem RepGE.form6 {S : Nat → Prop} {w : World} {e : GE} {cs : List Value} (h : RepGE S w e cs) : ∃ k s a1 c1 a2 c2 u1 u2 u3 u4 u5 u6 u7 u8 u9 u10 n, cs = [.int .i64 k, .string s, .slice a1 e.keys.length c1, .slice a2 e.l.length c2, .int .i64 u1, .int .i64 u2, .float .f64 u3, .string u4, .slice u5 u6 u7, .slice u8 u9 u10, .int .i64 n] ∧ RepStrs S w (.slice a1 e.keys.length c1) e.keys ∧ RepVals S w (.slice a2 e.l.length c2) e.l ∧ RepGV S w e.v [.int .i64 u1, .int .i64 u2, .float .f64 u3, .string u4, .slice u5 u6 u7, .slice u8 u9 u10] := by
  obtain ⟨ka, kc, la, lc, v0, v1, v2, v3, v4, v5, h, -, -, -, hk, hl, hv⟩ := h
  obtain ⟨u1, u2, u3, u4, u5, u6, u7, u8, u9, u10, e6⟩ := hv.form
  simp only [List.cons.injEq, and_true] at e6
  obtain ⟨rfl, rfl, rfl, rfl, rfl, rfl⟩ := e6
  exact ⟨_, _, _, _, _, _, _, _, _, _, _, _, _, _, _, _, _, h, hk, hl, hv⟩
set_option maxHeartbeats 1000000 in
theorem keySorted_any (e : GE) (cs : List Value) (w : World) (hR : RepGE Any w e cs) :
    Calls Try.prog 29 #[.agg cs.toArray] w fun en w' => en = .returned (.bool (upK (cleanE e).keys)) ∧ Ext w w' := by
  have HR := hid hR
  obtain ⟨k, s, a1, n1, c1, a2, n2, c2, v0, v1, v2, v3, v4, v5, n, rfl⟩ := hR.form
  clear hR
  go_enter Try.func29, Try.ntmps29
  have HE0 := hid ((Ext.refl w).alloc (.cells #[.int .i64 k, .string s, .slice a1 n1 c1, .slice a2 n2 c2, v0, v1, v2, v3, v4, v5, .int .i64 n] 34))
  have xx := heap_alloc_new w (.cells #[.int .i64 k, .string s, .slice a1 n1 c1, .slice a2 n2 c2, v0, v1, v2, v3, v4, v5, .int .i64 n] 34)
  have HX := hid xx
  obtain ⟨⟨y0, y1, y2, y3, y4, y5, y6, y7, y8, y9, y10⟩, -⟩ := slot11 xx
  clear xx
  go_upto_region 2 with (go_at_call 54; refine (cleanElem_any e _ _ (HR.out.ext HE0.out)).mono ?_; rintro en w2 ⟨cs2, rfl, hT, hE⟩; have HT := hid (hT.weak (S' := fun b => w.heap.size + 1 ≤ b) (fun b hb _ => by simp at hb; omega)); obtain ⟨k', s', a1', c1', a2', c2', u1, u2, u3, u4, u5, u6, u7, u8, u9, u10, n', rfl, -⟩ := hT.form6; have HX2 := hid (hE.block HX.out); have HE2 := hid (HE0.out.trans hE); obtain ⟨⟨z0, z1, z2, z3, z4, z5, z6, z7, z8, z9, z10⟩, f0, f1, f2, f3, f4, f5, f6, f7, f8, f9, f10⟩ := slot11 (hE.block HX.out); clear hT hE)
  change Code.wp _ _ _ _ (setL w2 w.heap.size 0 [.int .i64 k', .string s', .slice a1' (cleanE e).keys.length c1', .slice a2' (cleanE e).l.length c2', .int .i64 u1, .int .i64 u2, .float .f64 u3, .string u4, .slice u5 u6 u7, .slice u8 u9 u10, .int .i64 n'])
  have x3 := setL_all HX2.out [.int .i64 k', .string s', .slice a1' (cleanE e).keys.length c1', .slice a2' (cleanE e).l.length c2', .int .i64 u1, .int .i64 u2, .float .f64 u3, .string u4, .slice u5 u6 u7, .slice u8 u9 u10, .int .i64 n'] rfl
  have HE3 := hid (show Ext w (setL w2 w.heap.size 0 [.int .i64 k', .string s', .slice a1' (cleanE e).keys.length c1', .slice a2' (cleanE e).l.length c2', .int .i64 u1, .int .i64 u2, .float .f64 u3, .string u4, .slice u5 u6 u7, .slice u8 u9 u10, .int .i64 n']) from setL_below HE2.out (Nat.le_refl _) 0 [.int .i64 k', .string s', .slice a1' (cleanE e).keys.length c1', .slice a2' (cleanE e).l.length c2', .int .i64 u1, .int .i64 u2, .float .f64 u3, .string u4, .slice u5 u6 u7, .slice u8 u9 u10, .int .i64 n'])
  have HT3 := hid (HT.out.mono (S' := Any) (w' := setL w2 w.heap.size 0 [.int .i64 k', .string s', .slice a1' (cleanE e).keys.length c1', .slice a2' (cleanE e).l.length c2', .int .i64 u1, .int .i64 u2, .float .f64 u3, .string u4, .slice u5 u6 u7, .slice u8 u9 u10, .int .i64 n']) (fun b o hb ho => (setL_other (by have hb2 : w.heap.size + 1 ≤ b := hb; omega) _).trans ho) (fun _ _ _ => trivial))
  clear HT HX2 HE2 z0 z1 z2 z3 z4 z5 z6 z7 z8 z9 z10 f0 f1 f2 f3 f4 f5 f6 f7 f8 f9 f10 y0 y1 y2 y3 y4 y5 y6 y7 y8 y9 y10
  change (setL w2 w.heap.size 0 [.int .i64 k', .string s', .slice a1' (cleanE e).keys.length c1', .slice a2' (cleanE e).l.length c2', .int .i64 u1, .int .i64 u2, .float .f64 u3, .string u4, .slice u5 u6 u7, .slice u8 u9 u10, .int .i64 n']).heap[w.heap.size]? = some (.cells #[.int .i64 k', .string s', .slice a1' (cleanE e).keys.length c1', .slice a2' (cleanE e).l.length c2', .int .i64 u1, .int .i64 u2, .float .f64 u3, .string u4, .slice u5 u6 u7, .slice u8 u9 u10, .int .i64 n'] 34) at x3
  generalize setL w2 w.heap.size 0 [.int .i64 k', .string s', .slice a1' (cleanE e).keys.length c1', .slice a2' (cleanE e).l.length c2', .int .i64 u1, .int .i64 u2, .float .f64 u3, .string u4, .slice u5 u6 u7, .slice u8 u9 u10, .int .i64 n'] = w3 at *
  have X3 := hid x3
  clear x3
  obtain ⟨_, _, _, _, _, _, _, _, _, _, _, _, _, _, _, _, _, e6, hks, hls, hvs⟩ := HT3.out.form6
  simp only [List.cons.injEq, and_true, Value.int.injEq, Value.string.injEq, Value.slice.injEq, Value.float.injEq, true_and] at e6
  obtain ⟨rfl, rfl, ⟨rfl, rfl⟩, ⟨rfl, rfl⟩, rfl, rfl, rfl, rfl, ⟨rfl, rfl, rfl⟩, ⟨rfl, rfl, rfl⟩, rfl⟩ := e6
  generalize hks0 : (cleanE e).keys = ks at *
  generalize (cleanE e).l = gl at *
  have KE := hid hks0
  clear hks0
  obtain ⟨ka, kb, ko, kc, hke, hks2, kat⟩ := hks.at'
  simp only [Value.slice.injEq, true_and] at hke
  obtain ⟨rfl, rfl⟩ := hke
  have HK := hid kat
  clear hks hls hvs kat
  have K := hid (show ∀ w' : World, Ext w3 w' → w'.cell? ⟨w.heap.size, 2, none⟩ = some (.slice a1' ks.length c1') from fun w' h => (slot11 (h.block X3.out)).1.2.2.1)
  go_wp2_with fail
  go_loopw [3] (fun i wr => ∃ j : Nat, i = .int .i64 ((j : Int) + 1) ∧ (j ≤ ks.length) ∧ Hid (upK (ks.drop j) = upK ks) ∧ Hid (Ext w3 wr)) (fun i _ => ks.length + 1 - (intOf i).toNat)
  case atStart => exact ⟨0, rfl, Nat.zero_le _, hid rfl, hid (Ext.refl _)⟩
  case round =>
    obtain ⟨j, rfl, hj, HC, HE⟩ := hrel
    have z2 := K.out _ HE.out
    by_cases h1 : j + 1 < ks.length
    · obtain ⟨x, hx⟩ : ∃ x, ks[j]? = some x := ⟨_, List.getElem?_eq_getElem (by omega)⟩
      obtain ⟨y, hy⟩ : ∃ y, ks[j + 1]? = some y := ⟨_, List.getElem?_eq_getElem h1⟩
      obtain ⟨rfl, kx, sx⟩ := HK.out j x hx
      obtain ⟨-, ky, sy⟩ := HK.out (j + 1) y hy
      have j1 := HE.out.cellS kx
      have j2 := HE.out.cellS ky
      have hst := upK_step hx hy
      rw [HC.out] at hst
      have hi0 : (0 : Int) ≤ (j : Int) := by omega
      have hi1 : (j : Int) + 1 < (ks.length : Int) := by omega
      have hi2 : (j : Int) < (ks.length : Int) := by omega
      have hi3 : (0 : Int) ≤ (j : Int) + 1 := by omega
      have hw : IntKind.i64.wrap (j : Int) = (j : Int) := by simp [IntKind.wrap, IntKind.signed, IntKind.bits]; omega
      have hge : ∃ b, decide (0 ≤ scmp x y) = b ∧ blt x y = !b := by
        rcases blt_tri x y with h | h | h
        · exact ⟨false, by rw [(scmp_lt h).1]; rfl, by rw [h]; rfl⟩
        · subst h; exact ⟨true, by rw [scmp_refl]; rfl, by rw [blt_irrefl]; rfl⟩
        · exact ⟨true, by rw [(scmp_lt h).2]; rfl, by rw [blt_asymm h]; rfl⟩
      obtain ⟨b, hb1, hb2⟩ := hge
      rw [hb2] at hst
      have HST := hid hst
      have HSS := hid (fun W => specStr_big x y W sx)
      clear hst hb2 hx hy kx ky sx sy
      generalize scmp x y = z at *
      cases b
      all_goals
        go_wp2_with fail
        go_still_tail 11, (by kernel_rfl)
        change wpList _ _ _ _ _ wr.drew
        go_wp2_with (go_at_call 70; refine (HSS.out _).mono ?_; rintro e w4 ⟨rfl, hE⟩; have HE4 := hid (HE.out.drew.trans hE); clear hE)
      · exact ⟨⟨j + 1, by go_num, by omega, hid (by have h := HST.out; simpa using h.symm), HE4⟩, by simp [intOf]; omega⟩
      · go_ret
        exact ⟨congrArg (fun z => Ending.returned (.bool z)) (show false = upK (cleanE e).keys by rw [KE.out]; have h := HST.out; simpa using h.symm), HE3.out.trans HE4.out⟩
    · have RES := hid (show true = upK (cleanE e).keys by rw [KE.out, ← HC.out, upK_end (by omega)])
      go_wp2_with fail
      go_ret
      exact ⟨congrArg (fun z => Ending.returned (.bool z)) RES.out, HE3.out.trans HE.out⟩
/-- the values of an element are orderly, its names in increasing order -/
def ordE (e : GE) : Bool := ordG (cleanE e).v && ordGs (cleanE e).l && upK (cleanE (cleanE e)).keys
set_option maxHeartbeats 1000000 in
theorem oe_f (e : GE) (cs : List Value) (w : World) (hR : RepGE Any w e cs) (h1 : ordG (cleanE e).v = false) :
    Calls Try.prog 91 #[.agg cs.toArray] w fun en w' => en = .returned (.bool (false)) ∧ Ext w w' := by
  have HR := hid hR
  obtain ⟨k, s, a1, n1, c1, a2, n2, c2, v0, v1, v2, v3, v4, v5, n, rfl⟩ := hR.form
  clear hR
  have H1 := hid (fun W {cs : List Value} (h : RepGV Any W (cleanE e).v cs) => ord_any (cleanE e).v W cs h)
  rw [h1] at H1
  clear h1
  go_enter Try.func91, Try.ntmps91
  have HE0 := hid ((Ext.refl w).alloc (.cells #[.int .i64 k, .string s, .slice a1 n1 c1, .slice a2 n2 c2, v0, v1, v2, v3, v4, v5, .int .i64 n] 34))
  have xx := heap_alloc_new w (.cells #[.int .i64 k, .string s, .slice a1 n1 c1, .slice a2 n2 c2, v0, v1, v2, v3, v4, v5, .int .i64 n] 34)
  have HX := hid xx
  obtain ⟨⟨y0, y1, y2, y3, y4, y5, y6, y7, y8, y9, y10⟩, -⟩ := slot11 xx
  clear xx
  go_upto_region 2 with (go_at_call 54; refine (cleanElem_any e _ _ (HR.out.ext HE0.out)).mono ?_; rintro en w2 ⟨cs2, rfl, hT, hE⟩; have HT := hid (hT.weak (S' := fun b => w.heap.size + 1 ≤ b) (fun b hb _ => by simp at hb; omega)); obtain ⟨k', s', a1', c1', a2', c2', u1, u2, u3, u4, u5, u6, u7, u8, u9, u10, n', rfl, -⟩ := hT.form6; have HX2 := hid (hE.block HX.out); have HE2 := hid (HE0.out.trans hE); obtain ⟨⟨z0, z1, z2, z3, z4, z5, z6, z7, z8, z9, z10⟩, f0, f1, f2, f3, f4, f5, f6, f7, f8, f9, f10⟩ := slot11 (hE.block HX.out); clear hT hE)
  change Code.wp _ _ _ _ (setL w2 w.heap.size 0 [.int .i64 k', .string s', .slice a1' (cleanE e).keys.length c1', .slice a2' (cleanE e).l.length c2', .int .i64 u1, .int .i64 u2, .float .f64 u3, .string u4, .slice u5 u6 u7, .slice u8 u9 u10, .int .i64 n'])
  have x3 := setL_all HX2.out [.int .i64 k', .string s', .slice a1' (cleanE e).keys.length c1', .slice a2' (cleanE e).l.length c2', .int .i64 u1, .int .i64 u2, .float .f64 u3, .string u4, .slice u5 u6 u7, .slice u8 u9 u10, .int .i64 n'] rfl
  have HE3 := hid (show Ext w (setL w2 w.heap.size 0 [.int .i64 k', .string s', .slice a1' (cleanE e).keys.length c1', .slice a2' (cleanE e).l.length c2', .int .i64 u1, .int .i64 u2, .float .f64 u3, .string u4, .slice u5 u6 u7, .slice u8 u9 u10, .int .i64 n']) from setL_below HE2.out (Nat.le_refl _) 0 [.int .i64 k', .string s', .slice a1' (cleanE e).keys.length c1', .slice a2' (cleanE e).l.length c2', .int .i64 u1, .int .i64 u2, .float .f64 u3, .string u4, .slice u5 u6 u7, .slice u8 u9 u10, .int .i64 n'])
  have HT3 := hid (HT.out.mono (S' := Any) (w' := setL w2 w.heap.size 0 [.int .i64 k', .string s', .slice a1' (cleanE e).keys.length c1', .slice a2' (cleanE e).l.length c2', .int .i64 u1, .int .i64 u2, .float .f64 u3, .string u4, .slice u5 u6 u7, .slice u8 u9 u10, .int .i64 n']) (fun b o hb ho => (setL_other (by have hb2 : w.heap.size + 1 ≤ b := hb; omega) _).trans ho) (fun _ _ _ => trivial))
  clear HT HX2 HE2 z0 z1 z2 z3 z4 z5 z6 z7 z8 z9 z10 f0 f1 f2 f3 f4 f5 f6 f7 f8 f9 f10 y0 y1 y2 y3 y4 y5 y6 y7 y8 y9 y10
  change (setL w2 w.heap.size 0 [.int .i64 k', .string s', .slice a1' (cleanE e).keys.length c1', .slice a2' (cleanE e).l.length c2', .int .i64 u1, .int .i64 u2, .float .f64 u3, .string u4, .slice u5 u6 u7, .slice u8 u9 u10, .int .i64 n']).heap[w.heap.size]? = some (.cells #[.int .i64 k', .string s', .slice a1' (cleanE e).keys.length c1', .slice a2' (cleanE e).l.length c2', .int .i64 u1, .int .i64 u2, .float .f64 u3, .string u4, .slice u5 u6 u7, .slice u8 u9 u10, .int .i64 n'] 34) at x3
  generalize setL w2 w.heap.size 0 [.int .i64 k', .string s', .slice a1' (cleanE e).keys.length c1', .slice a2' (cleanE e).l.length c2', .int .i64 u1, .int .i64 u2, .float .f64 u3, .string u4, .slice u5 u6 u7, .slice u8 u9 u10, .int .i64 n'] = w3 at *
  have X3 := hid x3
  clear x3
  obtain ⟨_, _, _, _, _, _, _, _, _, _, _, _, _, _, _, _, _, e6, hks, hls, hvs⟩ := HT3.out.form6
  simp only [List.cons.injEq, and_true, Value.int.injEq, Value.string.injEq, Value.slice.injEq, Value.float.injEq, true_and] at e6
  obtain ⟨rfl, rfl, ⟨rfl, rfl⟩, ⟨rfl, rfl⟩, rfl, rfl, rfl, rfl, ⟨rfl, rfl, rfl⟩, ⟨rfl, rfl, rfl⟩, rfl⟩ := e6
  have HL3 := hid hls
  have HV3 := hid hvs
  clear hks hls hvs
  have K := hid (show ∀ w' : World, Ext w3 w' → (fun w' : World => w'.cell? ⟨w.heap.size, 0, none⟩ = some (.int .i64 k') ∧ w'.cell? ⟨w.heap.size, 1, none⟩ = some (.string s') ∧ w'.cell? ⟨w.heap.size, 2, none⟩ = some (.slice a1' (cleanE e).keys.length c1') ∧ w'.cell? ⟨w.heap.size, 3, none⟩ = some (.slice a2' (cleanE e).l.length c2') ∧ w'.cell? ⟨w.heap.size, 4, none⟩ = some (.int .i64 u1) ∧ w'.cell? ⟨w.heap.size, 5, none⟩ = some (.int .i64 u2) ∧ w'.cell? ⟨w.heap.size, 6, none⟩ = some (.float .f64 u3) ∧ w'.cell? ⟨w.heap.size, 7, none⟩ = some (.string u4) ∧ w'.cell? ⟨w.heap.size, 8, none⟩ = some (.slice u5 u6 u7) ∧ w'.cell? ⟨w.heap.size, 9, none⟩ = some (.slice u8 u9 u10) ∧ w'.cell? ⟨w.heap.size, 10, none⟩ = some (.int .i64 n')) w' from fun w' h => (slot11 (h.block X3.out)).1)
  obtain ⟨z0, z1, z2, z3, z4, z5, z6, z7, z8, z9, z10⟩ := K.out _ (Ext.refl w3)
  go_wp2_with (first
    | (go_at_call 50; refine (H1.out _ (HV3.out)).mono ?_; rintro en w4 ⟨rfl, hE⟩; have HE4 := hid hE; clear z0 z1 z2 z3 z4 z5 z6 z7 z8 z9 z10; obtain ⟨z0, z1, z2, z3, z4, z5, z6, z7, z8, z9, z10⟩ := K.out _ HE4.out; clear hE))
  go_ret
  exact ⟨rfl, HE3.out.trans HE4.out⟩
set_option maxHeartbeats 1000000 in
theorem oe_tf (e : GE) (cs : List Value) (w : World) (hR : RepGE Any w e cs) (h1 : ordG (cleanE e).v = true) (h2 : ordGs (cleanE e).l = false) :
    Calls Try.prog 91 #[.agg cs.toArray] w fun en w' => en = .returned (.bool (false)) ∧ Ext w w' := by
  have HR := hid hR
  obtain ⟨k, s, a1, n1, c1, a2, n2, c2, v0, v1, v2, v3, v4, v5, n, rfl⟩ := hR.form
  clear hR
  have H1 := hid (fun W {cs : List Value} (h : RepGV Any W (cleanE e).v cs) => ord_any (cleanE e).v W cs h)
  rw [h1] at H1
  clear h1
  have H2 := hid (fun W {v : Value} (h : RepVals Any W v (cleanE e).l) => ordVals_any v (cleanE e).l W h)
  rw [h2] at H2
  clear h2
  go_enter Try.func91, Try.ntmps91
  have HE0 := hid ((Ext.refl w).alloc (.cells #[.int .i64 k, .string s, .slice a1 n1 c1, .slice a2 n2 c2, v0, v1, v2, v3, v4, v5, .int .i64 n] 34))
  have xx := heap_alloc_new w (.cells #[.int .i64 k, .string s, .slice a1 n1 c1, .slice a2 n2 c2, v0, v1, v2, v3, v4, v5, .int .i64 n] 34)
  have HX := hid xx
  obtain ⟨⟨y0, y1, y2, y3, y4, y5, y6, y7, y8, y9, y10⟩, -⟩ := slot11 xx
  clear xx
  go_upto_region 2 with (go_at_call 54; refine (cleanElem_any e _ _ (HR.out.ext HE0.out)).mono ?_; rintro en w2 ⟨cs2, rfl, hT, hE⟩; have HT := hid (hT.weak (S' := fun b => w.heap.size + 1 ≤ b) (fun b hb _ => by simp at hb; omega)); obtain ⟨k', s', a1', c1', a2', c2', u1, u2, u3, u4, u5, u6, u7, u8, u9, u10, n', rfl, -⟩ := hT.form6; have HX2 := hid (hE.block HX.out); have HE2 := hid (HE0.out.trans hE); obtain ⟨⟨z0, z1, z2, z3, z4, z5, z6, z7, z8, z9, z10⟩, f0, f1, f2, f3, f4, f5, f6, f7, f8, f9, f10⟩ := slot11 (hE.block HX.out); clear hT hE)
  change Code.wp _ _ _ _ (setL w2 w.heap.size 0 [.int .i64 k', .string s', .slice a1' (cleanE e).keys.length c1', .slice a2' (cleanE e).l.length c2', .int .i64 u1, .int .i64 u2, .float .f64 u3, .string u4, .slice u5 u6 u7, .slice u8 u9 u10, .int .i64 n'])
  have x3 := setL_all HX2.out [.int .i64 k', .string s', .slice a1' (cleanE e).keys.length c1', .slice a2' (cleanE e).l.length c2', .int .i64 u1, .int .i64 u2, .float .f64 u3, .string u4, .slice u5 u6 u7, .slice u8 u9 u10, .int .i64 n'] rfl
  have HE3 := hid (show Ext w (setL w2 w.heap.size 0 [.int .i64 k', .string s', .slice a1' (cleanE e).keys.length c1', .slice a2' (cleanE e).l.length c2', .int .i64 u1, .int .i64 u2, .float .f64 u3, .string u4, .slice u5 u6 u7, .slice u8 u9 u10, .int .i64 n']) from setL_below HE2.out (Nat.le_refl _) 0 [.int .i64 k', .string s', .slice a1' (cleanE e).keys.length c1', .slice a2' (cleanE e).l.length c2', .int .i64 u1, .int .i64 u2, .float .f64 u3, .string u4, .slice u5 u6 u7, .slice u8 u9 u10, .int .i64 n'])
  have HT3 := hid (HT.out.mono (S' := Any) (w' := setL w2 w.heap.size 0 [.int .i64 k', .string s', .slice a1' (cleanE e).keys.length c1', .slice a2' (cleanE e).l.length c2', .int .i64 u1, .int .i64 u2, .float .f64 u3, .string u4, .slice u5 u6 u7, .slice u8 u9 u10, .int .i64 n']) (fun b o hb ho => (setL_other (by have hb2 : w.heap.size + 1 ≤ b := hb; omega) _).trans ho) (fun _ _ _ => trivial))
  clear HT HX2 HE2 z0 z1 z2 z3 z4 z5 z6 z7 z8 z9 z10 f0 f1 f2 f3 f4 f5 f6 f7 f8 f9 f10 y0 y1 y2 y3 y4 y5 y6 y7 y8 y9 y10
  change (setL w2 w.heap.size 0 [.int .i64 k', .string s', .slice a1' (cleanE e).keys.length c1', .slice a2' (cleanE e).l.length c2', .int .i64 u1, .int .i64 u2, .float .f64 u3, .string u4, .slice u5 u6 u7, .slice u8 u9 u10, .int .i64 n']).heap[w.heap.size]? = some (.cells #[.int .i64 k', .string s', .slice a1' (cleanE e).keys.length c1', .slice a2' (cleanE e).l.length c2', .int .i64 u1, .int .i64 u2, .float .f64 u3, .string u4, .slice u5 u6 u7, .slice u8 u9 u10, .int .i64 n'] 34) at x3
  generalize setL w2 w.heap.size 0 [.int .i64 k', .string s', .slice a1' (cleanE e).keys.length c1', .slice a2' (cleanE e).l.length c2', .int .i64 u1, .int .i64 u2, .float .f64 u3, .string u4, .slice u5 u6 u7, .slice u8 u9 u10, .int .i64 n'] = w3 at *
  have X3 := hid x3
  clear x3
  obtain ⟨_, _, _, _, _, _, _, _, _, _, _, _, _, _, _, _, _, e6, hks, hls, hvs⟩ := HT3.out.form6
  simp only [List.cons.injEq, and_true, Value.int.injEq, Value.string.injEq, Value.slice.injEq, Value.float.injEq, true_and] at e6
  obtain ⟨rfl, rfl, ⟨rfl, rfl⟩, ⟨rfl, rfl⟩, rfl, rfl, rfl, rfl, ⟨rfl, rfl, rfl⟩, ⟨rfl, rfl, rfl⟩, rfl⟩ := e6
  have HL3 := hid hls
  have HV3 := hid hvs
  clear hks hls hvs
  have K := hid (show ∀ w' : World, Ext w3 w' → (fun w' : World => w'.cell? ⟨w.heap.size, 0, none⟩ = some (.int .i64 k') ∧ w'.cell? ⟨w.heap.size, 1, none⟩ = some (.string s') ∧ w'.cell? ⟨w.heap.size, 2, none⟩ = some (.slice a1' (cleanE e).keys.length c1') ∧ w'.cell? ⟨w.heap.size, 3, none⟩ = some (.slice a2' (cleanE e).l.length c2') ∧ w'.cell? ⟨w.heap.size, 4, none⟩ = some (.int .i64 u1) ∧ w'.cell? ⟨w.heap.size, 5, none⟩ = some (.int .i64 u2) ∧ w'.cell? ⟨w.heap.size, 6, none⟩ = some (.float .f64 u3) ∧ w'.cell? ⟨w.heap.size, 7, none⟩ = some (.string u4) ∧ w'.cell? ⟨w.heap.size, 8, none⟩ = some (.slice u5 u6 u7) ∧ w'.cell? ⟨w.heap.size, 9, none⟩ = some (.slice u8 u9 u10) ∧ w'.cell? ⟨w.heap.size, 10, none⟩ = some (.int .i64 n')) w' from fun w' h => (slot11 (h.block X3.out)).1)
  obtain ⟨z0, z1, z2, z3, z4, z5, z6, z7, z8, z9, z10⟩ := K.out _ (Ext.refl w3)
  go_wp2_with (first
    | (go_at_call 50; refine (H1.out _ (HV3.out)).mono ?_; rintro en w4 ⟨rfl, hE⟩; have HE4 := hid hE; clear z0 z1 z2 z3 z4 z5 z6 z7 z8 z9 z10; obtain ⟨z0, z1, z2, z3, z4, z5, z6, z7, z8, z9, z10⟩ := K.out _ HE4.out; clear hE)
    | (go_at_call 16; refine (H2.out _ (HL3.out.ext HE4.out)).mono ?_; rintro en w5 ⟨rfl, hE⟩; have HE5 := hid (HE4.out.trans hE); clear z0 z1 z2 z3 z4 z5 z6 z7 z8 z9 z10; obtain ⟨z0, z1, z2, z3, z4, z5, z6, z7, z8, z9, z10⟩ := K.out _ HE5.out; clear hE))
  go_ret
  exact ⟨rfl, HE3.out.trans HE5.out⟩
set_option maxHeartbeats 1000000 in
theorem oe_tt (e : GE) (cs : List Value) (w : World) (hR : RepGE Any w e cs) (h1 : ordG (cleanE e).v = true) (h2 : ordGs (cleanE e).l = true) :
    Calls Try.prog 91 #[.agg cs.toArray] w fun en w' => en = .returned (.bool (upK (cleanE (cleanE e)).keys)) ∧ Ext w w' := by
  have HR := hid hR
  obtain ⟨k, s, a1, n1, c1, a2, n2, c2, v0, v1, v2, v3, v4, v5, n, rfl⟩ := hR.form
  clear hR
  have H1 := hid (fun W {cs : List Value} (h : RepGV Any W (cleanE e).v cs) => ord_any (cleanE e).v W cs h)
  rw [h1] at H1
  clear h1
  have H2 := hid (fun W {v : Value} (h : RepVals Any W v (cleanE e).l) => ordVals_any v (cleanE e).l W h)
  rw [h2] at H2
  clear h2
  go_enter Try.func91, Try.ntmps91
  have HE0 := hid ((Ext.refl w).alloc (.cells #[.int .i64 k, .string s, .slice a1 n1 c1, .slice a2 n2 c2, v0, v1, v2, v3, v4, v5, .int .i64 n] 34))
  have xx := heap_alloc_new w (.cells #[.int .i64 k, .string s, .slice a1 n1 c1, .slice a2 n2 c2, v0, v1, v2, v3, v4, v5, .int .i64 n] 34)
  have HX := hid xx
  obtain ⟨⟨y0, y1, y2, y3, y4, y5, y6, y7, y8, y9, y10⟩, -⟩ := slot11 xx
  clear xx
  go_upto_region 2 with (go_at_call 54; refine (cleanElem_any e _ _ (HR.out.ext HE0.out)).mono ?_; rintro en w2 ⟨cs2, rfl, hT, hE⟩; have HT := hid (hT.weak (S' := fun b => w.heap.size + 1 ≤ b) (fun b hb _ => by simp at hb; omega)); obtain ⟨k', s', a1', c1', a2', c2', u1, u2, u3, u4, u5, u6, u7, u8, u9, u10, n', rfl, -⟩ := hT.form6; have HX2 := hid (hE.block HX.out); have HE2 := hid (HE0.out.trans hE); obtain ⟨⟨z0, z1, z2, z3, z4, z5, z6, z7, z8, z9, z10⟩, f0, f1, f2, f3, f4, f5, f6, f7, f8, f9, f10⟩ := slot11 (hE.block HX.out); clear hT hE)
  change Code.wp _ _ _ _ (setL w2 w.heap.size 0 [.int .i64 k', .string s', .slice a1' (cleanE e).keys.length c1', .slice a2' (cleanE e).l.length c2', .int .i64 u1, .int .i64 u2, .float .f64 u3, .string u4, .slice u5 u6 u7, .slice u8 u9 u10, .int .i64 n'])
  have x3 := setL_all HX2.out [.int .i64 k', .string s', .slice a1' (cleanE e).keys.length c1', .slice a2' (cleanE e).l.length c2', .int .i64 u1, .int .i64 u2, .float .f64 u3, .string u4, .slice u5 u6 u7, .slice u8 u9 u10, .int .i64 n'] rfl
  have HE3 := hid (show Ext w (setL w2 w.heap.size 0 [.int .i64 k', .string s', .slice a1' (cleanE e).keys.length c1', .slice a2' (cleanE e).l.length c2', .int .i64 u1, .int .i64 u2, .float .f64 u3, .string u4, .slice u5 u6 u7, .slice u8 u9 u10, .int .i64 n']) from setL_below HE2.out (Nat.le_refl _) 0 [.int .i64 k', .string s', .slice a1' (cleanE e).keys.length c1', .slice a2' (cleanE e).l.length c2', .int .i64 u1, .int .i64 u2, .float .f64 u3, .string u4, .slice u5 u6 u7, .slice u8 u9 u10, .int .i64 n'])
  have HT3 := hid (HT.out.mono (S' := Any) (w' := setL w2 w.heap.size 0 [.int .i64 k', .string s', .slice a1' (cleanE e).keys.length c1', .slice a2' (cleanE e).l.length c2', .int .i64 u1, .int .i64 u2, .float .f64 u3, .string u4, .slice u5 u6 u7, .slice u8 u9 u10, .int .i64 n']) (fun b o hb ho => (setL_other (by have hb2 : w.heap.size + 1 ≤ b := hb; omega) _).trans ho) (fun _ _ _ => trivial))
  clear HT HX2 HE2 z0 z1 z2 z3 z4 z5 z6 z7 z8 z9 z10 f0 f1 f2 f3 f4 f5 f6 f7 f8 f9 f10 y0 y1 y2 y3 y4 y5 y6 y7 y8 y9 y10
  change (setL w2 w.heap.size 0 [.int .i64 k', .string s', .slice a1' (cleanE e).keys.length c1', .slice a2' (cleanE e).l.length c2', .int .i64 u1, .int .i64 u2, .float .f64 u3, .string u4, .slice u5 u6 u7, .slice u8 u9 u10, .int .i64 n']).heap[w.heap.size]? = some (.cells #[.int .i64 k', .string s', .slice a1' (cleanE e).keys.length c1', .slice a2' (cleanE e).l.length c2', .int .i64 u1, .int .i64 u2, .float .f64 u3, .string u4, .slice u5 u6 u7, .slice u8 u9 u10, .int .i64 n'] 34) at x3
  generalize setL w2 w.heap.size 0 [.int .i64 k', .string s', .slice a1' (cleanE e).keys.length c1', .slice a2' (cleanE e).l.length c2', .int .i64 u1, .int .i64 u2, .float .f64 u3, .string u4, .slice u5 u6 u7, .slice u8 u9 u10, .int .i64 n'] = w3 at *
  have X3 := hid x3
  clear x3
  obtain ⟨_, _, _, _, _, _, _, _, _, _, _, _, _, _, _, _, _, e6, hks, hls, hvs⟩ := HT3.out.form6
  simp only [List.cons.injEq, and_true, Value.int.injEq, Value.string.injEq, Value.slice.injEq, Value.float.injEq, true_and] at e6
  obtain ⟨rfl, rfl, ⟨rfl, rfl⟩, ⟨rfl, rfl⟩, rfl, rfl, rfl, rfl, ⟨rfl, rfl, rfl⟩, ⟨rfl, rfl, rfl⟩, rfl⟩ := e6
  have HL3 := hid hls
  have HV3 := hid hvs
  clear hks hls hvs
  have K := hid (show ∀ w' : World, Ext w3 w' → (fun w' : World => w'.cell? ⟨w.heap.size, 0, none⟩ = some (.int .i64 k') ∧ w'.cell? ⟨w.heap.size, 1, none⟩ = some (.string s') ∧ w'.cell? ⟨w.heap.size, 2, none⟩ = some (.slice a1' (cleanE e).keys.length c1') ∧ w'.cell? ⟨w.heap.size, 3, none⟩ = some (.slice a2' (cleanE e).l.length c2') ∧ w'.cell? ⟨w.heap.size, 4, none⟩ = some (.int .i64 u1) ∧ w'.cell? ⟨w.heap.size, 5, none⟩ = some (.int .i64 u2) ∧ w'.cell? ⟨w.heap.size, 6, none⟩ = some (.float .f64 u3) ∧ w'.cell? ⟨w.heap.size, 7, none⟩ = some (.string u4) ∧ w'.cell? ⟨w.heap.size, 8, none⟩ = some (.slice u5 u6 u7) ∧ w'.cell? ⟨w.heap.size, 9, none⟩ = some (.slice u8 u9 u10) ∧ w'.cell? ⟨w.heap.size, 10, none⟩ = some (.int .i64 n')) w' from fun w' h => (slot11 (h.block X3.out)).1)
  obtain ⟨z0, z1, z2, z3, z4, z5, z6, z7, z8, z9, z10⟩ := K.out _ (Ext.refl w3)
  go_wp2_with (first
    | (go_at_call 50; refine (H1.out _ (HV3.out)).mono ?_; rintro en w4 ⟨rfl, hE⟩; have HE4 := hid hE; clear z0 z1 z2 z3 z4 z5 z6 z7 z8 z9 z10; obtain ⟨z0, z1, z2, z3, z4, z5, z6, z7, z8, z9, z10⟩ := K.out _ HE4.out; clear hE)
    | (go_at_call 16; refine (H2.out _ (HL3.out.ext HE4.out)).mono ?_; rintro en w5 ⟨rfl, hE⟩; have HE5 := hid (HE4.out.trans hE); clear z0 z1 z2 z3 z4 z5 z6 z7 z8 z9 z10; obtain ⟨z0, z1, z2, z3, z4, z5, z6, z7, z8, z9, z10⟩ := K.out _ HE5.out; clear hE)
    | (go_at_call 29; refine (keySorted_any (cleanE e) _ _ (HT3.out.ext HE5.out)).mono ?_; rintro en w6 ⟨rfl, hE⟩; have HE6 := hid (HE5.out.trans hE); clear hE))
  go_ret
  exact ⟨rfl, HE3.out.trans HE6.out⟩
theorem ordElem_any (e : GE) (cs : List Value) (w : World) (hR : RepGE Any w e cs) :
    Calls Try.prog 91 #[.agg cs.toArray] w fun en w' => en = .returned (.bool (ordE e)) ∧ Ext w w' := by
  unfold ordE
  cases h1 : ordG (cleanE e).v
  · exact oe_f e cs w hR h1
  · cases h2 : ordGs (cleanE e).l
    · exact oe_tf e cs w hR h1 h2
    · exact oe_tt e cs w hR h1 h2
set_option maxHeartbeats 1000000 in
theorem fits13_any (e : GE) (cs : List Value) (w : World) (hR : RepGE Any w e cs) : Calls Try.prog 27 #[.agg cs.toArray] w (Tells w) := by
  obtain ⟨a1, c1, a2, c2, v0, v1, v2, v3, v4, v5, rfl, -, -, -, hk, -, -⟩ := hR
  have HK := hid hk
  clear hk
  generalize e.kind = k, e.s = s, e.n = n, e.l.length = n2
  go_enter Try.func27, Try.ntmps27
  by_cases h1 : s.size > 2147483647
  · go_wp2_with fail
    go_ret
    exact ⟨_, rfl, (Ext.refl _).alloc _⟩
  · have HE0 := hid ((Ext.refl w).alloc (.cells #[.int .i64 k, .string s, .slice a1 e.keys.length c1, .slice a2 n2 c2, v0, v1, v2, v3, v4, v5, .int .i64 n] 34))
    have xx := heap_alloc_new w (.cells #[.int .i64 k, .string s, .slice a1 e.keys.length c1, .slice a2 n2 c2, v0, v1, v2, v3, v4, v5, .int .i64 n] 34)
    have HX := hid xx
    clear xx
    by_cases h2 : n2 > 2147483647
    all_goals
      go_wp2_with (go_at_call 14; refine (fits2_any _ e.keys _ (HK.out.ext HE0.out)).mono ?_; rintro en w2 ⟨b, rfl, hE⟩; have HE2 := hid (HE0.out.trans hE); obtain ⟨⟨z0, z1, z2, z3, z4, z5, z6, z7, z8, z9, z10⟩, -⟩ := slot11 (hE.block HX.out); clear hE; cases b)
      all_goals
        go_ret
        exact ⟨_, rfl, HE2.out⟩
end Go.Proofs.Ytempfaefopfobaa
