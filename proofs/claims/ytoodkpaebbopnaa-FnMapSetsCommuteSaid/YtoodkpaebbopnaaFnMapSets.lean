/- FnMapSetsCommute: setting two different keys, in either order, gives the same map; setting one key twice leaves what was set last; for every input. -/
import Derived.Test.YtoodkpaebbopnaaMapSet
import Derived.Test.YtoodkpaebbopnaaFits5
import Derived.ChangeMaps5
import Derived.Deep.Cut
import Derived.Deep.RegionHeld3
namespace Go.Proofs.Ytoodkpaebbopnaa.fnMapSets
open Go.ChangeShapes Go.WideShapes Go.ChangeAt Go.RowKit
set_option linter.unusedSimpArgs false
set_option linter.unusedVariables false

theorem bstep {w W3 W W' : World} (h : Below (w.heap.size + 3) W3 W) (hsz : w.heap.size + 3 ≤ W3.heap.size) (hE : Ext W W') : Below (w.heap.size + 3) W3 W' := below_ext h hE (Nat.le_trans hsz h.size)
theorem plainMap_len (g : GV) : (plainMapT g).length ≤ g.l.length := by
  unfold plainMapT
  have h1 := foldKV_length (g.keys.zip (plainTs g.l)) []
  have h2 : (g.keys.zip (plainTs g.l)).length ≤ g.l.length := by rw [List.length_zip, plainTs_length]; exact Nat.min_le_right _ _
  simp only [List.length_nil] at h1
  omega
theorem setG_len (a : GV) (key : ByteArray) (v : GV) : (setG a key v).l.length ≤ a.l.length + 1 := by
  have h1 := withF_length (v := cleanG v) (rel_clean a).map key
  have h2 : (cleanM a).l.length ≤ a.l.length := by
    unfold cleanM
    have := foldW_length MapG.empty (a.keys.zip (cleanGs a.l))
    have h3 : (a.keys.zip (cleanGs a.l)).length ≤ a.l.length := by rw [List.length_zip, cleanGs_length]; exact Nat.min_le_right _ _
    have e0 : (GV.mk 6 0 0 ByteArray.empty [] []).l.length = 0 := rfl
    omega
  unfold setG
  omega

theorem alloc6 {w : World} {b : Nat} {c0 c1 c2 c3 c4 c5 : Value} {t : TypeId} (h : w.heap[b]? = some (.cells #[c0, c1, c2, c3, c4, c5] t)) : ∀ o, (w.alloc o).cell? ⟨b, 0, none⟩ = some c0 ∧ (w.alloc o).cell? ⟨b, 1, none⟩ = some c1 ∧ (w.alloc o).cell? ⟨b, 2, none⟩ = some c2 ∧ (w.alloc o).cell? ⟨b, 3, none⟩ = some c3 ∧ (w.alloc o).cell? ⟨b, 4, none⟩ = some c4 ∧ (w.alloc o).cell? ⟨b, 5, none⟩ = some c5 :=
  fun o => (slot6 (((Ext.refl w).alloc o).block h)).1
theorem set6_raw {B : Nat} {a W : World} (h : Below B a W) {b : Nat} (hb : B ≤ b) (v0 v1 v2 v3 v4 v5 : Value) : Below B a ((((((W.setCell ⟨b, 0, none⟩ v0).setCell ⟨b, 1, none⟩ v1).setCell ⟨b, 2, none⟩ v2).setCell ⟨b, 3, none⟩ v3).setCell ⟨b, 4, none⟩ v4).setCell ⟨b, 5, none⟩ v5) := set6_below h hb v0 v1 v2 v3 v4 v5
theorem RepGV.any {S : Nat → Prop} {w : World} {g : GV} {cs : List Value} (h : RepGV S w g cs) : RepGV Any w g cs := h.weak (fun _ _ _ => trivial)
set_option maxRecDepth 100000 in
set_option maxHeartbeats 8000000 in
theorem walk (ga gv gw : GV) (key other : ByteArray) (w : World) (ca cv cw : List Value) (hA : RepGV Any w ga ca) (hV : RepGV Any w gv cv) (hW : RepGV Any w gw cw) :
    Calls Try.prog 8 #[.agg ca.toArray, .string key, .agg cv.toArray, .string other, .agg cw.toArray] w fun e w' => e = .returned (.bool true) ∧ Ext w w' := by
  have HA := hid hA
  have HV := hid hV
  have HW := hid hW
  obtain ⟨k, n, f, s, aa, ba, ca, ab, bb, cb, rfl⟩ := hA.form
  obtain ⟨k', n', f', s', a1', b1', c1', a2', b2', c2', rfl⟩ := hV.form
  obtain ⟨k'', n'', f'', s'', a1'', b1'', c1'', a2'', b2'', c2'', rfl⟩ := hW.form
  have bx := hid (boxes3 w (.cells #[.int .i64 k, .int .i64 n, .float .f64 f, .string s, .slice aa ba ca, .slice ab bb cb] 26) (.cells #[.int .i64 k', .int .i64 n', .float .f64 f', .string s', .slice a1' b1' c1', .slice a2' b2' c2'] 26) (.cells #[.int .i64 k'', .int .i64 n'', .float .f64 f'', .string s'', .slice a1'' b1'' c1'', .slice a2'' b2'' c2''] 26))
  have W0 := hid ((((Ext.refl w).alloc (.cells #[.int .i64 k, .int .i64 n, .float .f64 f, .string s, .slice aa ba ca, .slice ab bb cb] 26)).alloc (.cells #[.int .i64 k', .int .i64 n', .float .f64 f', .string s', .slice a1' b1' c1', .slice a2' b2' c2'] 26)).alloc (.cells #[.int .i64 k'', .int .i64 n'', .float .f64 f'', .string s'', .slice a1'' b1'' c1'', .slice a2'' b2'' c2''] 26))
  clear hA hV hW
  go_enter Try.func8, Try.ntmps8
  by_cases hbig : key.size > 2147483647
  all_goals by_cases hbig2 : other.size > 2147483647
  all_goals
    go_wp2_with (first
      | (go_at_call_of 14 k; refine (fits5_len ga _ _ (HA.out.ext W0.out)).mono ?_; rintro e w2 ⟨b, rfl, hb, hE⟩; have HB2 := hid (show Below (w.heap.size + 3) _ w2 from hE.mono (by simp)); obtain ⟨x1, x2, x3, hE2⟩ := bx.out w2 HB2.out; obtain ⟨⟨z0, z1, z2, z3, z4, z5⟩, -⟩ := slot6 x2; have HE2 := hid hE2; have HL := hid hb; cases b <;> clear hE x1 x2 x3 hE2 hb)
      | (go_at_call_of 14 k'; refine (fits5_len gv _ _ (HV.out.ext HE2.out)).mono ?_; rintro e w3 ⟨b, rfl, hb, hE⟩; have HB3 := hid (bstep HB2.out (by simp) hE); obtain ⟨x1, x2, x3, hE3⟩ := bx.out w3 HB3.out; obtain ⟨⟨z0, z1, z2, z3, z4, z5⟩, -⟩ := slot6 x3; have HE3 := hid hE3; cases b <;> clear hE x1 x2 x3 hE3 hb)
      | (go_at_call_of 14 k''; refine (fits5_len gw _ _ (HW.out.ext HE3.out)).mono ?_; rintro e w4 ⟨b, rfl, hb, hE⟩; have HB4 := hid (bstep HB3.out (by simp) hE); have HE4 := hid (bx.out w4 HB4.out).2.2.2; cases b <;> clear hE hb))
  all_goals first | (go_ret; first | exact ⟨rfl, HE4.out⟩ | exact ⟨rfl, HE3.out⟩ | exact ⟨rfl, HE2.out⟩) | skip
  have hka : key.size ≤ 140737488351232 := by omega
  have hko : other.size ≤ 140737488351232 := by omega
  have hlen : ga.l.length ≤ 2147483647 := by first | exact HL.out trivial | exact HL.out rfl
  have MA := hid (fun (W : World) (x y : List Value) (hx : RepGV Any W ga x) (hy : RepGV Any W gv y) => mapSet_any ga gv key W x y hx hy hka (by have := plainMap_len ga; omega))
  have MB := hid (fun (W : World) (x y : List Value) (hx : RepGV Any W (setG ga key gv) x) (hy : RepGV Any W gw y) => mapSet_any (setG ga key gv) gw other W x y hx hy hko (by have := plainMap_len (setG ga key gv); have := setG_len ga key gv; omega))
  have MC := hid (fun (W : World) (x y : List Value) (hx : RepGV Any W ga x) (hy : RepGV Any W gw y) => mapSet_any ga gw other W x y hx hy hko (by have := plainMap_len ga; omega))
  have MD := hid (fun (W : World) (x y : List Value) (hx : RepGV Any W (setG ga other gw) x) (hy : RepGV Any W gv y) => mapSet_any (setG ga other gw) gv key W x y hx hy hka (by have := plainMap_len (setG ga other gw); have := setG_len ga other gw; omega))
  obtain ⟨x1, x2, x3, hE4⟩ := bx.out w4 HB4.out
  obtain ⟨⟨z0, z1, z2, z3, z4, z5⟩, -⟩ := slot6 x1
  obtain ⟨⟨y0, y1, y2, y3, y4, y5⟩, -⟩ := slot6 x2
  obtain ⟨⟨t0, t1, t2, t3, t4, t5⟩, -⟩ := slot6 x3
  have X1 := hid x1
  have X2 := hid x2
  have X3 := hid x3
  clear x1 x2 x3 hE4 hlen
  clear HL
  obtain ⟨GA, hGA⟩ : ∃ x, setG ga key gv = x := ⟨_, rfl⟩
  obtain ⟨GB, hGB⟩ : ∃ x, setG GA other gw = x := ⟨_, rfl⟩
  obtain ⟨GC, hGC⟩ : ∃ x, setG ga other gw = x := ⟨_, rfl⟩
  obtain ⟨GD, hGD⟩ : ∃ x, setG GC key gv = x := ⟨_, rfl⟩
  rw [hGA] at MA MB
  rw [hGB] at MB
  rw [hGC] at MC MD
  rw [hGD] at MD
  have EA := hid hGA
  have EB := hid hGB
  have EC := hid hGC
  have ED := hid hGD
  clear hGA hGB hGC hGD
  have HB4s := hid (show w.heap.size + 3 ≤ w4.heap.size by have hs4 := HB4.out.size; simpa using hs4)
  go_cut [11] from 36 (fun p wx => ∃ b r0 r1 r2 r3 r4 r5, p = .pointer (some ⟨b, 0, none⟩) ∧ wx.heap[b]? = some (.cells #[r0, r1, r2, r3, r4, r5] 26) ∧ w.heap.size + 3 ≤ b ∧ Hid (RepGV Any wx GB [r0, r1, r2, r3, r4, r5]) ∧ Hid (Ext w4 wx))
  case first =>
    have K := hid (show ∀ w' : World, Ext w4 w' → (fun w' => w'.cell? ⟨w.heap.size, 0, none⟩ = some (.int .i64 k) ∧ w'.cell? ⟨w.heap.size, 1, none⟩ = some (.int .i64 n) ∧ w'.cell? ⟨w.heap.size, 2, none⟩ = some (.float .f64 f) ∧ w'.cell? ⟨w.heap.size, 3, none⟩ = some (.string s) ∧ w'.cell? ⟨w.heap.size, 4, none⟩ = some (.slice aa ba ca) ∧ w'.cell? ⟨w.heap.size, 5, none⟩ = some (.slice ab bb cb) ∧ w'.cell? ⟨w.heap.size + 1, 0, none⟩ = some (.int .i64 k') ∧ w'.cell? ⟨w.heap.size + 1, 1, none⟩ = some (.int .i64 n') ∧ w'.cell? ⟨w.heap.size + 1, 2, none⟩ = some (.float .f64 f') ∧ w'.cell? ⟨w.heap.size + 1, 3, none⟩ = some (.string s') ∧ w'.cell? ⟨w.heap.size + 1, 4, none⟩ = some (.slice a1' b1' c1') ∧ w'.cell? ⟨w.heap.size + 1, 5, none⟩ = some (.slice a2' b2' c2') ∧ w'.cell? ⟨w.heap.size + 2, 0, none⟩ = some (.int .i64 k'') ∧ w'.cell? ⟨w.heap.size + 2, 1, none⟩ = some (.int .i64 n'') ∧ w'.cell? ⟨w.heap.size + 2, 2, none⟩ = some (.float .f64 f'') ∧ w'.cell? ⟨w.heap.size + 2, 3, none⟩ = some (.string s'') ∧ w'.cell? ⟨w.heap.size + 2, 4, none⟩ = some (.slice a1'' b1'' c1'') ∧ w'.cell? ⟨w.heap.size + 2, 5, none⟩ = some (.slice a2'' b2'' c2'')) w' from fun w' h => by
      obtain ⟨⟨z0, z1, z2, z3, z4, z5⟩, -⟩ := slot6 (h.block X1.out)
      obtain ⟨⟨y0, y1, y2, y3, y4, y5⟩, -⟩ := slot6 (h.block X2.out)
      obtain ⟨⟨t0, t1, t2, t3, t4, t5⟩, -⟩ := slot6 (h.block X3.out)
      exact ⟨z0, z1, z2, z3, z4, z5, y0, y1, y2, y3, y4, y5, t0, t1, t2, t3, t4, t5⟩)
    clear z0 z1 z2 z3 z4 z5 y0 y1 y2 y3 y4 y5 t0 t1 t2 t3 t4 t5
    go_region_held3 (fun w' => w'.cell? ⟨w.heap.size, 0, none⟩ = some (.int .i64 k) ∧ w'.cell? ⟨w.heap.size, 1, none⟩ = some (.int .i64 n) ∧ w'.cell? ⟨w.heap.size, 2, none⟩ = some (.float .f64 f) ∧ w'.cell? ⟨w.heap.size, 3, none⟩ = some (.string s) ∧ w'.cell? ⟨w.heap.size, 4, none⟩ = some (.slice aa ba ca) ∧ w'.cell? ⟨w.heap.size, 5, none⟩ = some (.slice ab bb cb) ∧ w'.cell? ⟨w.heap.size + 1, 0, none⟩ = some (.int .i64 k') ∧ w'.cell? ⟨w.heap.size + 1, 1, none⟩ = some (.int .i64 n') ∧ w'.cell? ⟨w.heap.size + 1, 2, none⟩ = some (.float .f64 f') ∧ w'.cell? ⟨w.heap.size + 1, 3, none⟩ = some (.string s') ∧ w'.cell? ⟨w.heap.size + 1, 4, none⟩ = some (.slice a1' b1' c1') ∧ w'.cell? ⟨w.heap.size + 1, 5, none⟩ = some (.slice a2' b2' c2') ∧ w'.cell? ⟨w.heap.size + 2, 0, none⟩ = some (.int .i64 k'') ∧ w'.cell? ⟨w.heap.size + 2, 1, none⟩ = some (.int .i64 n'') ∧ w'.cell? ⟨w.heap.size + 2, 2, none⟩ = some (.float .f64 f'') ∧ w'.cell? ⟨w.heap.size + 2, 3, none⟩ = some (.string s'') ∧ w'.cell? ⟨w.heap.size + 2, 4, none⟩ = some (.slice a1'' b1'' c1'') ∧ w'.cell? ⟨w.heap.size + 2, 5, none⟩ = some (.slice a2'' b2'' c2''))
      (first | with_reducible exact K.out _ HE56.out | with_reducible exact K.out _ (HE56.out.alloc _) | with_reducible exact K.out _ (set6_raw (HE56.out.alloc _) (by have := HE56.out.size; omega) _ _ _ _ _ _) | with_reducible exact K.out _ (set6_raw HE56.out (by have := HE5.out.size; omega) _ _ _ _ _ _) | with_reducible exact K.out _ HE5.out | with_reducible exact K.out _ (HE5.out.alloc _) | with_reducible exact K.out _ ((Ext.refl w4).alloc _).drew | with_reducible exact K.out _ ((Ext.refl w4).drew.alloc _) | with_reducible exact K.out _ (Ext.refl w4).drew)
      (first
      | (go_at_call_of 33 k'; refine (MA.out _ _ _ (HA.out.ext HE4.out.drew) (HV.out.ext HE4.out.drew)).mono ?_; rintro e w5 ⟨cs5, rfl, hG, hE⟩; have HE5 := hid ((Ext.refl w4).drew.trans hE); obtain ⟨k5, n5, f5, s5, a15, b15, c15, a25, b25, c25, rfl⟩ := hG.form; have HG5 := hid hG; clear hG hE)
      | (go_at_call_of 33 k'; refine (MA.out _ _ _ (HA.out.ext (HE4.out.alloc _).drew) (HV.out.ext (HE4.out.alloc _).drew)).mono ?_; rintro e w5 ⟨cs5, rfl, hG, hE⟩; have HE5 := hid (((Ext.refl w4).alloc _).drew.trans hE); have ZF5 := hid (hE.block (show ((w4.alloc (.cells #[.int .i64 0, .int .i64 0, .float .f64 0, .string ⟨#[]⟩, .slice none 0 0, .slice none 0 0] 26)).drew).heap[w4.heap.size]? = _ from box_last w4 _)); obtain ⟨k5, n5, f5, s5, a15, b15, c15, a25, b25, c25, rfl⟩ := hG.form; have HG5 := hid hG; clear hG hE)
      | (have ZQ := ZF5.out; go_at_call_of 33 k''; refine (MB.out _ _ _ (RepGV.any HG5.out) (HW.out.ext (HE4.out.trans HE5.out))).mono ?_; rintro e w6 ⟨cs6, rfl, hG, hE⟩; have HE56 := hid (HE5.out.trans hE); obtain ⟨k6, n6, f6, s6, a16, b16, c16, a26, b26, c26, rfl⟩ := hG.form; have HG6 := hid hG; obtain ⟨⟨v0, v1, v2, v3, v4, v5⟩, m0, m1, m2, m3, m4, m5⟩ := slot6 (hE.block ZQ); have X6 := hid (hE.block ZQ); have HS6 := hid hE.size; clear hG hE ZQ)
      | (go_at_call_of 33 k''; refine (MB.out _ _ _ (RepGV.any HG5.out) (HW.out.ext (HE4.out.trans HE5.out))).mono ?_; rintro e w6 ⟨cs6, rfl, hG, hE⟩; have HE56 := hid (HE5.out.trans hE); obtain ⟨k6, n6, f6, s6, a16, b16, c16, a26, b26, c26, rfl⟩ := hG.form; have HG6 := hid hG; have HS6 := hid hE.size; clear hG hE)
      | (go_at_call_of 33 k''; refine (MB.out _ _ _ ((RepGV.any HG5.out).ext ((Ext.refl w5).alloc _)) (HW.out.ext ((HE4.out.trans HE5.out).alloc _))).mono ?_; rintro e w6 ⟨cs6, rfl, hG, hE⟩; have HE56 := hid (HE5.out.trans (((Ext.refl w5).alloc _).trans hE)); obtain ⟨k6, n6, f6, s6, a16, b16, c16, a26, b26, c26, rfl⟩ := hG.form; have HG6 := hid hG; obtain ⟨⟨v0, v1, v2, v3, v4, v5⟩, m0, m1, m2, m3, m4, m5⟩ := slot6 (hE.block (box_last w5 _)); have X6 := hid (hE.block (box_last w5 _)); have HS6 := hid (((Ext.refl w5).alloc _).trans hE).size; clear hG hE))
    all_goals (go_wp2_with fail; go_meet)
    case rel =>
      have hs6 := HE56.out.size
      have hs4 := HB4s.out
      exact ⟨w6.heap.size, _, _, _, _, _, _, rfl, box_last w6 _, by omega, hid ((RepGV.any HG6.out).ext ((Ext.refl w6).alloc _)), hid (HE56.out.alloc _)⟩
    case rel =>
      have hs5 := HE5.out.size
      have hs4 := HB4s.out
      exact ⟨w5.heap.size, _, _, _, _, _, _, rfl, set6_heap X6.out _ _ _ _ _ _, by omega, hid (HG6.out.mono (fun b o hb ho => (set6_other (by have hb2 : _ ≤ b := hb; (try simp only [World.heap_alloc, Array.size_push] at hb2); (try simp at hb2); omega) _ _ _ _ _ _).trans ho) (fun _ _ _ => trivial)), hid (set6_below HE56.out (by omega) _ _ _ _ _ _)⟩
    case rel =>
      have hs5 := HE5.out.size
      have hs4 := HB4s.out
      have hz := (Array.getElem?_eq_some_iff.1 ZF5.out).1
      exact ⟨w4.heap.size, _, _, _, _, _, _, rfl, set6_heap X6.out _ _ _ _ _ _, by omega, hid (HG6.out.mono (fun b o hb ho => (set6_other (by have hb2 : _ ≤ b := hb; (try simp only [World.heap_alloc, Array.size_push] at hb2); (try simp at hb2); omega) _ _ _ _ _ _).trans ho) (fun _ _ _ => trivial)), hid (set6_below HE56.out (by omega) _ _ _ _ _ _)⟩
  case rest =>
  rename World => w7
  obtain ⟨b1, r0, r1, r2, r3, r4, r5, rfl, hX, hb1, HG7, HE7⟩ := hcut
  obtain ⟨k7, n7, f7, s7, a17, b17, c17, a27, b27, c27, e7⟩ := HG7.out.form
  simp only [List.cons.injEq, and_true] at e7
  obtain ⟨rfl, rfl, rfl, rfl, rfl, rfl⟩ := e7
  have XB1 := hid hX
  have HEC := hid (HE4.out.trans HE7.out)
  clear hX z0 z1 z2 z3 z4 z5 y0 y1 y2 y3 y4 y5 t0 t1 t2 t3 t4 t5
  have X1c := hid (HE7.out.block X1.out)
  have X2c := hid (HE7.out.block X2.out)
  have X3c := hid (HE7.out.block X3.out)
  obtain ⟨⟨z0, z1, z2, z3, z4, z5⟩, -⟩ := slot6 X1c.out
  obtain ⟨⟨y0, y1, y2, y3, y4, y5⟩, -⟩ := slot6 X2c.out
  obtain ⟨⟨t0, t1, t2, t3, t4, t5⟩, -⟩ := slot6 X3c.out
  have HBcs := hid (show w.heap.size + 3 ≤ w7.heap.size from Nat.le_trans HB4s.out HE7.out.size)
  clear X1 X2 X3
  go_upto_region 4 with fail
  go_cut [12] from 43 (fun p wx => ∃ b r0 r1 r2 r3 r4 r5, p = .pointer (some ⟨b, 0, none⟩) ∧ wx.heap[b]? = some (.cells #[r0, r1, r2, r3, r4, r5] 26) ∧ w.heap.size + 3 ≤ b ∧ Hid (RepGV Any wx GD [r0, r1, r2, r3, r4, r5]) ∧ Hid (Ext w7 wx))
  case first =>
    have K := hid (show ∀ w' : World, Ext w7 w' → (fun w' => w'.cell? ⟨w.heap.size, 0, none⟩ = some (.int .i64 k) ∧ w'.cell? ⟨w.heap.size, 1, none⟩ = some (.int .i64 n) ∧ w'.cell? ⟨w.heap.size, 2, none⟩ = some (.float .f64 f) ∧ w'.cell? ⟨w.heap.size, 3, none⟩ = some (.string s) ∧ w'.cell? ⟨w.heap.size, 4, none⟩ = some (.slice aa ba ca) ∧ w'.cell? ⟨w.heap.size, 5, none⟩ = some (.slice ab bb cb) ∧ w'.cell? ⟨w.heap.size + 1, 0, none⟩ = some (.int .i64 k') ∧ w'.cell? ⟨w.heap.size + 1, 1, none⟩ = some (.int .i64 n') ∧ w'.cell? ⟨w.heap.size + 1, 2, none⟩ = some (.float .f64 f') ∧ w'.cell? ⟨w.heap.size + 1, 3, none⟩ = some (.string s') ∧ w'.cell? ⟨w.heap.size + 1, 4, none⟩ = some (.slice a1' b1' c1') ∧ w'.cell? ⟨w.heap.size + 1, 5, none⟩ = some (.slice a2' b2' c2') ∧ w'.cell? ⟨w.heap.size + 2, 0, none⟩ = some (.int .i64 k'') ∧ w'.cell? ⟨w.heap.size + 2, 1, none⟩ = some (.int .i64 n'') ∧ w'.cell? ⟨w.heap.size + 2, 2, none⟩ = some (.float .f64 f'') ∧ w'.cell? ⟨w.heap.size + 2, 3, none⟩ = some (.string s'') ∧ w'.cell? ⟨w.heap.size + 2, 4, none⟩ = some (.slice a1'' b1'' c1'') ∧ w'.cell? ⟨w.heap.size + 2, 5, none⟩ = some (.slice a2'' b2'' c2'')) w' from fun w' h => by
      obtain ⟨⟨z0, z1, z2, z3, z4, z5⟩, -⟩ := slot6 (h.block X1c.out)
      obtain ⟨⟨y0, y1, y2, y3, y4, y5⟩, -⟩ := slot6 (h.block X2c.out)
      obtain ⟨⟨t0, t1, t2, t3, t4, t5⟩, -⟩ := slot6 (h.block X3c.out)
      exact ⟨z0, z1, z2, z3, z4, z5, y0, y1, y2, y3, y4, y5, t0, t1, t2, t3, t4, t5⟩)
    clear z0 z1 z2 z3 z4 z5 y0 y1 y2 y3 y4 y5 t0 t1 t2 t3 t4 t5
    go_region_held3 (fun w' => w'.cell? ⟨w.heap.size, 0, none⟩ = some (.int .i64 k) ∧ w'.cell? ⟨w.heap.size, 1, none⟩ = some (.int .i64 n) ∧ w'.cell? ⟨w.heap.size, 2, none⟩ = some (.float .f64 f) ∧ w'.cell? ⟨w.heap.size, 3, none⟩ = some (.string s) ∧ w'.cell? ⟨w.heap.size, 4, none⟩ = some (.slice aa ba ca) ∧ w'.cell? ⟨w.heap.size, 5, none⟩ = some (.slice ab bb cb) ∧ w'.cell? ⟨w.heap.size + 1, 0, none⟩ = some (.int .i64 k') ∧ w'.cell? ⟨w.heap.size + 1, 1, none⟩ = some (.int .i64 n') ∧ w'.cell? ⟨w.heap.size + 1, 2, none⟩ = some (.float .f64 f') ∧ w'.cell? ⟨w.heap.size + 1, 3, none⟩ = some (.string s') ∧ w'.cell? ⟨w.heap.size + 1, 4, none⟩ = some (.slice a1' b1' c1') ∧ w'.cell? ⟨w.heap.size + 1, 5, none⟩ = some (.slice a2' b2' c2') ∧ w'.cell? ⟨w.heap.size + 2, 0, none⟩ = some (.int .i64 k'') ∧ w'.cell? ⟨w.heap.size + 2, 1, none⟩ = some (.int .i64 n'') ∧ w'.cell? ⟨w.heap.size + 2, 2, none⟩ = some (.float .f64 f'') ∧ w'.cell? ⟨w.heap.size + 2, 3, none⟩ = some (.string s'') ∧ w'.cell? ⟨w.heap.size + 2, 4, none⟩ = some (.slice a1'' b1'' c1'') ∧ w'.cell? ⟨w.heap.size + 2, 5, none⟩ = some (.slice a2'' b2'' c2''))
      (first | with_reducible exact K.out _ HE56.out | with_reducible exact K.out _ (HE56.out.alloc _) | with_reducible exact K.out _ (set6_raw (HE56.out.alloc _) (by have := HE56.out.size; omega) _ _ _ _ _ _) | with_reducible exact K.out _ (set6_raw HE56.out (by have := HE5.out.size; omega) _ _ _ _ _ _) | with_reducible exact K.out _ HE5.out | with_reducible exact K.out _ (HE5.out.alloc _) | with_reducible exact K.out _ ((Ext.refl w7).alloc _).drew | with_reducible exact K.out _ ((Ext.refl w7).drew.alloc _) | with_reducible exact K.out _ (Ext.refl w7).drew)
      (first
      | (go_at_call_of 33 k''; refine (MC.out _ _ _ (HA.out.ext HEC.out.drew) (HW.out.ext HEC.out.drew)).mono ?_; rintro e w5 ⟨cs5, rfl, hG, hE⟩; have HE5 := hid ((Ext.refl w7).drew.trans hE); obtain ⟨k5, n5, f5, s5, a15, b15, c15, a25, b25, c25, rfl⟩ := hG.form; have HG5 := hid hG; clear hG hE)
      | (go_at_call_of 33 k''; refine (MC.out _ _ _ (HA.out.ext (HEC.out.alloc _).drew) (HW.out.ext (HEC.out.alloc _).drew)).mono ?_; rintro e w5 ⟨cs5, rfl, hG, hE⟩; have HE5 := hid (((Ext.refl w7).alloc _).drew.trans hE); have ZF5 := hid (hE.block (show ((w7.alloc (.cells #[.int .i64 0, .int .i64 0, .float .f64 0, .string ⟨#[]⟩, .slice none 0 0, .slice none 0 0] 26)).drew).heap[w7.heap.size]? = _ from box_last w7 _)); obtain ⟨k5, n5, f5, s5, a15, b15, c15, a25, b25, c25, rfl⟩ := hG.form; have HG5 := hid hG; clear hG hE)
      | (have ZQ := ZF5.out; go_at_call_of 33 k'; refine (MD.out _ _ _ (RepGV.any HG5.out) (HV.out.ext (HEC.out.trans HE5.out))).mono ?_; rintro e w6 ⟨cs6, rfl, hG, hE⟩; have HE56 := hid (HE5.out.trans hE); obtain ⟨k6, n6, f6, s6, a16, b16, c16, a26, b26, c26, rfl⟩ := hG.form; have HG6 := hid hG; obtain ⟨⟨v0, v1, v2, v3, v4, v5⟩, m0, m1, m2, m3, m4, m5⟩ := slot6 (hE.block ZQ); have X6 := hid (hE.block ZQ); have HS6 := hid hE.size; clear hG hE ZQ)
      | (go_at_call_of 33 k'; refine (MD.out _ _ _ (RepGV.any HG5.out) (HV.out.ext (HEC.out.trans HE5.out))).mono ?_; rintro e w6 ⟨cs6, rfl, hG, hE⟩; have HE56 := hid (HE5.out.trans hE); obtain ⟨k6, n6, f6, s6, a16, b16, c16, a26, b26, c26, rfl⟩ := hG.form; have HG6 := hid hG; have HS6 := hid hE.size; clear hG hE)
      | (go_at_call_of 33 k'; refine (MD.out _ _ _ ((RepGV.any HG5.out).ext ((Ext.refl w5).alloc _)) (HV.out.ext ((HEC.out.trans HE5.out).alloc _))).mono ?_; rintro e w6 ⟨cs6, rfl, hG, hE⟩; have HE56 := hid (HE5.out.trans (((Ext.refl w5).alloc _).trans hE)); obtain ⟨k6, n6, f6, s6, a16, b16, c16, a26, b26, c26, rfl⟩ := hG.form; have HG6 := hid hG; obtain ⟨⟨v0, v1, v2, v3, v4, v5⟩, m0, m1, m2, m3, m4, m5⟩ := slot6 (hE.block (box_last w5 _)); have X6 := hid (hE.block (box_last w5 _)); have HS6 := hid (((Ext.refl w5).alloc _).trans hE).size; clear hG hE))
    all_goals (go_wp2_with fail; go_meet)
    case rel =>
      have hs6 := HE56.out.size
      have hs4 := HBcs.out
      exact ⟨w6.heap.size, _, _, _, _, _, _, rfl, box_last w6 _, by omega, hid ((RepGV.any HG6.out).ext ((Ext.refl w6).alloc _)), hid (HE56.out.alloc _)⟩
    case rel =>
      have hs5 := HE5.out.size
      have hs4 := HBcs.out
      exact ⟨w5.heap.size, _, _, _, _, _, _, rfl, set6_heap X6.out _ _ _ _ _ _, by omega, hid (HG6.out.mono (fun b o hb ho => (set6_other (by have hb2 : _ ≤ b := hb; (try simp only [World.heap_alloc, Array.size_push] at hb2); (try simp at hb2); omega) _ _ _ _ _ _).trans ho) (fun _ _ _ => trivial)), hid (set6_below HE56.out (by omega) _ _ _ _ _ _)⟩
    case rel =>
      have hs5 := HE5.out.size
      have hs4 := HBcs.out
      have hz := (Array.getElem?_eq_some_iff.1 ZF5.out).1
      exact ⟨w7.heap.size, _, _, _, _, _, _, rfl, set6_heap X6.out _ _ _ _ _ _, by omega, hid (HG6.out.mono (fun b o hb ho => (set6_other (by have hb2 : _ ≤ b := hb; (try simp only [World.heap_alloc, Array.size_push] at hb2); (try simp at hb2); omega) _ _ _ _ _ _).trans ho) (fun _ _ _ => trivial)), hid (set6_below HE56.out (by omega) _ _ _ _ _ _)⟩
  case rest =>
  rename World => wd
  obtain ⟨b2, q0, q1, q2, q3, q4, q5, rfl, hX, hb2, HG8, HE8⟩ := hcut
  obtain ⟨k8, n8, f8, s8, a18, b18, c18, a28, b28, c28, e8⟩ := HG8.out.form
  simp only [List.cons.injEq, and_true] at e8
  obtain ⟨rfl, rfl, rfl, rfl, rfl, rfl⟩ := e8
  have XB2 := hid hX
  have HED := hid (HEC.out.trans HE8.out)
  clear hX z0 z1 z2 z3 z4 z5 y0 y1 y2 y3 y4 y5 t0 t1 t2 t3 t4 t5
  have X1d := hid (HE8.out.block X1c.out)
  have X2d := hid (HE8.out.block X2c.out)
  have X3d := hid (HE8.out.block X3c.out)
  have XB1d := hid (HE8.out.block XB1.out)
  have HGBd := hid (HG7.out.ext HE8.out)
  obtain ⟨⟨z0, z1, z2, z3, z4, z5⟩, -⟩ := slot6 X1d.out
  obtain ⟨⟨y0, y1, y2, y3, y4, y5⟩, -⟩ := slot6 X2d.out
  obtain ⟨⟨t0, t1, t2, t3, t4, t5⟩, -⟩ := slot6 X3d.out
  obtain ⟨⟨p0, p1, p2, p3, p4, p5⟩, -⟩ := slot6 XB1d.out
  obtain ⟨⟨o0, o1, o2, o3, o4, o5⟩, -⟩ := slot6 XB2.out
  clear X1c X2c X3c XB1 HG7 HE7 HB4 HB4s HBcs HEC HE8
  have hasB : (lookKV (plainMapT GB) key).isSome = true := by rw [← EB.out, setG_has, ← EA.out, setG_has]; simp
  have hasB2 : (lookKV (plainMapT GB) other).isSome = true := by rw [← EB.out, setG_has]; simp
  have MH := hid (fun (W : World) (x : List Value) (hx : RepGV Any W GB x) => mapHas_any GB key W x hx)
  have MH2 := hid (fun (W : World) (x : List Value) (hx : RepGV Any W GB x) => mapHas_any GB other W x hx)
  rw [hasB] at MH
  rw [hasB2] at MH2
  clear hasB hasB2
  by_cases hok : other = key
  · have eB : cleanG GB = cleanG GC := by rw [← EB.out, ← EA.out, ← EC.out, hok, setG_last]
    have eD : cleanG GD = cleanG GA := by rw [← ED.out, ← EC.out, ← EA.out, hok, setG_last]
    have SB := hid (fun (W : World) (x y : List Value) (hx : RepGV Any W GB x) (hy : RepGV Any W GC y) => same_any W GB GC eB x y hx hy)
    have SD := hid (fun (W : World) (x y : List Value) (hx : RepGV Any W GD x) (hy : RepGV Any W GA y) => same_any W GD GA eD x y hx hy)
    clear eB eD
    subst hok
    go_upto_region 6 with fail
    have K := hid (show ∀ w' : World, Ext wd w' → (fun w' => w'.cell? ⟨w.heap.size, 0, none⟩ = some (.int .i64 k) ∧ w'.cell? ⟨w.heap.size, 1, none⟩ = some (.int .i64 n) ∧ w'.cell? ⟨w.heap.size, 2, none⟩ = some (.float .f64 f) ∧ w'.cell? ⟨w.heap.size, 3, none⟩ = some (.string s) ∧ w'.cell? ⟨w.heap.size, 4, none⟩ = some (.slice aa ba ca) ∧ w'.cell? ⟨w.heap.size, 5, none⟩ = some (.slice ab bb cb) ∧ w'.cell? ⟨w.heap.size + 1, 0, none⟩ = some (.int .i64 k') ∧ w'.cell? ⟨w.heap.size + 1, 1, none⟩ = some (.int .i64 n') ∧ w'.cell? ⟨w.heap.size + 1, 2, none⟩ = some (.float .f64 f') ∧ w'.cell? ⟨w.heap.size + 1, 3, none⟩ = some (.string s') ∧ w'.cell? ⟨w.heap.size + 1, 4, none⟩ = some (.slice a1' b1' c1') ∧ w'.cell? ⟨w.heap.size + 1, 5, none⟩ = some (.slice a2' b2' c2') ∧ w'.cell? ⟨w.heap.size + 2, 0, none⟩ = some (.int .i64 k'') ∧ w'.cell? ⟨w.heap.size + 2, 1, none⟩ = some (.int .i64 n'') ∧ w'.cell? ⟨w.heap.size + 2, 2, none⟩ = some (.float .f64 f'') ∧ w'.cell? ⟨w.heap.size + 2, 3, none⟩ = some (.string s'') ∧ w'.cell? ⟨w.heap.size + 2, 4, none⟩ = some (.slice a1'' b1'' c1'') ∧ w'.cell? ⟨w.heap.size + 2, 5, none⟩ = some (.slice a2'' b2'' c2'') ∧ w'.cell? ⟨b1, 0, none⟩ = some (.int .i64 k7) ∧ w'.cell? ⟨b1, 1, none⟩ = some (.int .i64 n7) ∧ w'.cell? ⟨b1, 2, none⟩ = some (.float .f64 f7) ∧ w'.cell? ⟨b1, 3, none⟩ = some (.string s7) ∧ w'.cell? ⟨b1, 4, none⟩ = some (.slice a17 b17 c17) ∧ w'.cell? ⟨b1, 5, none⟩ = some (.slice a27 b27 c27) ∧ w'.cell? ⟨b2, 0, none⟩ = some (.int .i64 k8) ∧ w'.cell? ⟨b2, 1, none⟩ = some (.int .i64 n8) ∧ w'.cell? ⟨b2, 2, none⟩ = some (.float .f64 f8) ∧ w'.cell? ⟨b2, 3, none⟩ = some (.string s8) ∧ w'.cell? ⟨b2, 4, none⟩ = some (.slice a18 b18 c18) ∧ w'.cell? ⟨b2, 5, none⟩ = some (.slice a28 b28 c28)) w' from fun w' h => by
      obtain ⟨⟨z0, z1, z2, z3, z4, z5⟩, -⟩ := slot6 (h.block X1d.out)
      obtain ⟨⟨y0, y1, y2, y3, y4, y5⟩, -⟩ := slot6 (h.block X2d.out)
      obtain ⟨⟨t0, t1, t2, t3, t4, t5⟩, -⟩ := slot6 (h.block X3d.out)
      obtain ⟨⟨p0, p1, p2, p3, p4, p5⟩, -⟩ := slot6 (h.block XB1d.out)
      obtain ⟨⟨o0, o1, o2, o3, o4, o5⟩, -⟩ := slot6 (h.block XB2.out)
      exact ⟨z0, z1, z2, z3, z4, z5, y0, y1, y2, y3, y4, y5, t0, t1, t2, t3, t4, t5, p0, p1, p2, p3, p4, p5, o0, o1, o2, o3, o4, o5⟩)
    clear z0 z1 z2 z3 z4 z5 y0 y1 y2 y3 y4 y5 t0 t1 t2 t3 t4 t5 p0 p1 p2 p3 p4 p5 o0 o1 o2 o3 o4 o5
    go_region_held3 (fun w' => w'.cell? ⟨w.heap.size, 0, none⟩ = some (.int .i64 k) ∧ w'.cell? ⟨w.heap.size, 1, none⟩ = some (.int .i64 n) ∧ w'.cell? ⟨w.heap.size, 2, none⟩ = some (.float .f64 f) ∧ w'.cell? ⟨w.heap.size, 3, none⟩ = some (.string s) ∧ w'.cell? ⟨w.heap.size, 4, none⟩ = some (.slice aa ba ca) ∧ w'.cell? ⟨w.heap.size, 5, none⟩ = some (.slice ab bb cb) ∧ w'.cell? ⟨w.heap.size + 1, 0, none⟩ = some (.int .i64 k') ∧ w'.cell? ⟨w.heap.size + 1, 1, none⟩ = some (.int .i64 n') ∧ w'.cell? ⟨w.heap.size + 1, 2, none⟩ = some (.float .f64 f') ∧ w'.cell? ⟨w.heap.size + 1, 3, none⟩ = some (.string s') ∧ w'.cell? ⟨w.heap.size + 1, 4, none⟩ = some (.slice a1' b1' c1') ∧ w'.cell? ⟨w.heap.size + 1, 5, none⟩ = some (.slice a2' b2' c2') ∧ w'.cell? ⟨w.heap.size + 2, 0, none⟩ = some (.int .i64 k'') ∧ w'.cell? ⟨w.heap.size + 2, 1, none⟩ = some (.int .i64 n'') ∧ w'.cell? ⟨w.heap.size + 2, 2, none⟩ = some (.float .f64 f'') ∧ w'.cell? ⟨w.heap.size + 2, 3, none⟩ = some (.string s'') ∧ w'.cell? ⟨w.heap.size + 2, 4, none⟩ = some (.slice a1'' b1'' c1'') ∧ w'.cell? ⟨w.heap.size + 2, 5, none⟩ = some (.slice a2'' b2'' c2'') ∧ w'.cell? ⟨b1, 0, none⟩ = some (.int .i64 k7) ∧ w'.cell? ⟨b1, 1, none⟩ = some (.int .i64 n7) ∧ w'.cell? ⟨b1, 2, none⟩ = some (.float .f64 f7) ∧ w'.cell? ⟨b1, 3, none⟩ = some (.string s7) ∧ w'.cell? ⟨b1, 4, none⟩ = some (.slice a17 b17 c17) ∧ w'.cell? ⟨b1, 5, none⟩ = some (.slice a27 b27 c27) ∧ w'.cell? ⟨b2, 0, none⟩ = some (.int .i64 k8) ∧ w'.cell? ⟨b2, 1, none⟩ = some (.int .i64 n8) ∧ w'.cell? ⟨b2, 2, none⟩ = some (.float .f64 f8) ∧ w'.cell? ⟨b2, 3, none⟩ = some (.string s8) ∧ w'.cell? ⟨b2, 4, none⟩ = some (.slice a18 b18 c18) ∧ w'.cell? ⟨b2, 5, none⟩ = some (.slice a28 b28 c28))
      (first | exact K.out _ HE13.out | exact K.out _ HE12.out | exact K.out _ HE11.out | exact K.out _ HE10.out | exact K.out _ HE9.out | exact K.out _ (Ext.refl wd).drew)
      (first
      | (go_at_call_of 33 k''; refine (MC.out _ _ _ (HA.out.ext HED.out.drew) (HW.out.ext HED.out.drew)).mono ?_; rintro e w9 ⟨cs9, rfl, hG, hE⟩; have HE9 := hid ((Ext.refl wd).drew.trans hE); obtain ⟨k9, n9, f9, s9, a19, b19, c19, a29, b29, c29, rfl⟩ := hG.form; have HG9 := hid hG; clear hG hE)
      | (go_at_call_of 34 k7; refine (SB.out _ _ _ (HGBd.out.ext HE9.out) (RepGV.any HG9.out)).mono ?_; rintro e w10 ⟨rfl, hE⟩; have HE10 := hid (HE9.out.trans hE); clear hE)
      | (go_at_call_of 33 k'; refine (MA.out _ _ _ (HA.out.ext (HED.out.trans HE10.out)) (HV.out.ext (HED.out.trans HE10.out))).mono ?_; rintro e w11 ⟨cs11, rfl, hG, hE⟩; have HE11 := hid (HE10.out.trans hE); obtain ⟨k11, n11, f11, s11, a111, b111, c111, a211, b211, c211, rfl⟩ := hG.form; have HG11 := hid hG; clear hG hE)
      | (go_at_call_of 34 k8; refine (SD.out _ _ _ (HG8.out.ext HE11.out) (RepGV.any HG11.out)).mono ?_; rintro e w12 ⟨rfl, hE⟩; have HE12 := hid (HE11.out.trans hE); clear hE)
      | (go_at_call 32; refine (MH.out _ _ (HGBd.out.ext HE12.out)).mono ?_; rintro e w13 ⟨rfl, hE⟩; have HE13 := hid (HE12.out.trans hE); clear hE))
    all_goals
      go_wp2_with fail
      go_ret
      exact ⟨rfl, HED.out.trans HE13.out⟩
  · have eq : cleanG GB = cleanG GD := by rw [← EB.out, ← EA.out, ← ED.out, ← EC.out, setG_comm ga gv gw (fun e => hok e.symm)]
    have SQ := hid (fun (W : World) (x y : List Value) (hx : RepGV Any W GB x) (hy : RepGV Any W GD y) => same_any W GB GD eq x y hx hy)
    clear eq
    have hd : (other.toList == key.toList) = false := by rw [ba_toList_beq]; simpa using hok
    go_wp2_with (first
      | (go_at_call 34; refine (SQ.out _ _ _ (HGBd.out) (HG8.out)).mono ?_; rintro e w9 ⟨rfl, hE⟩; obtain ⟨⟨p0, p1, p2, p3, p4, p5⟩, -⟩ := slot6 (hE.block XB1d.out); have HE9 := hid hE; clear hE)
      | (go_at_call_of 32 key; refine (MH.out _ _ (HGBd.out.ext HE9.out)).mono ?_; rintro e w10 ⟨rfl, hE⟩; have HE10 := hid (HE9.out.trans hE); obtain ⟨⟨p0, p1, p2, p3, p4, p5⟩, -⟩ := slot6 (HE10.out.block XB1d.out); clear hE)
      | (go_at_call_of 32 other; refine (MH2.out _ _ (HGBd.out.ext HE10.out)).mono ?_; rintro e w11 ⟨rfl, hE⟩; have HE11 := hid (HE10.out.trans hE); clear hE))
    go_ret
    exact ⟨rfl, HED.out.trans HE11.out⟩

section
variable {H : Type} {enc : TypeId × Value → H} {P : Program} {w : World} {base : Nat} {spare : Nat → Bool} {held : Bool}
theorem trodAll_five {t0 t1 t2 t3 t4 : TypeId} {args : Array Value} {ds : List (DataW H)} {ps : List MemPlace} (h : DataW.TrodAll enc P w base spare held [t0, t1, t2, t3, t4] args.toList ds ps) :
    ∃ v0 v1 v2 v3 v4 d0 d1 d2 d3 d4 p0 p1 p2 p3 p4, args = #[v0, v1, v2, v3, v4] ∧ ds = [d0, d1, d2, d3, d4] ∧ DataW.Trod enc P w base spare held t0 v0 d0 p0 ∧ DataW.Trod enc P w base spare held t1 v1 d1 p1 ∧ DataW.Trod enc P w base spare held t2 v2 d2 p2 ∧ DataW.Trod enc P w base spare held t3 v3 d3 p3 ∧ DataW.Trod enc P w base spare held t4 v4 d4 p4 := by
  obtain ⟨v0, vs0, d0, ds0, p0, q0, hargs, rfl, rfl, hd0, hr0⟩ := trodAll_cons h
  obtain ⟨v1, vs1, d1, ds1, p1, q1, rfl, rfl, rfl, hd1, hr1⟩ := trodAll_cons hr0
  obtain ⟨v2, vs2, d2, ds2, p2, q2, rfl, rfl, rfl, hd2, hr2⟩ := trodAll_cons hr1
  obtain ⟨v3, vs3, d3, ds3, p3, q3, rfl, rfl, rfl, hd3, hr3⟩ := trodAll_cons hr2
  obtain ⟨v4, vs4, d4, ds4, p4, q4, rfl, rfl, rfl, hd4, hr4⟩ := trodAll_cons hr3
  obtain ⟨rfl, rfl, rfl⟩ := trodAll_nil hr4
  exact ⟨v0, v1, v2, v3, v4, d0, d1, d2, d3, d4, p0, p1, p2, p3, p4, by cases args; simp_all, rfl, hd0, hd1, hd2, hd3, hd4⟩
end
theorem own : ownKnob Try.prog.godebug = none := by kernel_rfl
set_option maxRecDepth 100000 in
theorem lifted (os : Os) (started : os.Started) (H : Type) (enc : TypeId × Value → H) :
    ReturnsInHanded {} Try.checked os 8 .any (Rows.fnMapSetsCommuteSpec.pre6 enc Try.prog Try.f8 Rows.fnMapSetsCommuteRow.domain false) (Rows.fnMapSetsCommuteSpec.post enc Try.prog Try.f8 false true false false) := by
  refine law_lifted (C := Try.checked) own started (by kernel_rfl) Try.func8 (by kernel_rfl)
    (fun t ht => by rw [Try.params8] at ht; simp at ht; rcases ht with rfl | rfl | rfl | rfl | rfl <;> exact ⟨by kernel_rfl, of_decide_eq_true (by kernel_rfl)⟩) (by kernel_rfl) rfl
    (fun ds hl => by rw [Try.params8] at hl; match ds, hl with | [d1, d2, d3, d4, d5], _ => exact ⟨rfl, rfl, rfl⟩)
    (ChangeSpec.witness6 (enc := enc) (C := Try.checked) false ⟨#[], #[.agg #[.int .i64 0, .int .i64 0, .float .f64 0, .string ⟨#[]⟩, .slice none 0 0, .slice none 0 0], .string ⟨#[]⟩, .agg #[.int .i64 0, .int .i64 0, .float .f64 0, .string ⟨#[]⟩, .slice none 0 0, .slice none 0 0], .string ⟨#[]⟩, .agg #[.int .i64 0, .int .i64 0, .float .f64 0, .string ⟨#[]⟩, .slice none 0 0, .slice none 0 0]], []⟩ 8 (by kernel_rfl) (by kernel_rfl) (by kernel_rfl) (by kernel_rfl)) ?_
  intro W base args ds p hval hA hsz
  rw [Try.params8] at hA hval hsz
  obtain ⟨v0, v1, v2, v3, v4, d0, d1, d2, d3, d4, p0, p1, p2, p3, p4, rfl, rfl, h0, h1, h2, h3, h4⟩ := trodAll_five hA
  obtain ⟨cs, rfl, _⟩ := okWide_struct Try.underlying26 (hval 0 26 v0 rfl rfl)
  obtain ⟨s1, rfl, _⟩ := Go.ChangeMaps.open_string Try.underlying9 (hval 1 9 v1 rfl rfl) h1
  obtain ⟨cs2, rfl, _⟩ := okWide_struct Try.underlying26 (hval 2 26 v2 rfl rfl)
  obtain ⟨s3, rfl, _⟩ := Go.ChangeMaps.open_string Try.underlying9 (hval 3 9 v3 rfl rfl) h3
  obtain ⟨cs4, rfl, _⟩ := okWide_struct Try.underlying26 (hval 4 26 v4 rfl rfl)
  have hw : ∀ n ∈ DataW.weightsEach Try.prog [26, 9, 26, 9, 26] [d0, d1, d2, d3, d4], n ≤ 140737488351232 := by
    intro n hn
    exact of_decide_eq_true (List.all_eq_true.1 hsz n hn)
  obtain ⟨fuel, h0⟩ := h0
  obtain ⟨fuel2, h2⟩ := h2
  obtain ⟨fuel4, h4⟩ := h4
  obtain ⟨g, hg⟩ := open_gv fuel cs.toList (d0, p0) h0 (weightsEach_mem (j := 0) rfl rfl hw)
  obtain ⟨g2, hg2⟩ := open_gv fuel2 cs2.toList (d2, p2) h2 (weightsEach_mem (j := 2) rfl rfl hw)
  obtain ⟨g4, hg4⟩ := open_gv fuel4 cs4.toList (d4, p4) h4 (weightsEach_mem (j := 4) rfl rfl hw)
  have := walk g g2 g4 s1 s3 W cs.toList cs2.toList cs4.toList hg hg2 hg4
  rwa [Array.toArray_toList, Array.toArray_toList, Array.toArray_toList] at this

theorem over : Rows.fnMapSetsCommuteRow.holds Try.pinned (OpenSpec.ofChange Rows.fnMapSetsCommuteSpec) :=
  OpenClaim.holds_of_wide 8 Try.f8 rfl rfl rfl rfl rfl rfl rfl ⟨rfl, rfl, rfl, rfl, rfl⟩ rfl rfl rfl rfl rfl (by kernel_rfl) Try.func8 (by kernel_rfl)
    (of_decide_eq_true (by kernel_rfl)) (by unfold Func.isWrapper; first | (rw [if_pos (by decide +kernel)]; kernel_rfl) | (rw [if_neg (by decide +kernel)]; exact ⟨rfl, rfl⟩))
    (fun os started H enc _ => lifted os started H enc)

theorem proved : Rows.FnMapSetsCommuteSaid :=
  over
#print axioms proved
end Go.Proofs.Ytoodkpaebbopnaa.fnMapSets
