/- FnItemElemOfSet: the path element of an item of a set is the item as a value, if it is a number, a string or a bool, and there is none if it is null, a list or a map; for every input. -/
import Derived.Test.YtempfaefopfobaaItemElem
import Derived.Test.YtempfaefopfobaaSameElem
import Derived.Test.YtempfaefopfobaaFits
import Derived.Test.YtempfaefopfobaaSetG
import Derived.ChangeMaps5

namespace Go.Proofs.Ytempfaefopfobaa.fnItemSet
open Go.ChangeShapes Go.WideShapes Go.ChangeAt Go.RowKit
set_option linter.unusedSimpArgs false
set_option linter.unusedVariables false
set_option maxRecDepth 100000

theorem inv (S : Nat → Prop) (w : World) (g : GV) (cs : List Value) (h : RepGV S w g cs) : ∃ a1 b1 c1 a2 b2 c2, cs = [.int .i64 g.kind, .int .i64 g.n, .float .f64 g.f, .string g.s, .slice a1 b1 c1, .slice a2 b2 c2] := by
  cases h with
  | mk hk hn hf hs hks hle hsz ha hcs hl =>
    obtain ⟨a, b, o, cap, rfl, _⟩ := hks
    exact ⟨_, _, _, _, _, _, rfl⟩
theorem kind_code (t : Tree) : (fromT t).kind = kcode t := by cases t <;> rfl
theorem code_again (t : Tree) : kcode (plainT (fromT t)) = kcode t := by cases t <;> simp [fromT, plainT, kcode, zeroG]
theorem bad_kind (g : GV) : badK (plainT (cleanG g)) = (((cleanG g).kind == 6) || ((cleanG g).kind == 5) || ((cleanG g).kind == 0)) := by
  rw [clean_eq, kind_code]
  unfold badK
  rw [code_again]
  cases plainT g <;> rfl
set_option maxHeartbeats 1000000 in
theorem valueElem_any (g : GV) (cs : List Value) (w : World) (hR : RepGV Any w g cs) : Calls Try.prog 34 #[.agg cs.toArray] w fun en w' => ∃ cs', en = .returned (.agg cs'.toArray) ∧ RepGE Any w' ⟨2, ByteArray.empty, [], [], g, 0⟩ cs' ∧ Ext w w' := by
  obtain ⟨k, n, f, s, a1, b1, c1, a2, b2, c2, rfl⟩ := hR.form
  have HR := hid hR
  clear hR
  go_enter Try.func34, Try.ntmps34
  go_wp2_with fail
  have hE := ((Ext.refl w).alloc (.cells #[.int .i64 k, .int .i64 n, .float .f64 f, .string s, .slice a1 b1 c1, .slice a2 b2 c2] 32)).alloc (.cells #[.int .i64 2, .string ⟨#[]⟩, .slice none 0 0, .slice none 0 0, .int .i64 k, .int .i64 n, .float .f64 f, .string s, .slice a1 b1 c1, .slice a2 b2 c2, .int .i64 0] 34)
  obtain ⟨⟨y0, y1, y2, y3, y4, y5, y6, y7, y8, y9, y10⟩, -⟩ := slot11 (second_heap w (.cells #[.int .i64 k, .int .i64 n, .float .f64 f, .string s, .slice a1 b1 c1, .slice a2 b2 c2] 32) (.cells #[.int .i64 2, .string ⟨#[]⟩, .slice none 0 0, .slice none 0 0, .int .i64 k, .int .i64 n, .float .f64 f, .string s, .slice a1 b1 c1, .slice a2 b2 c2, .int .i64 0] 34))
  exact bodyPost_ret (v := .agg #[.int .i64 2, .string ⟨#[]⟩, .slice none 0 0, .slice none 0 0, .int .i64 k, .int .i64 n, .float .f64 f, .string s, .slice a1 b1 c1, .slice a2 b2 c2, .int .i64 0]) (by simp [results, Try.results34, go_sem, y0, y1, y2, y3, y4, y5, y6, y7, y8, y9, y10]) rfl ⟨[.int .i64 2, .string ⟨#[]⟩, .slice none 0 0, .slice none 0 0, .int .i64 k, .int .i64 n, .float .f64 f, .string s, .slice a1 b1 c1, .slice a2 b2 c2, .int .i64 0], rfl, ⟨none, 0, none, 0, _, _, _, _, _, _, rfl, wfk 2 rfl, wfk 0 rfl, es0, RepStrs.nil _ _, RepVals.nil _ _, HR.out.ext hE⟩, hE⟩
set_option maxHeartbeats 4000000 in
theorem walk_null (g c : GV) (w : World) (cs : List Value) (hR : RepGV Any w g cs) (hcl : cleanG g = c) (h0 : (c.kind == 0) = true) (hb : badK (plainT c) = true) (heq : cleanE (fromEl (.val (plainT c))) = cleanE ⟨2, ByteArray.empty, [], [], c, 0⟩) :
    Calls Try.prog 8 #[.agg cs.toArray] w fun e w' => e = .returned (.bool true) ∧ Ext w w' := by
  have HR := hid hR
  have HB := hid hb
  have HEQ := hid heq
  have HCL := hid (fun W x (hx : RepGV Any W g x) => clean_any g W x hx)
  rw [hcl] at HCL
  obtain ⟨k, n, f, s, a1, b1, c1, a2, b2, c2, rfl⟩ := hR.form
  clear hR hb heq hcl
  go_enter Try.func8, Try.ntmps8
  have HE0 := hid ((Ext.refl w).alloc (.cells #[.int .i64 k, .int .i64 n, .float .f64 f, .string s, .slice a1 b1 c1, .slice a2 b2 c2] 32))
  have X0 := hid (heap_alloc_new w (.cells #[.int .i64 k, .int .i64 n, .float .f64 f, .string s, .slice a1 b1 c1, .slice a2 b2 c2] 32))
  go_upto_region 4 with (first
    | (go_at_call 23; refine (fits5_any g _ _ (HR.out.ext HE0.out)).mono ?_; rintro e w2 ⟨b, rfl, hE⟩; have HE2 := hid (HE0.out.trans hE); have X2 := hid (hE.block X0.out); obtain ⟨⟨z0, z1, z2, z3, z4, z5⟩, f0, f1, f2, f3, f4, f5⟩ := slot6 X2.out; cases b <;> clear hE)
    | (go_at_call 32; refine (HCL.out _ _ (HR.out.ext HE2.out)).mono ?_; rintro e w3 ⟨cs3, rfl, hT, hE⟩; obtain ⟨d1, e1, g1, d2, e2, g2, rfl⟩ := inv _ _ _ _ hT; have HT3 := hid (hT.weak (S' := fun b => w.heap.size < b) (fun b hb _ => by have h1 := (Array.getElem?_eq_some_iff.1 X2.out).1; have h2 : w2.heap.size ≤ b := hb; omega)); have HE3 := hid (HE2.out.trans hE); have X3 := hid (hE.block X2.out); clear z0 z1 z2 z3 z4 z5 f0 f1 f2 f3 f4 f5; obtain ⟨⟨z0, z1, z2, z3, z4, z5⟩, f0, f1, f2, f3, f4, f5⟩ := slot6 X3.out; clear hE hT))
  · go_ret
    exact ⟨rfl, HE2.out⟩
  change Code.wp _ _ _ _ (setL w3 w.heap.size 0 [.int .i64 c.kind, .int .i64 c.n, .float .f64 c.f, .string c.s, .slice d1 e1 g1, .slice d2 e2 g2])
  have X4 := hid (setL_all X3.out [.int .i64 c.kind, .int .i64 c.n, .float .f64 c.f, .string c.s, .slice d1 e1 g1, .slice d2 e2 g2] rfl)
  have HE4 := hid (show Ext w (setL w3 w.heap.size 0 [.int .i64 c.kind, .int .i64 c.n, .float .f64 c.f, .string c.s, .slice d1 e1 g1, .slice d2 e2 g2]) from setL_below HE3.out (Nat.le_refl _) 0 [.int .i64 c.kind, .int .i64 c.n, .float .f64 c.f, .string c.s, .slice d1 e1 g1, .slice d2 e2 g2])
  have HC4 := hid (show RepGV Any (setL w3 w.heap.size 0 [.int .i64 c.kind, .int .i64 c.n, .float .f64 c.f, .string c.s, .slice d1 e1 g1, .slice d2 e2 g2]) c [.int .i64 c.kind, .int .i64 c.n, .float .f64 c.f, .string c.s, .slice d1 e1 g1, .slice d2 e2 g2] from HT3.out.mono (fun b o hb ho => (setL_other (by have hb' : w.heap.size < b := hb; omega) _).trans ho) (fun _ _ _ => trivial))
  generalize setL w3 w.heap.size 0 [.int .i64 c.kind, .int .i64 c.n, .float .f64 c.f, .string c.s, .slice d1 e1 g1, .slice d2 e2 g2] = w4 at *
  clear z0 z1 z2 z3 z4 z5 f0 f1 f2 f3 f4 f5
  have HE4L := hid ((Ext.refl w4).alloc (.cells #[.bool false, .string ⟨#[]⟩, .string ⟨#[117, 110, 116, 121, 112, 101, 100]⟩, .slice none 0 0, .slice none 0 0, .string ⟨#[]⟩, .string ⟨#[97, 115, 115, 111, 99, 105, 97, 116, 105, 118, 101]⟩, .slice none 0 0] 57))
  replace HC4 := hid (HC4.out.ext HE4L.out)
  replace X4 := hid (HE4L.out.block X4.out)
  replace HE4 := hid (HE4.out.trans HE4L.out)
  have XL := hid (heap_alloc_new w4 (.cells #[.bool false, .string ⟨#[]⟩, .string ⟨#[117, 110, 116, 121, 112, 101, 100]⟩, .slice none 0 0, .slice none 0 0, .string ⟨#[]⟩, .string ⟨#[97, 115, 115, 111, 99, 105, 97, 116, 105, 118, 101]⟩, .slice none 0 0] 57))
  go_upto_region 5 with fail
  generalize w4.alloc (.cells #[.bool false, .string ⟨#[]⟩, .string ⟨#[117, 110, 116, 121, 112, 101, 100]⟩, .slice none 0 0, .slice none 0 0, .string ⟨#[]⟩, .string ⟨#[97, 115, 115, 111, 99, 105, 97, 116, 105, 118, 101]⟩, .slice none 0 0] 57) = wl at *
  generalize w4.heap.size = lb at *
  obtain ⟨⟨z0, z1, z2, z3, z4, z5⟩, -⟩ := slot6 X4.out
  obtain ⟨⟨l0, l1, l2, l3, l4, l5, l6, l7⟩, -⟩ := slot8 XL.out
  go_upto_region 6 with (go_at_call 33; refine (itemElem_bad c _ _ HC4.out HB.out).mono ?_; rintro e w5 ⟨rfl, hE⟩; have HE5 := hid hE; clear hE)
  have X5 := hid (((Ext.refl w5).alloc (.cells #[.int .i64 0, .string ⟨#[]⟩, .slice none 0 0, .slice none 0 0, .int .i64 0, .int .i64 0, .float .f64 0, .string ⟨#[]⟩, .slice none 0 0, .slice none 0 0, .int .i64 0] 34)).block (HE5.out.block X4.out))
  clear z0 z1 z2 z3 z4 z5 l0 l1 l2 l3 l4 l5 l6 l7
  obtain ⟨⟨z0, z1, z2, z3, z4, z5⟩, -⟩ := slot6 X5.out
  all_goals
    go_wp2_with fail
    go_ret
    exact ⟨rfl, (HE4.out.trans HE5.out).alloc _⟩
set_option maxHeartbeats 4000000 in
theorem walk_list (g c : GV) (w : World) (cs : List Value) (hR : RepGV Any w g cs) (hcl : cleanG g = c) (h0 : (c.kind == 0) = false) (h5 : (c.kind == 5) = true) (hb : badK (plainT c) = true) (heq : cleanE (fromEl (.val (plainT c))) = cleanE ⟨2, ByteArray.empty, [], [], c, 0⟩) :
    Calls Try.prog 8 #[.agg cs.toArray] w fun e w' => e = .returned (.bool true) ∧ Ext w w' := by
  have HR := hid hR
  have HB := hid hb
  have HEQ := hid heq
  have HCL := hid (fun W x (hx : RepGV Any W g x) => clean_any g W x hx)
  rw [hcl] at HCL
  obtain ⟨k, n, f, s, a1, b1, c1, a2, b2, c2, rfl⟩ := hR.form
  clear hR hb heq hcl
  go_enter Try.func8, Try.ntmps8
  have HE0 := hid ((Ext.refl w).alloc (.cells #[.int .i64 k, .int .i64 n, .float .f64 f, .string s, .slice a1 b1 c1, .slice a2 b2 c2] 32))
  have X0 := hid (heap_alloc_new w (.cells #[.int .i64 k, .int .i64 n, .float .f64 f, .string s, .slice a1 b1 c1, .slice a2 b2 c2] 32))
  go_upto_region 4 with (first
    | (go_at_call 23; refine (fits5_any g _ _ (HR.out.ext HE0.out)).mono ?_; rintro e w2 ⟨b, rfl, hE⟩; have HE2 := hid (HE0.out.trans hE); have X2 := hid (hE.block X0.out); obtain ⟨⟨z0, z1, z2, z3, z4, z5⟩, f0, f1, f2, f3, f4, f5⟩ := slot6 X2.out; cases b <;> clear hE)
    | (go_at_call 32; refine (HCL.out _ _ (HR.out.ext HE2.out)).mono ?_; rintro e w3 ⟨cs3, rfl, hT, hE⟩; obtain ⟨d1, e1, g1, d2, e2, g2, rfl⟩ := inv _ _ _ _ hT; have HT3 := hid (hT.weak (S' := fun b => w.heap.size < b) (fun b hb _ => by have h1 := (Array.getElem?_eq_some_iff.1 X2.out).1; have h2 : w2.heap.size ≤ b := hb; omega)); have HE3 := hid (HE2.out.trans hE); have X3 := hid (hE.block X2.out); clear z0 z1 z2 z3 z4 z5 f0 f1 f2 f3 f4 f5; obtain ⟨⟨z0, z1, z2, z3, z4, z5⟩, f0, f1, f2, f3, f4, f5⟩ := slot6 X3.out; clear hE hT))
  · go_ret
    exact ⟨rfl, HE2.out⟩
  change Code.wp _ _ _ _ (setL w3 w.heap.size 0 [.int .i64 c.kind, .int .i64 c.n, .float .f64 c.f, .string c.s, .slice d1 e1 g1, .slice d2 e2 g2])
  have X4 := hid (setL_all X3.out [.int .i64 c.kind, .int .i64 c.n, .float .f64 c.f, .string c.s, .slice d1 e1 g1, .slice d2 e2 g2] rfl)
  have HE4 := hid (show Ext w (setL w3 w.heap.size 0 [.int .i64 c.kind, .int .i64 c.n, .float .f64 c.f, .string c.s, .slice d1 e1 g1, .slice d2 e2 g2]) from setL_below HE3.out (Nat.le_refl _) 0 [.int .i64 c.kind, .int .i64 c.n, .float .f64 c.f, .string c.s, .slice d1 e1 g1, .slice d2 e2 g2])
  have HC4 := hid (show RepGV Any (setL w3 w.heap.size 0 [.int .i64 c.kind, .int .i64 c.n, .float .f64 c.f, .string c.s, .slice d1 e1 g1, .slice d2 e2 g2]) c [.int .i64 c.kind, .int .i64 c.n, .float .f64 c.f, .string c.s, .slice d1 e1 g1, .slice d2 e2 g2] from HT3.out.mono (fun b o hb ho => (setL_other (by have hb' : w.heap.size < b := hb; omega) _).trans ho) (fun _ _ _ => trivial))
  generalize setL w3 w.heap.size 0 [.int .i64 c.kind, .int .i64 c.n, .float .f64 c.f, .string c.s, .slice d1 e1 g1, .slice d2 e2 g2] = w4 at *
  clear z0 z1 z2 z3 z4 z5 f0 f1 f2 f3 f4 f5
  have HE4L := hid ((Ext.refl w4).alloc (.cells #[.bool false, .string ⟨#[]⟩, .string ⟨#[117, 110, 116, 121, 112, 101, 100]⟩, .slice none 0 0, .slice none 0 0, .string ⟨#[]⟩, .string ⟨#[97, 115, 115, 111, 99, 105, 97, 116, 105, 118, 101]⟩, .slice none 0 0] 57))
  replace HC4 := hid (HC4.out.ext HE4L.out)
  replace X4 := hid (HE4L.out.block X4.out)
  replace HE4 := hid (HE4.out.trans HE4L.out)
  have XL := hid (heap_alloc_new w4 (.cells #[.bool false, .string ⟨#[]⟩, .string ⟨#[117, 110, 116, 121, 112, 101, 100]⟩, .slice none 0 0, .slice none 0 0, .string ⟨#[]⟩, .string ⟨#[97, 115, 115, 111, 99, 105, 97, 116, 105, 118, 101]⟩, .slice none 0 0] 57))
  go_upto_region 5 with fail
  generalize w4.alloc (.cells #[.bool false, .string ⟨#[]⟩, .string ⟨#[117, 110, 116, 121, 112, 101, 100]⟩, .slice none 0 0, .slice none 0 0, .string ⟨#[]⟩, .string ⟨#[97, 115, 115, 111, 99, 105, 97, 116, 105, 118, 101]⟩, .slice none 0 0] 57) = wl at *
  generalize w4.heap.size = lb at *
  obtain ⟨⟨z0, z1, z2, z3, z4, z5⟩, -⟩ := slot6 X4.out
  obtain ⟨⟨l0, l1, l2, l3, l4, l5, l6, l7⟩, -⟩ := slot8 XL.out
  go_upto_region 6 with (go_at_call 33; refine (itemElem_bad c _ _ HC4.out HB.out).mono ?_; rintro e w5 ⟨rfl, hE⟩; have HE5 := hid hE; clear hE)
  have X5 := hid (((Ext.refl w5).alloc (.cells #[.int .i64 0, .string ⟨#[]⟩, .slice none 0 0, .slice none 0 0, .int .i64 0, .int .i64 0, .float .f64 0, .string ⟨#[]⟩, .slice none 0 0, .slice none 0 0, .int .i64 0] 34)).block (HE5.out.block X4.out))
  clear z0 z1 z2 z3 z4 z5 l0 l1 l2 l3 l4 l5 l6 l7
  obtain ⟨⟨z0, z1, z2, z3, z4, z5⟩, -⟩ := slot6 X5.out
  all_goals
    go_wp2_with fail
    go_ret
    exact ⟨rfl, (HE4.out.trans HE5.out).alloc _⟩
set_option maxHeartbeats 4000000 in
theorem walk_map (g c : GV) (w : World) (cs : List Value) (hR : RepGV Any w g cs) (hcl : cleanG g = c) (h0 : (c.kind == 0) = false) (h5 : (c.kind == 5) = false) (h6 : (c.kind == 6) = true) (hb : badK (plainT c) = true) (heq : cleanE (fromEl (.val (plainT c))) = cleanE ⟨2, ByteArray.empty, [], [], c, 0⟩) :
    Calls Try.prog 8 #[.agg cs.toArray] w fun e w' => e = .returned (.bool true) ∧ Ext w w' := by
  have HR := hid hR
  have HB := hid hb
  have HEQ := hid heq
  have HCL := hid (fun W x (hx : RepGV Any W g x) => clean_any g W x hx)
  rw [hcl] at HCL
  obtain ⟨k, n, f, s, a1, b1, c1, a2, b2, c2, rfl⟩ := hR.form
  clear hR hb heq hcl
  go_enter Try.func8, Try.ntmps8
  have HE0 := hid ((Ext.refl w).alloc (.cells #[.int .i64 k, .int .i64 n, .float .f64 f, .string s, .slice a1 b1 c1, .slice a2 b2 c2] 32))
  have X0 := hid (heap_alloc_new w (.cells #[.int .i64 k, .int .i64 n, .float .f64 f, .string s, .slice a1 b1 c1, .slice a2 b2 c2] 32))
  go_upto_region 4 with (first
    | (go_at_call 23; refine (fits5_any g _ _ (HR.out.ext HE0.out)).mono ?_; rintro e w2 ⟨b, rfl, hE⟩; have HE2 := hid (HE0.out.trans hE); have X2 := hid (hE.block X0.out); obtain ⟨⟨z0, z1, z2, z3, z4, z5⟩, f0, f1, f2, f3, f4, f5⟩ := slot6 X2.out; cases b <;> clear hE)
    | (go_at_call 32; refine (HCL.out _ _ (HR.out.ext HE2.out)).mono ?_; rintro e w3 ⟨cs3, rfl, hT, hE⟩; obtain ⟨d1, e1, g1, d2, e2, g2, rfl⟩ := inv _ _ _ _ hT; have HT3 := hid (hT.weak (S' := fun b => w.heap.size < b) (fun b hb _ => by have h1 := (Array.getElem?_eq_some_iff.1 X2.out).1; have h2 : w2.heap.size ≤ b := hb; omega)); have HE3 := hid (HE2.out.trans hE); have X3 := hid (hE.block X2.out); clear z0 z1 z2 z3 z4 z5 f0 f1 f2 f3 f4 f5; obtain ⟨⟨z0, z1, z2, z3, z4, z5⟩, f0, f1, f2, f3, f4, f5⟩ := slot6 X3.out; clear hE hT))
  · go_ret
    exact ⟨rfl, HE2.out⟩
  change Code.wp _ _ _ _ (setL w3 w.heap.size 0 [.int .i64 c.kind, .int .i64 c.n, .float .f64 c.f, .string c.s, .slice d1 e1 g1, .slice d2 e2 g2])
  have X4 := hid (setL_all X3.out [.int .i64 c.kind, .int .i64 c.n, .float .f64 c.f, .string c.s, .slice d1 e1 g1, .slice d2 e2 g2] rfl)
  have HE4 := hid (show Ext w (setL w3 w.heap.size 0 [.int .i64 c.kind, .int .i64 c.n, .float .f64 c.f, .string c.s, .slice d1 e1 g1, .slice d2 e2 g2]) from setL_below HE3.out (Nat.le_refl _) 0 [.int .i64 c.kind, .int .i64 c.n, .float .f64 c.f, .string c.s, .slice d1 e1 g1, .slice d2 e2 g2])
  have HC4 := hid (show RepGV Any (setL w3 w.heap.size 0 [.int .i64 c.kind, .int .i64 c.n, .float .f64 c.f, .string c.s, .slice d1 e1 g1, .slice d2 e2 g2]) c [.int .i64 c.kind, .int .i64 c.n, .float .f64 c.f, .string c.s, .slice d1 e1 g1, .slice d2 e2 g2] from HT3.out.mono (fun b o hb ho => (setL_other (by have hb' : w.heap.size < b := hb; omega) _).trans ho) (fun _ _ _ => trivial))
  generalize setL w3 w.heap.size 0 [.int .i64 c.kind, .int .i64 c.n, .float .f64 c.f, .string c.s, .slice d1 e1 g1, .slice d2 e2 g2] = w4 at *
  clear z0 z1 z2 z3 z4 z5 f0 f1 f2 f3 f4 f5
  have HE4L := hid ((Ext.refl w4).alloc (.cells #[.bool false, .string ⟨#[]⟩, .string ⟨#[117, 110, 116, 121, 112, 101, 100]⟩, .slice none 0 0, .slice none 0 0, .string ⟨#[]⟩, .string ⟨#[97, 115, 115, 111, 99, 105, 97, 116, 105, 118, 101]⟩, .slice none 0 0] 57))
  replace HC4 := hid (HC4.out.ext HE4L.out)
  replace X4 := hid (HE4L.out.block X4.out)
  replace HE4 := hid (HE4.out.trans HE4L.out)
  have XL := hid (heap_alloc_new w4 (.cells #[.bool false, .string ⟨#[]⟩, .string ⟨#[117, 110, 116, 121, 112, 101, 100]⟩, .slice none 0 0, .slice none 0 0, .string ⟨#[]⟩, .string ⟨#[97, 115, 115, 111, 99, 105, 97, 116, 105, 118, 101]⟩, .slice none 0 0] 57))
  go_upto_region 5 with fail
  generalize w4.alloc (.cells #[.bool false, .string ⟨#[]⟩, .string ⟨#[117, 110, 116, 121, 112, 101, 100]⟩, .slice none 0 0, .slice none 0 0, .string ⟨#[]⟩, .string ⟨#[97, 115, 115, 111, 99, 105, 97, 116, 105, 118, 101]⟩, .slice none 0 0] 57) = wl at *
  generalize w4.heap.size = lb at *
  obtain ⟨⟨z0, z1, z2, z3, z4, z5⟩, -⟩ := slot6 X4.out
  obtain ⟨⟨l0, l1, l2, l3, l4, l5, l6, l7⟩, -⟩ := slot8 XL.out
  go_upto_region 6 with (go_at_call 33; refine (itemElem_bad c _ _ HC4.out HB.out).mono ?_; rintro e w5 ⟨rfl, hE⟩; have HE5 := hid hE; clear hE)
  have X5 := hid (((Ext.refl w5).alloc (.cells #[.int .i64 0, .string ⟨#[]⟩, .slice none 0 0, .slice none 0 0, .int .i64 0, .int .i64 0, .float .f64 0, .string ⟨#[]⟩, .slice none 0 0, .slice none 0 0, .int .i64 0] 34)).block (HE5.out.block X4.out))
  clear z0 z1 z2 z3 z4 z5 l0 l1 l2 l3 l4 l5 l6 l7
  obtain ⟨⟨z0, z1, z2, z3, z4, z5⟩, -⟩ := slot6 X5.out
  all_goals
    go_wp2_with fail
    go_ret
    exact ⟨rfl, (HE4.out.trans HE5.out).alloc _⟩
set_option maxHeartbeats 4000000 in
theorem walk_ok (g c : GV) (w : World) (cs : List Value) (hR : RepGV Any w g cs) (hcl : cleanG g = c) (h0 : (c.kind == 0) = false) (h5 : (c.kind == 5) = false) (h6 : (c.kind == 6) = false) (hb : badK (plainT c) = false) (heq : cleanE (fromEl (.val (plainT c))) = cleanE ⟨2, ByteArray.empty, [], [], c, 0⟩) :
    Calls Try.prog 8 #[.agg cs.toArray] w fun e w' => e = .returned (.bool true) ∧ Ext w w' := by
  have HR := hid hR
  have HB := hid hb
  have HEQ := hid heq
  have HCL := hid (fun W x (hx : RepGV Any W g x) => clean_any g W x hx)
  rw [hcl] at HCL
  obtain ⟨k, n, f, s, a1, b1, c1, a2, b2, c2, rfl⟩ := hR.form
  clear hR hb heq hcl
  go_enter Try.func8, Try.ntmps8
  have HE0 := hid ((Ext.refl w).alloc (.cells #[.int .i64 k, .int .i64 n, .float .f64 f, .string s, .slice a1 b1 c1, .slice a2 b2 c2] 32))
  have X0 := hid (heap_alloc_new w (.cells #[.int .i64 k, .int .i64 n, .float .f64 f, .string s, .slice a1 b1 c1, .slice a2 b2 c2] 32))
  go_upto_region 4 with (first
    | (go_at_call 23; refine (fits5_any g _ _ (HR.out.ext HE0.out)).mono ?_; rintro e w2 ⟨b, rfl, hE⟩; have HE2 := hid (HE0.out.trans hE); have X2 := hid (hE.block X0.out); obtain ⟨⟨z0, z1, z2, z3, z4, z5⟩, f0, f1, f2, f3, f4, f5⟩ := slot6 X2.out; cases b <;> clear hE)
    | (go_at_call 32; refine (HCL.out _ _ (HR.out.ext HE2.out)).mono ?_; rintro e w3 ⟨cs3, rfl, hT, hE⟩; obtain ⟨d1, e1, g1, d2, e2, g2, rfl⟩ := inv _ _ _ _ hT; have HT3 := hid (hT.weak (S' := fun b => w.heap.size < b) (fun b hb _ => by have h1 := (Array.getElem?_eq_some_iff.1 X2.out).1; have h2 : w2.heap.size ≤ b := hb; omega)); have HE3 := hid (HE2.out.trans hE); have X3 := hid (hE.block X2.out); clear z0 z1 z2 z3 z4 z5 f0 f1 f2 f3 f4 f5; obtain ⟨⟨z0, z1, z2, z3, z4, z5⟩, f0, f1, f2, f3, f4, f5⟩ := slot6 X3.out; clear hE hT))
  · go_ret
    exact ⟨rfl, HE2.out⟩
  change Code.wp _ _ _ _ (setL w3 w.heap.size 0 [.int .i64 c.kind, .int .i64 c.n, .float .f64 c.f, .string c.s, .slice d1 e1 g1, .slice d2 e2 g2])
  have X4 := hid (setL_all X3.out [.int .i64 c.kind, .int .i64 c.n, .float .f64 c.f, .string c.s, .slice d1 e1 g1, .slice d2 e2 g2] rfl)
  have HE4 := hid (show Ext w (setL w3 w.heap.size 0 [.int .i64 c.kind, .int .i64 c.n, .float .f64 c.f, .string c.s, .slice d1 e1 g1, .slice d2 e2 g2]) from setL_below HE3.out (Nat.le_refl _) 0 [.int .i64 c.kind, .int .i64 c.n, .float .f64 c.f, .string c.s, .slice d1 e1 g1, .slice d2 e2 g2])
  have HC4 := hid (show RepGV Any (setL w3 w.heap.size 0 [.int .i64 c.kind, .int .i64 c.n, .float .f64 c.f, .string c.s, .slice d1 e1 g1, .slice d2 e2 g2]) c [.int .i64 c.kind, .int .i64 c.n, .float .f64 c.f, .string c.s, .slice d1 e1 g1, .slice d2 e2 g2] from HT3.out.mono (fun b o hb ho => (setL_other (by have hb' : w.heap.size < b := hb; omega) _).trans ho) (fun _ _ _ => trivial))
  generalize setL w3 w.heap.size 0 [.int .i64 c.kind, .int .i64 c.n, .float .f64 c.f, .string c.s, .slice d1 e1 g1, .slice d2 e2 g2] = w4 at *
  clear z0 z1 z2 z3 z4 z5 f0 f1 f2 f3 f4 f5
  have HE4L := hid ((Ext.refl w4).alloc (.cells #[.bool false, .string ⟨#[]⟩, .string ⟨#[117, 110, 116, 121, 112, 101, 100]⟩, .slice none 0 0, .slice none 0 0, .string ⟨#[]⟩, .string ⟨#[97, 115, 115, 111, 99, 105, 97, 116, 105, 118, 101]⟩, .slice none 0 0] 57))
  replace HC4 := hid (HC4.out.ext HE4L.out)
  replace X4 := hid (HE4L.out.block X4.out)
  replace HE4 := hid (HE4.out.trans HE4L.out)
  have XL := hid (heap_alloc_new w4 (.cells #[.bool false, .string ⟨#[]⟩, .string ⟨#[117, 110, 116, 121, 112, 101, 100]⟩, .slice none 0 0, .slice none 0 0, .string ⟨#[]⟩, .string ⟨#[97, 115, 115, 111, 99, 105, 97, 116, 105, 118, 101]⟩, .slice none 0 0] 57))
  go_upto_region 5 with fail
  generalize w4.alloc (.cells #[.bool false, .string ⟨#[]⟩, .string ⟨#[117, 110, 116, 121, 112, 101, 100]⟩, .slice none 0 0, .slice none 0 0, .string ⟨#[]⟩, .string ⟨#[97, 115, 115, 111, 99, 105, 97, 116, 105, 118, 101]⟩, .slice none 0 0] 57) = wl at *
  generalize w4.heap.size = lb at *
  obtain ⟨⟨z0, z1, z2, z3, z4, z5⟩, -⟩ := slot6 X4.out
  obtain ⟨⟨l0, l1, l2, l3, l4, l5, l6, l7⟩, -⟩ := slot8 XL.out
  go_upto_region 6 with (go_at_call 33; refine (itemElem_ok c _ _ HC4.out HB.out).mono ?_; rintro e w5 ⟨cs5, rfl, hG, hE⟩; obtain ⟨q0, q1, q2, q3, q4, q5, q6, q7, q8, q9, q10, q11, q12, q13, q14, q15, q16, q17, q18, rfl⟩ := hG.form9; have HG5 := hid hG; have HE5 := hid hE; clear hE hG)
  have X5 := hid (((Ext.refl w5).alloc (.cells #[.int .i64 q0, .string q1, .slice q2 q3 q4, .slice q5 q6 q7, .int .i64 q8, .int .i64 q9, .float .f64 q10, .string q11, .slice q12 q13 q14, .slice q15 q16 q17, .int .i64 q18] 34)).block (HE5.out.block X4.out))
  clear z0 z1 z2 z3 z4 z5 l0 l1 l2 l3 l4 l5 l6 l7
  obtain ⟨⟨z0, z1, z2, z3, z4, z5⟩, -⟩ := slot6 X5.out
  have Y1 := hid (heap_alloc_new w5 (.cells #[.int .i64 q0, .string q1, .slice q2 q3 q4, .slice q5 q6 q7, .int .i64 q8, .int .i64 q9, .float .f64 q10, .string q11, .slice q12 q13 q14, .slice q15 q16 q17, .int .i64 q18] 34))
  have HE6 := hid ((Ext.refl w5).alloc (.cells #[.int .i64 q0, .string q1, .slice q2 q3 q4, .slice q5 q6 q7, .int .i64 q8, .int .i64 q9, .float .f64 q10, .string q11, .slice q12 q13 q14, .slice q15 q16 q17, .int .i64 q18] 34))
  have K := hid (show ∀ w' : World, Ext (w5.alloc (.cells #[.int .i64 q0, .string q1, .slice q2 q3 q4, .slice q5 q6 q7, .int .i64 q8, .int .i64 q9, .float .f64 q10, .string q11, .slice q12 q13 q14, .slice q15 q16 q17, .int .i64 q18] 34)) w' → (fun w' : World => w'.cell? ⟨w5.heap.size, 0, none⟩ = some (.int .i64 q0) ∧ w'.cell? ⟨w5.heap.size, 1, none⟩ = some (.string q1) ∧ w'.cell? ⟨w5.heap.size, 2, none⟩ = some (.slice q2 q3 q4) ∧ w'.cell? ⟨w5.heap.size, 3, none⟩ = some (.slice q5 q6 q7) ∧ w'.cell? ⟨w5.heap.size, 4, none⟩ = some (.int .i64 q8) ∧ w'.cell? ⟨w5.heap.size, 5, none⟩ = some (.int .i64 q9) ∧ w'.cell? ⟨w5.heap.size, 6, none⟩ = some (.float .f64 q10) ∧ w'.cell? ⟨w5.heap.size, 7, none⟩ = some (.string q11) ∧ w'.cell? ⟨w5.heap.size, 8, none⟩ = some (.slice q12 q13 q14) ∧ w'.cell? ⟨w5.heap.size, 9, none⟩ = some (.slice q15 q16 q17) ∧ w'.cell? ⟨w5.heap.size, 10, none⟩ = some (.int .i64 q18) ∧ w'.cell? ⟨w.heap.size, 0, none⟩ = some (.int .i64 c.kind) ∧ w'.cell? ⟨w.heap.size, 1, none⟩ = some (.int .i64 c.n) ∧ w'.cell? ⟨w.heap.size, 2, none⟩ = some (.float .f64 c.f) ∧ w'.cell? ⟨w.heap.size, 3, none⟩ = some (.string c.s) ∧ w'.cell? ⟨w.heap.size, 4, none⟩ = some (.slice d1 e1 g1) ∧ w'.cell? ⟨w.heap.size, 5, none⟩ = some (.slice d2 e2 g2)) w' from fun w' h => by
    obtain ⟨⟨y0, y1, y2, y3, y4, y5, y6, y7, y8, y9, y10⟩, -⟩ := slot11 (h.block Y1.out)
    obtain ⟨⟨z0, z1, z2, z3, z4, z5⟩, -⟩ := slot6 (h.block (HE6.out.block (HE5.out.block X4.out)))
    exact ⟨y0, y1, y2, y3, y4, y5, y6, y7, y8, y9, y10, z0, z1, z2, z3, z4, z5⟩)
  generalize w5.alloc (.cells #[.int .i64 q0, .string q1, .slice q2 q3 q4, .slice q5 q6 q7, .int .i64 q8, .int .i64 q9, .float .f64 q10, .string q11, .slice q12 q13 q14, .slice q15 q16 q17, .int .i64 q18] 34) = w6 at *
  generalize w5.heap.size = gb at *
  go_upto_region 8 with fail
  go_region_held3 (fun w' : World => w'.cell? ⟨gb, 0, none⟩ = some (.int .i64 q0) ∧ w'.cell? ⟨gb, 1, none⟩ = some (.string q1) ∧ w'.cell? ⟨gb, 2, none⟩ = some (.slice q2 q3 q4) ∧ w'.cell? ⟨gb, 3, none⟩ = some (.slice q5 q6 q7) ∧ w'.cell? ⟨gb, 4, none⟩ = some (.int .i64 q8) ∧ w'.cell? ⟨gb, 5, none⟩ = some (.int .i64 q9) ∧ w'.cell? ⟨gb, 6, none⟩ = some (.float .f64 q10) ∧ w'.cell? ⟨gb, 7, none⟩ = some (.string q11) ∧ w'.cell? ⟨gb, 8, none⟩ = some (.slice q12 q13 q14) ∧ w'.cell? ⟨gb, 9, none⟩ = some (.slice q15 q16 q17) ∧ w'.cell? ⟨gb, 10, none⟩ = some (.int .i64 q18) ∧ w'.cell? ⟨w.heap.size, 0, none⟩ = some (.int .i64 c.kind) ∧ w'.cell? ⟨w.heap.size, 1, none⟩ = some (.int .i64 c.n) ∧ w'.cell? ⟨w.heap.size, 2, none⟩ = some (.float .f64 c.f) ∧ w'.cell? ⟨w.heap.size, 3, none⟩ = some (.string c.s) ∧ w'.cell? ⟨w.heap.size, 4, none⟩ = some (.slice d1 e1 g1) ∧ w'.cell? ⟨w.heap.size, 5, none⟩ = some (.slice d2 e2 g2))
    (first | with_reducible exact K.out _ HE8.out | with_reducible exact K.out _ HE7.out | with_reducible exact K.out _ (Ext.refl w6).drew)
    (first
      | (go_at_call 34; refine (valueElem_any c _ _ ((HC4.out.ext (HE5.out.trans HE6.out)).ext (Ext.refl w6).drew)).mono ?_; rintro e w7 ⟨cs7, rfl, hG, hE⟩; obtain ⟨q0', q1', q2', q3', q4', q5', q6', q7', q8', q9', q10', q11', q12', q13', q14', q15', q16', q17', q18', rfl⟩ := hG.form9; have HG7 := hid hG; have HE7 := hid ((Ext.refl w6).drew.trans hE); clear hE hG)
      | (go_at_call 18; refine (sameElem_true _ _ HEQ.out _ _ _ (HG5.out.ext (HE6.out.trans HE7.out)) HG7.out).mono ?_; rintro e w8 ⟨rfl, hE⟩; have HE8 := hid (HE7.out.trans hE); clear hE))
  all_goals
    go_wp2_with fail
    go_ret
    exact ⟨rfl, ((HE4.out.trans HE5.out).trans HE6.out).trans HE8.out⟩
theorem walk (g : GV) (w : World) (cs : List Value) (hR : RepGV Any w g cs) : Calls Try.prog 8 #[.agg cs.toArray] w fun e w' => e = .returned (.bool true) ∧ Ext w w' := by
  have hb := bad_kind g
  have heq : cleanE (fromEl (.val (plainT (cleanG g)))) = cleanE ⟨2, ByteArray.empty, [], [], cleanG g, 0⟩ := by
    show cleanE ⟨2, ByteArray.empty, [], [], fromT (plainT (cleanG g)), 0⟩ = _
    rw [← clean_eq, clean_idem]
  cases h0 : ((cleanG g).kind == 0)
  · cases h5 : ((cleanG g).kind == 5)
    · cases h6 : ((cleanG g).kind == 6)
      · exact walk_ok g _ w cs hR rfl h0 h5 h6 (by rw [hb, h0, h5, h6]; rfl) heq
      · exact walk_map g _ w cs hR rfl h0 h5 h6 (by rw [hb, h6]; rfl) heq
    · exact walk_list g _ w cs hR rfl h0 h5 (by rw [hb, h5]; simp) heq
  · exact walk_null g _ w cs hR rfl h0 (by rw [hb, h0]; simp) heq
section
variable {H : Type} {enc : TypeId × Value → H} {P : Program} {w : World} {base : Nat} {spare : Nat → Bool} {held : Bool}
theorem trodAll_args {t0 : TypeId} {args : Array Value} {ds : List (DataW H)} {ps : List MemPlace} (h : DataW.TrodAll enc P w base spare held [t0] args.toList ds ps) :
    ∃ v0 d0 p0, args = #[v0] ∧ ds = [d0] ∧ DataW.Trod enc P w base spare held t0 v0 d0 p0 := by
  obtain ⟨v0, vs0, d0, ds0, p0, q0, hargs, rfl, rfl, hd0, hr0⟩ := trodAll_cons h
  obtain ⟨rfl, rfl, rfl⟩ := trodAll_nil hr0
  exact ⟨v0, d0, p0, by cases args; simp_all, rfl, hd0⟩
end
theorem own : ownKnob Try.prog.godebug = none := by kernel_rfl
set_option maxRecDepth 100000 in
theorem lifted (os : Os) (started : os.Started) (H : Type) (enc : TypeId × Value → H) :
    ReturnsInHanded {} Try.checked os 8 .any (Rows.fnItemElemOfSetSpec.pre6 enc Try.prog Try.f8 Rows.fnItemElemOfSetRow.domain false) (Rows.fnItemElemOfSetSpec.post enc Try.prog Try.f8 false true false false) := by
  refine law_lifted (C := Try.checked) own started (by kernel_rfl) Try.func8 (by kernel_rfl)
    (fun t ht => by
      have ht' : t ∈ ([32] : List TypeId) := by rwa [Try.params8] at ht
      simp only [List.mem_cons, List.not_mem_nil, or_false] at ht'
      rcases ht' with rfl <;> exact ⟨by kernel_rfl, of_decide_eq_true (by kernel_rfl)⟩) (by kernel_rfl) rfl
    (fun ds hl => by rw [Try.params8] at hl; match ds, hl with | [d0], _ => exact ⟨rfl, rfl, rfl⟩)
    (ChangeSpec.witness6 (enc := enc) (C := Try.checked) false ⟨#[], #[.agg #[.int .i64 0, .int .i64 0, .float .f64 0, .string ⟨#[]⟩, .slice none 0 0, .slice none 0 0]], []⟩ 8 (by kernel_rfl) (by kernel_rfl) (by kernel_rfl) (by kernel_rfl)) ?_
  intro W base args ds p hval hA hsz
  rw [Try.params8] at hA hval hsz
  obtain ⟨v0, d0, p0, rfl, rfl, h0⟩ := trodAll_args hA
  have hw : ∀ n ∈ DataW.weightsEach Try.prog [32] [d0], n ≤ 140737488351232 := by
    intro n hn
    exact of_decide_eq_true (List.all_eq_true.1 hsz n hn)
  obtain ⟨cs0, rfl, _⟩ := okWide_struct Try.underlying32 (hval 0 32 v0 rfl rfl)
  obtain ⟨fu0, h0⟩ := h0
  obtain ⟨g0, hg0⟩ := open_gv fu0 cs0.toList (d0, p0) h0 (weightsEach_mem (j := 0) rfl rfl hw)
  have := walk g0 W cs0.toList hg0
  rwa [Array.toArray_toList] at this

theorem over : Rows.fnItemElemOfSetRow.holds Try.pinned (OpenSpec.ofChange Rows.fnItemElemOfSetSpec) :=
  OpenClaim.holds_of_wide 8 Try.f8 rfl rfl rfl rfl rfl rfl rfl ⟨rfl, rfl, rfl, rfl, rfl⟩ rfl rfl rfl rfl rfl (by kernel_rfl) Try.func8 (by kernel_rfl)
    (of_decide_eq_true (by kernel_rfl)) (by unfold Func.isWrapper; first | (rw [if_pos (by decide +kernel)]; kernel_rfl) | (rw [if_neg (by decide +kernel)]; exact ⟨rfl, rfl⟩))
    (fun os started H enc _ => lifted os started H enc)

theorem proved : Rows.FnItemElemOfSetSaid :=
  over
#print axioms proved
end Go.Proofs.Ytempfaefopfobaa.fnItemSet
