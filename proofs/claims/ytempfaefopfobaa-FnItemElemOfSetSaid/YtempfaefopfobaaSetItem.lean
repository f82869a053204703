/- SetItem: typedhelpers.setItemToPathElement: the path element of an item of a set. -/
import Derived.Test.YtempfaefopfobaaIs
import Derived.Test.YtempfaefopfobaaElemIn
import Derived.Test.YtempfaefopfobaaSetL
import Derived.Test.YtempfaefopfobaaStep
import Derived.Deep.RegionHeld3

set_option maxRecDepth 100000
namespace Go.Proofs.Ytempfaefopfobaa
open Go.ChangeShapes Go.WideShapes Go.ChangeAt Go.RowKit
set_option linter.unusedVariables false
set_option linter.unusedSimpArgs false

theorem errNew_any (s : ByteArray) (w : World) : Calls Try.prog 123 #[.string s] w fun e w' => ∃ b, e = .returned (.iface 231 (.pointer (some ⟨b, 0, none⟩))) ∧ Ext w w' := by
  go_enter Try.func123, Try.ntmps123
  go_wp2_with fail
  go_ret
  exact ⟨_, rfl, (Ext.refl w).alloc _⟩
set_option maxHeartbeats 2000000 in
theorem setItem_map (t : Tree) (x : Value) (w : World) (hv : RepVal Any w t x) (hk : kcode t = 6) : Calls Try.prog 125 #[x] w fun e w' => ∃ b, e = .returned (.tuple #[.agg #[.pointer none, .pointer none, .pointer none, .pointer none], .iface 231 (.pointer (some ⟨b, 0, none⟩))]) ∧ Ext w w' := by
  have h6 : (kcode t == 6) = true := by rw [hk]; rfl
  clear hk
  obtain ⟨bx, v, rfl, -, hb, hT⟩ := hv
  have HE3 := hid (((((Ext.refl w).alloc (.cells #[.iface 203 (.pointer (some ⟨bx, 0, none⟩))] 107)).alloc (.cells #[.pointer none, .pointer none, .pointer none, .pointer none] 91)).alloc (.cells #[.pointer none, .pointer none, .pointer none, .pointer none] 91)))
  have HT := hid hT
  have HC0 := hid (show w.cell? ⟨bx, 0, none⟩ = some v from (cell_of_heap hb 0).trans rfl)
  have HC := hid (HE3.out.cellS HC0.out)
  have HX0 := hid (show (((w.alloc (.cells #[.iface 203 (.pointer (some ⟨bx, 0, none⟩))] 107)).alloc (.cells #[.pointer none, .pointer none, .pointer none, .pointer none] 91)).alloc (.cells #[.pointer none, .pointer none, .pointer none, .pointer none] 91)).heap[w.heap.size]? = some (.cells #[.iface 203 (.pointer (some ⟨bx, 0, none⟩))] 107) from ((((Ext.refl (w.alloc (.cells #[.iface 203 (.pointer (some ⟨bx, 0, none⟩))] 107))).alloc (.cells #[.pointer none, .pointer none, .pointer none, .pointer none] 91)).alloc (.cells #[.pointer none, .pointer none, .pointer none, .pointer none] 91))).block (heap_alloc_new w _))
  have HX1 := hid (show (((w.alloc (.cells #[.iface 203 (.pointer (some ⟨bx, 0, none⟩))] 107)).alloc (.cells #[.pointer none, .pointer none, .pointer none, .pointer none] 91)).alloc (.cells #[.pointer none, .pointer none, .pointer none, .pointer none] 91)).heap[w.heap.size + 1]? = some (.cells #[.pointer none, .pointer none, .pointer none, .pointer none] 91) from ((Ext.refl _).alloc _).block (second_heap w _ _))
  have HX2 := hid (third_heap w (.cells #[.iface 203 (.pointer (some ⟨bx, 0, none⟩))] 107) (.cells #[.pointer none, .pointer none, .pointer none, .pointer none] 91) (.cells #[.pointer none, .pointer none, .pointer none, .pointer none] 91))
  clear hb hT
  go_enter Try.func125, Try.ntmps125
  go_upto_region 4 with fail
  generalize (((w.alloc (.cells #[.iface 203 (.pointer (some ⟨bx, 0, none⟩))] 107)).alloc (.cells #[.pointer none, .pointer none, .pointer none, .pointer none] 91)).alloc (.cells #[.pointer none, .pointer none, .pointer none, .pointer none] 91)) = w3 at *
  have HE := hid (Ext.refl w3)
  have hc := HC.out
  have z := (cell_of_heap HX0.out 0).trans rfl
  obtain ⟨⟨r0, r1, r2, r3⟩, f0, f1, f2, f3⟩ := slot4f HX1.out
  obtain ⟨⟨p0, p1, p2, p3⟩, g0, g1, g2, g3⟩ := slot4f HX2.out
  go_wp2_with (first
    | (go_at_call 187; refine (is_IsMap Any t v _ (HT.out.ext (HE3.out.trans HE.out))).mono ?_; rintro e wn ⟨rfl, hE⟩; replace HE := hid (HE.out.trans hE); clear hE; clear hc z r0 r1 r2 r3 f0 f1 f2 f3 p0 p1 p2 p3 g0 g1 g2 g3; have hc := HE.out.cellS HC.out; have z := (cell_of_heap (HE.out.block HX0.out) 0).trans rfl; obtain ⟨⟨r0, r1, r2, r3⟩, f0, f1, f2, f3⟩ := slot4f (HE.out.block HX1.out); obtain ⟨⟨p0, p1, p2, p3⟩, g0, g1, g2, g3⟩ := slot4f (HE.out.block HX2.out))
    | (go_at_call 186; refine (is_IsList Any t v _ (HT.out.ext (HE3.out.trans HE.out))).mono ?_; rintro e wn ⟨rfl, hE⟩; replace HE := hid (HE.out.trans hE); clear hE; clear hc z r0 r1 r2 r3 f0 f1 f2 f3 p0 p1 p2 p3 g0 g1 g2 g3; have hc := HE.out.cellS HC.out; have z := (cell_of_heap (HE.out.block HX0.out) 0).trans rfl; obtain ⟨⟨r0, r1, r2, r3⟩, f0, f1, f2, f3⟩ := slot4f (HE.out.block HX1.out); obtain ⟨⟨p0, p1, p2, p3⟩, g0, g1, g2, g3⟩ := slot4f (HE.out.block HX2.out))
    | (go_at_call 188; refine (is_IsNull Any t v _ (HT.out.ext (HE3.out.trans HE.out))).mono ?_; rintro e wn ⟨rfl, hE⟩; replace HE := hid (HE.out.trans hE); clear hE; clear hc z r0 r1 r2 r3 f0 f1 f2 f3 p0 p1 p2 p3 g0 g1 g2 g3; have hc := HE.out.cellS HC.out; have z := (cell_of_heap (HE.out.block HX0.out) 0).trans rfl; obtain ⟨⟨r0, r1, r2, r3⟩, f0, f1, f2, f3⟩ := slot4f (HE.out.block HX1.out); obtain ⟨⟨p0, p1, p2, p3⟩, g0, g1, g2, g3⟩ := slot4f (HE.out.block HX2.out)))
  go_region_law (first | (refine step_call _ rfl 123 [_] #[9] rfl (by kernel_rfl) [_] rfl (errNew_any _ _) ?_; rintro e w5 ⟨b5, rfl, hE⟩; refine ⟨_, rfl, ?_⟩; replace HE := hid (HE.out.trans ((Ext.refl _).drew.trans hE)); clear hE; clear hc z r0 r1 r2 r3 f0 f1 f2 f3 p0 p1 p2 p3 g0 g1 g2 g3; have hc := HE.out.cellS HC.out; have z := (cell_of_heap (HE.out.block HX0.out) 0).trans rfl; obtain ⟨⟨r0, r1, r2, r3⟩, f0, f1, f2, f3⟩ := slot4f (HE.out.block HX1.out); obtain ⟨⟨p0, p1, p2, p3⟩, g0, g1, g2, g3⟩ := slot4f (HE.out.block HX2.out)))
  all_goals
    go_wp2_with fail
    have HR1 := hid (HE.out.block HX1.out)
    have HR0 := hid (HE.out.block HX0.out)
    have HEW := hid (HE3.out.trans HE.out)
    change bodyPost _ _ _ _ _ (set4 w5 (w.heap.size + 1) (.pointer none) (.pointer none) (.pointer none) (.pointer none))
    have e5 := set4_heap (show (w5).heap[w.heap.size + 1]? = some (.cells #[.pointer none, .pointer none, .pointer none, .pointer none] 91) from HR1.out) (.pointer none) (.pointer none) (.pointer none) (.pointer none)
    have x5 := hid (show Ext w (set4 w5 (w.heap.size + 1) (.pointer none) (.pointer none) (.pointer none) (.pointer none)) from set4_below HEW.out (Nat.le_succ _) (.pointer none) (.pointer none) (.pointer none) (.pointer none))
    have c5 := hid (show (set4 w5 (w.heap.size + 1) (.pointer none) (.pointer none) (.pointer none) (.pointer none)).heap[w.heap.size]? = some (.cells #[.iface 203 (.pointer (some ⟨bx, 0, none⟩))] 107) from (set4_other (by omega) (.pointer none) (.pointer none) (.pointer none) (.pointer none)).trans HR0.out)
    generalize set4 w5 (w.heap.size + 1) (.pointer none) (.pointer none) (.pointer none) (.pointer none) = WF at *
    obtain ⟨⟨y0, y1, y2, y3⟩, -⟩ := slot4f e5
    refine bodyPost_ret (v := .tuple #[.agg #[.pointer none, .pointer none, .pointer none, .pointer none], .iface 231 (.pointer (some ⟨b5, 0, none⟩))]) (by simp [results, Try.results125, go_sem, y0, y1, y2, y3]) rfl ⟨_, rfl, x5.out⟩
set_option maxHeartbeats 2000000 in
theorem setItem_list (t : Tree) (x : Value) (w : World) (hv : RepVal Any w t x) (hk : kcode t = 5) : Calls Try.prog 125 #[x] w fun e w' => ∃ b, e = .returned (.tuple #[.agg #[.pointer none, .pointer none, .pointer none, .pointer none], .iface 231 (.pointer (some ⟨b, 0, none⟩))]) ∧ Ext w w' := by
  have h6 : (kcode t == 6) = false := by rw [hk]; rfl
  have h5 : (kcode t == 5) = true := by rw [hk]; rfl
  clear hk
  obtain ⟨bx, v, rfl, -, hb, hT⟩ := hv
  have HE3 := hid (((((Ext.refl w).alloc (.cells #[.iface 203 (.pointer (some ⟨bx, 0, none⟩))] 107)).alloc (.cells #[.pointer none, .pointer none, .pointer none, .pointer none] 91)).alloc (.cells #[.pointer none, .pointer none, .pointer none, .pointer none] 91)))
  have HT := hid hT
  have HC0 := hid (show w.cell? ⟨bx, 0, none⟩ = some v from (cell_of_heap hb 0).trans rfl)
  have HC := hid (HE3.out.cellS HC0.out)
  have HX0 := hid (show (((w.alloc (.cells #[.iface 203 (.pointer (some ⟨bx, 0, none⟩))] 107)).alloc (.cells #[.pointer none, .pointer none, .pointer none, .pointer none] 91)).alloc (.cells #[.pointer none, .pointer none, .pointer none, .pointer none] 91)).heap[w.heap.size]? = some (.cells #[.iface 203 (.pointer (some ⟨bx, 0, none⟩))] 107) from ((((Ext.refl (w.alloc (.cells #[.iface 203 (.pointer (some ⟨bx, 0, none⟩))] 107))).alloc (.cells #[.pointer none, .pointer none, .pointer none, .pointer none] 91)).alloc (.cells #[.pointer none, .pointer none, .pointer none, .pointer none] 91))).block (heap_alloc_new w _))
  have HX1 := hid (show (((w.alloc (.cells #[.iface 203 (.pointer (some ⟨bx, 0, none⟩))] 107)).alloc (.cells #[.pointer none, .pointer none, .pointer none, .pointer none] 91)).alloc (.cells #[.pointer none, .pointer none, .pointer none, .pointer none] 91)).heap[w.heap.size + 1]? = some (.cells #[.pointer none, .pointer none, .pointer none, .pointer none] 91) from ((Ext.refl _).alloc _).block (second_heap w _ _))
  have HX2 := hid (third_heap w (.cells #[.iface 203 (.pointer (some ⟨bx, 0, none⟩))] 107) (.cells #[.pointer none, .pointer none, .pointer none, .pointer none] 91) (.cells #[.pointer none, .pointer none, .pointer none, .pointer none] 91))
  clear hb hT
  go_enter Try.func125, Try.ntmps125
  go_upto_region 4 with fail
  generalize (((w.alloc (.cells #[.iface 203 (.pointer (some ⟨bx, 0, none⟩))] 107)).alloc (.cells #[.pointer none, .pointer none, .pointer none, .pointer none] 91)).alloc (.cells #[.pointer none, .pointer none, .pointer none, .pointer none] 91)) = w3 at *
  have HE := hid (Ext.refl w3)
  have hc := HC.out
  have z := (cell_of_heap HX0.out 0).trans rfl
  obtain ⟨⟨r0, r1, r2, r3⟩, f0, f1, f2, f3⟩ := slot4f HX1.out
  obtain ⟨⟨p0, p1, p2, p3⟩, g0, g1, g2, g3⟩ := slot4f HX2.out
  go_wp2_with (first
    | (go_at_call 187; refine (is_IsMap Any t v _ (HT.out.ext (HE3.out.trans HE.out))).mono ?_; rintro e wn ⟨rfl, hE⟩; replace HE := hid (HE.out.trans hE); clear hE; clear hc z r0 r1 r2 r3 f0 f1 f2 f3 p0 p1 p2 p3 g0 g1 g2 g3; have hc := HE.out.cellS HC.out; have z := (cell_of_heap (HE.out.block HX0.out) 0).trans rfl; obtain ⟨⟨r0, r1, r2, r3⟩, f0, f1, f2, f3⟩ := slot4f (HE.out.block HX1.out); obtain ⟨⟨p0, p1, p2, p3⟩, g0, g1, g2, g3⟩ := slot4f (HE.out.block HX2.out))
    | (go_at_call 186; refine (is_IsList Any t v _ (HT.out.ext (HE3.out.trans HE.out))).mono ?_; rintro e wn ⟨rfl, hE⟩; replace HE := hid (HE.out.trans hE); clear hE; clear hc z r0 r1 r2 r3 f0 f1 f2 f3 p0 p1 p2 p3 g0 g1 g2 g3; have hc := HE.out.cellS HC.out; have z := (cell_of_heap (HE.out.block HX0.out) 0).trans rfl; obtain ⟨⟨r0, r1, r2, r3⟩, f0, f1, f2, f3⟩ := slot4f (HE.out.block HX1.out); obtain ⟨⟨p0, p1, p2, p3⟩, g0, g1, g2, g3⟩ := slot4f (HE.out.block HX2.out))
    | (go_at_call 188; refine (is_IsNull Any t v _ (HT.out.ext (HE3.out.trans HE.out))).mono ?_; rintro e wn ⟨rfl, hE⟩; replace HE := hid (HE.out.trans hE); clear hE; clear hc z r0 r1 r2 r3 f0 f1 f2 f3 p0 p1 p2 p3 g0 g1 g2 g3; have hc := HE.out.cellS HC.out; have z := (cell_of_heap (HE.out.block HX0.out) 0).trans rfl; obtain ⟨⟨r0, r1, r2, r3⟩, f0, f1, f2, f3⟩ := slot4f (HE.out.block HX1.out); obtain ⟨⟨p0, p1, p2, p3⟩, g0, g1, g2, g3⟩ := slot4f (HE.out.block HX2.out)))
  go_region_law (first | (refine step_call _ rfl 123 [_] #[9] rfl (by kernel_rfl) [_] rfl (errNew_any _ _) ?_; rintro e w5 ⟨b5, rfl, hE⟩; refine ⟨_, rfl, ?_⟩; replace HE := hid (HE.out.trans ((Ext.refl _).drew.trans hE)); clear hE; clear hc z r0 r1 r2 r3 f0 f1 f2 f3 p0 p1 p2 p3 g0 g1 g2 g3; have hc := HE.out.cellS HC.out; have z := (cell_of_heap (HE.out.block HX0.out) 0).trans rfl; obtain ⟨⟨r0, r1, r2, r3⟩, f0, f1, f2, f3⟩ := slot4f (HE.out.block HX1.out); obtain ⟨⟨p0, p1, p2, p3⟩, g0, g1, g2, g3⟩ := slot4f (HE.out.block HX2.out)))
  all_goals
    go_wp2_with fail
    have HR1 := hid (HE.out.block HX1.out)
    have HR0 := hid (HE.out.block HX0.out)
    have HEW := hid (HE3.out.trans HE.out)
    change bodyPost _ _ _ _ _ (set4 w5 (w.heap.size + 1) (.pointer none) (.pointer none) (.pointer none) (.pointer none))
    have e5 := set4_heap (show (w5).heap[w.heap.size + 1]? = some (.cells #[.pointer none, .pointer none, .pointer none, .pointer none] 91) from HR1.out) (.pointer none) (.pointer none) (.pointer none) (.pointer none)
    have x5 := hid (show Ext w (set4 w5 (w.heap.size + 1) (.pointer none) (.pointer none) (.pointer none) (.pointer none)) from set4_below HEW.out (Nat.le_succ _) (.pointer none) (.pointer none) (.pointer none) (.pointer none))
    have c5 := hid (show (set4 w5 (w.heap.size + 1) (.pointer none) (.pointer none) (.pointer none) (.pointer none)).heap[w.heap.size]? = some (.cells #[.iface 203 (.pointer (some ⟨bx, 0, none⟩))] 107) from (set4_other (by omega) (.pointer none) (.pointer none) (.pointer none) (.pointer none)).trans HR0.out)
    generalize set4 w5 (w.heap.size + 1) (.pointer none) (.pointer none) (.pointer none) (.pointer none) = WF at *
    obtain ⟨⟨y0, y1, y2, y3⟩, -⟩ := slot4f e5
    refine bodyPost_ret (v := .tuple #[.agg #[.pointer none, .pointer none, .pointer none, .pointer none], .iface 231 (.pointer (some ⟨b5, 0, none⟩))]) (by simp [results, Try.results125, go_sem, y0, y1, y2, y3]) rfl ⟨_, rfl, x5.out⟩
set_option maxHeartbeats 2000000 in
theorem setItem_null (t : Tree) (x : Value) (w : World) (hv : RepVal Any w t x) (hk : kcode t = 0) : Calls Try.prog 125 #[x] w fun e w' => ∃ b, e = .returned (.tuple #[.agg #[.pointer none, .pointer none, .pointer none, .pointer none], .iface 231 (.pointer (some ⟨b, 0, none⟩))]) ∧ Ext w w' := by
  have h6 : (kcode t == 6) = false := by rw [hk]; rfl
  have h5 : (kcode t == 5) = false := by rw [hk]; rfl
  have h0 : (kcode t == 0) = true := by rw [hk]; rfl
  clear hk
  obtain ⟨bx, v, rfl, -, hb, hT⟩ := hv
  have HE3 := hid (((((Ext.refl w).alloc (.cells #[.iface 203 (.pointer (some ⟨bx, 0, none⟩))] 107)).alloc (.cells #[.pointer none, .pointer none, .pointer none, .pointer none] 91)).alloc (.cells #[.pointer none, .pointer none, .pointer none, .pointer none] 91)))
  have HT := hid hT
  have HC0 := hid (show w.cell? ⟨bx, 0, none⟩ = some v from (cell_of_heap hb 0).trans rfl)
  have HC := hid (HE3.out.cellS HC0.out)
  have HX0 := hid (show (((w.alloc (.cells #[.iface 203 (.pointer (some ⟨bx, 0, none⟩))] 107)).alloc (.cells #[.pointer none, .pointer none, .pointer none, .pointer none] 91)).alloc (.cells #[.pointer none, .pointer none, .pointer none, .pointer none] 91)).heap[w.heap.size]? = some (.cells #[.iface 203 (.pointer (some ⟨bx, 0, none⟩))] 107) from ((((Ext.refl (w.alloc (.cells #[.iface 203 (.pointer (some ⟨bx, 0, none⟩))] 107))).alloc (.cells #[.pointer none, .pointer none, .pointer none, .pointer none] 91)).alloc (.cells #[.pointer none, .pointer none, .pointer none, .pointer none] 91))).block (heap_alloc_new w _))
  have HX1 := hid (show (((w.alloc (.cells #[.iface 203 (.pointer (some ⟨bx, 0, none⟩))] 107)).alloc (.cells #[.pointer none, .pointer none, .pointer none, .pointer none] 91)).alloc (.cells #[.pointer none, .pointer none, .pointer none, .pointer none] 91)).heap[w.heap.size + 1]? = some (.cells #[.pointer none, .pointer none, .pointer none, .pointer none] 91) from ((Ext.refl _).alloc _).block (second_heap w _ _))
  have HX2 := hid (third_heap w (.cells #[.iface 203 (.pointer (some ⟨bx, 0, none⟩))] 107) (.cells #[.pointer none, .pointer none, .pointer none, .pointer none] 91) (.cells #[.pointer none, .pointer none, .pointer none, .pointer none] 91))
  clear hb hT
  go_enter Try.func125, Try.ntmps125
  go_upto_region 4 with fail
  generalize (((w.alloc (.cells #[.iface 203 (.pointer (some ⟨bx, 0, none⟩))] 107)).alloc (.cells #[.pointer none, .pointer none, .pointer none, .pointer none] 91)).alloc (.cells #[.pointer none, .pointer none, .pointer none, .pointer none] 91)) = w3 at *
  have HE := hid (Ext.refl w3)
  have hc := HC.out
  have z := (cell_of_heap HX0.out 0).trans rfl
  obtain ⟨⟨r0, r1, r2, r3⟩, f0, f1, f2, f3⟩ := slot4f HX1.out
  obtain ⟨⟨p0, p1, p2, p3⟩, g0, g1, g2, g3⟩ := slot4f HX2.out
  go_wp2_with (first
    | (go_at_call 187; refine (is_IsMap Any t v _ (HT.out.ext (HE3.out.trans HE.out))).mono ?_; rintro e wn ⟨rfl, hE⟩; replace HE := hid (HE.out.trans hE); clear hE; clear hc z r0 r1 r2 r3 f0 f1 f2 f3 p0 p1 p2 p3 g0 g1 g2 g3; have hc := HE.out.cellS HC.out; have z := (cell_of_heap (HE.out.block HX0.out) 0).trans rfl; obtain ⟨⟨r0, r1, r2, r3⟩, f0, f1, f2, f3⟩ := slot4f (HE.out.block HX1.out); obtain ⟨⟨p0, p1, p2, p3⟩, g0, g1, g2, g3⟩ := slot4f (HE.out.block HX2.out))
    | (go_at_call 186; refine (is_IsList Any t v _ (HT.out.ext (HE3.out.trans HE.out))).mono ?_; rintro e wn ⟨rfl, hE⟩; replace HE := hid (HE.out.trans hE); clear hE; clear hc z r0 r1 r2 r3 f0 f1 f2 f3 p0 p1 p2 p3 g0 g1 g2 g3; have hc := HE.out.cellS HC.out; have z := (cell_of_heap (HE.out.block HX0.out) 0).trans rfl; obtain ⟨⟨r0, r1, r2, r3⟩, f0, f1, f2, f3⟩ := slot4f (HE.out.block HX1.out); obtain ⟨⟨p0, p1, p2, p3⟩, g0, g1, g2, g3⟩ := slot4f (HE.out.block HX2.out))
    | (go_at_call 188; refine (is_IsNull Any t v _ (HT.out.ext (HE3.out.trans HE.out))).mono ?_; rintro e wn ⟨rfl, hE⟩; replace HE := hid (HE.out.trans hE); clear hE; clear hc z r0 r1 r2 r3 f0 f1 f2 f3 p0 p1 p2 p3 g0 g1 g2 g3; have hc := HE.out.cellS HC.out; have z := (cell_of_heap (HE.out.block HX0.out) 0).trans rfl; obtain ⟨⟨r0, r1, r2, r3⟩, f0, f1, f2, f3⟩ := slot4f (HE.out.block HX1.out); obtain ⟨⟨p0, p1, p2, p3⟩, g0, g1, g2, g3⟩ := slot4f (HE.out.block HX2.out)))
  go_region_law (first | (refine step_call _ rfl 123 [_] #[9] rfl (by kernel_rfl) [_] rfl (errNew_any _ _) ?_; rintro e w5 ⟨b5, rfl, hE⟩; refine ⟨_, rfl, ?_⟩; replace HE := hid (HE.out.trans ((Ext.refl _).drew.trans hE)); clear hE; clear hc z r0 r1 r2 r3 f0 f1 f2 f3 p0 p1 p2 p3 g0 g1 g2 g3; have hc := HE.out.cellS HC.out; have z := (cell_of_heap (HE.out.block HX0.out) 0).trans rfl; obtain ⟨⟨r0, r1, r2, r3⟩, f0, f1, f2, f3⟩ := slot4f (HE.out.block HX1.out); obtain ⟨⟨p0, p1, p2, p3⟩, g0, g1, g2, g3⟩ := slot4f (HE.out.block HX2.out)))
  all_goals
    go_wp2_with fail
    have HR1 := hid (HE.out.block HX1.out)
    have HR0 := hid (HE.out.block HX0.out)
    have HEW := hid (HE3.out.trans HE.out)
    change bodyPost _ _ _ _ _ (set4 w5 (w.heap.size + 1) (.pointer none) (.pointer none) (.pointer none) (.pointer none))
    have e5 := set4_heap (show (w5).heap[w.heap.size + 1]? = some (.cells #[.pointer none, .pointer none, .pointer none, .pointer none] 91) from HR1.out) (.pointer none) (.pointer none) (.pointer none) (.pointer none)
    have x5 := hid (show Ext w (set4 w5 (w.heap.size + 1) (.pointer none) (.pointer none) (.pointer none) (.pointer none)) from set4_below HEW.out (Nat.le_succ _) (.pointer none) (.pointer none) (.pointer none) (.pointer none))
    have c5 := hid (show (set4 w5 (w.heap.size + 1) (.pointer none) (.pointer none) (.pointer none) (.pointer none)).heap[w.heap.size]? = some (.cells #[.iface 203 (.pointer (some ⟨bx, 0, none⟩))] 107) from (set4_other (by omega) (.pointer none) (.pointer none) (.pointer none) (.pointer none)).trans HR0.out)
    generalize set4 w5 (w.heap.size + 1) (.pointer none) (.pointer none) (.pointer none) (.pointer none) = WF at *
    obtain ⟨⟨y0, y1, y2, y3⟩, -⟩ := slot4f e5
    refine bodyPost_ret (v := .tuple #[.agg #[.pointer none, .pointer none, .pointer none, .pointer none], .iface 231 (.pointer (some ⟨b5, 0, none⟩))]) (by simp [results, Try.results125, go_sem, y0, y1, y2, y3]) rfl ⟨_, rfl, x5.out⟩
set_option maxHeartbeats 2000000 in
theorem setItem_ok (t : Tree) (x : Value) (w : World) (hv : RepVal Any w t x) (h6 : (kcode t == 6) = false) (h5 : (kcode t == 5) = false) (h0 : (kcode t == 0) = false) : Calls Try.prog 125 #[x] w fun e w' => e = .returned (.tuple #[.agg #[.pointer none, .pointer none, .pointer (some ⟨w.heap.size, 0, none⟩), .pointer none], .nilIface]) ∧ w'.cell? ⟨w.heap.size, 0, none⟩ = some x ∧ Ext w w' := by
  obtain ⟨bx, v, rfl, -, hb, hT⟩ := hv
  have HE3 := hid (((((Ext.refl w).alloc (.cells #[.iface 203 (.pointer (some ⟨bx, 0, none⟩))] 107)).alloc (.cells #[.pointer none, .pointer none, .pointer none, .pointer none] 91)).alloc (.cells #[.pointer none, .pointer none, .pointer none, .pointer none] 91)))
  have HT := hid hT
  have HC0 := hid (show w.cell? ⟨bx, 0, none⟩ = some v from (cell_of_heap hb 0).trans rfl)
  have HC := hid (HE3.out.cellS HC0.out)
  have HX0 := hid (show (((w.alloc (.cells #[.iface 203 (.pointer (some ⟨bx, 0, none⟩))] 107)).alloc (.cells #[.pointer none, .pointer none, .pointer none, .pointer none] 91)).alloc (.cells #[.pointer none, .pointer none, .pointer none, .pointer none] 91)).heap[w.heap.size]? = some (.cells #[.iface 203 (.pointer (some ⟨bx, 0, none⟩))] 107) from ((((Ext.refl (w.alloc (.cells #[.iface 203 (.pointer (some ⟨bx, 0, none⟩))] 107))).alloc (.cells #[.pointer none, .pointer none, .pointer none, .pointer none] 91)).alloc (.cells #[.pointer none, .pointer none, .pointer none, .pointer none] 91))).block (heap_alloc_new w _))
  have HX1 := hid (show (((w.alloc (.cells #[.iface 203 (.pointer (some ⟨bx, 0, none⟩))] 107)).alloc (.cells #[.pointer none, .pointer none, .pointer none, .pointer none] 91)).alloc (.cells #[.pointer none, .pointer none, .pointer none, .pointer none] 91)).heap[w.heap.size + 1]? = some (.cells #[.pointer none, .pointer none, .pointer none, .pointer none] 91) from ((Ext.refl _).alloc _).block (second_heap w _ _))
  have HX2 := hid (third_heap w (.cells #[.iface 203 (.pointer (some ⟨bx, 0, none⟩))] 107) (.cells #[.pointer none, .pointer none, .pointer none, .pointer none] 91) (.cells #[.pointer none, .pointer none, .pointer none, .pointer none] 91))
  clear hb hT
  go_enter Try.func125, Try.ntmps125
  go_upto_region 4 with fail
  generalize (((w.alloc (.cells #[.iface 203 (.pointer (some ⟨bx, 0, none⟩))] 107)).alloc (.cells #[.pointer none, .pointer none, .pointer none, .pointer none] 91)).alloc (.cells #[.pointer none, .pointer none, .pointer none, .pointer none] 91)) = w3 at *
  have HE := hid (Ext.refl w3)
  have hc := HC.out
  have z := (cell_of_heap HX0.out 0).trans rfl
  obtain ⟨⟨r0, r1, r2, r3⟩, f0, f1, f2, f3⟩ := slot4f HX1.out
  obtain ⟨⟨p0, p1, p2, p3⟩, g0, g1, g2, g3⟩ := slot4f HX2.out
  go_wp2_with (first
    | (go_at_call 187; refine (is_IsMap Any t v _ (HT.out.ext (HE3.out.trans HE.out))).mono ?_; rintro e wn ⟨rfl, hE⟩; replace HE := hid (HE.out.trans hE); clear hE; clear hc z r0 r1 r2 r3 f0 f1 f2 f3 p0 p1 p2 p3 g0 g1 g2 g3; have hc := HE.out.cellS HC.out; have z := (cell_of_heap (HE.out.block HX0.out) 0).trans rfl; obtain ⟨⟨r0, r1, r2, r3⟩, f0, f1, f2, f3⟩ := slot4f (HE.out.block HX1.out); obtain ⟨⟨p0, p1, p2, p3⟩, g0, g1, g2, g3⟩ := slot4f (HE.out.block HX2.out))
    | (go_at_call 186; refine (is_IsList Any t v _ (HT.out.ext (HE3.out.trans HE.out))).mono ?_; rintro e wn ⟨rfl, hE⟩; replace HE := hid (HE.out.trans hE); clear hE; clear hc z r0 r1 r2 r3 f0 f1 f2 f3 p0 p1 p2 p3 g0 g1 g2 g3; have hc := HE.out.cellS HC.out; have z := (cell_of_heap (HE.out.block HX0.out) 0).trans rfl; obtain ⟨⟨r0, r1, r2, r3⟩, f0, f1, f2, f3⟩ := slot4f (HE.out.block HX1.out); obtain ⟨⟨p0, p1, p2, p3⟩, g0, g1, g2, g3⟩ := slot4f (HE.out.block HX2.out))
    | (go_at_call 188; refine (is_IsNull Any t v _ (HT.out.ext (HE3.out.trans HE.out))).mono ?_; rintro e wn ⟨rfl, hE⟩; replace HE := hid (HE.out.trans hE); clear hE; clear hc z r0 r1 r2 r3 f0 f1 f2 f3 p0 p1 p2 p3 g0 g1 g2 g3; have hc := HE.out.cellS HC.out; have z := (cell_of_heap (HE.out.block HX0.out) 0).trans rfl; obtain ⟨⟨r0, r1, r2, r3⟩, f0, f1, f2, f3⟩ := slot4f (HE.out.block HX1.out); obtain ⟨⟨p0, p1, p2, p3⟩, g0, g1, g2, g3⟩ := slot4f (HE.out.block HX2.out)))
  have HR1 := hid ((Below.heap_setCell wn ⟨w.heap.size + 1 + 1, 2, none⟩ (.pointer (some ⟨w.heap.size, 0, none⟩)) (w.heap.size + 1) (by show w.heap.size + 1 ≠ w.heap.size + 1 + 1; omega)).trans (HE.out.block HX1.out))
  have HR0 := hid ((Below.heap_setCell wn ⟨w.heap.size + 1 + 1, 2, none⟩ (.pointer (some ⟨w.heap.size, 0, none⟩)) (w.heap.size) (by show w.heap.size ≠ w.heap.size + 1 + 1; omega)).trans (HE.out.block HX0.out))
  have HEW := hid (show Ext w (wn.setCell ⟨w.heap.size + 1 + 1, 2, none⟩ (.pointer (some ⟨w.heap.size, 0, none⟩))) from Below.setCell (HE3.out.trans HE.out) (by show w.heap.size ≤ w.heap.size + 1 + 1; omega) _)
  change bodyPost _ _ _ _ _ (set4 (wn.setCell ⟨w.heap.size + 1 + 1, 2, none⟩ (.pointer (some ⟨w.heap.size, 0, none⟩))) (w.heap.size + 1) (.pointer none) (.pointer none) (.pointer (some ⟨w.heap.size, 0, none⟩)) (.pointer none))
  have e5 := set4_heap (show ((wn.setCell ⟨w.heap.size + 1 + 1, 2, none⟩ (.pointer (some ⟨w.heap.size, 0, none⟩)))).heap[w.heap.size + 1]? = some (.cells #[.pointer none, .pointer none, .pointer none, .pointer none] 91) from HR1.out) (.pointer none) (.pointer none) (.pointer (some ⟨w.heap.size, 0, none⟩)) (.pointer none)
  have x5 := hid (show Ext w (set4 (wn.setCell ⟨w.heap.size + 1 + 1, 2, none⟩ (.pointer (some ⟨w.heap.size, 0, none⟩))) (w.heap.size + 1) (.pointer none) (.pointer none) (.pointer (some ⟨w.heap.size, 0, none⟩)) (.pointer none)) from set4_below HEW.out (Nat.le_succ _) (.pointer none) (.pointer none) (.pointer (some ⟨w.heap.size, 0, none⟩)) (.pointer none))
  have c5 := hid (show (set4 (wn.setCell ⟨w.heap.size + 1 + 1, 2, none⟩ (.pointer (some ⟨w.heap.size, 0, none⟩))) (w.heap.size + 1) (.pointer none) (.pointer none) (.pointer (some ⟨w.heap.size, 0, none⟩)) (.pointer none)).heap[w.heap.size]? = some (.cells #[.iface 203 (.pointer (some ⟨bx, 0, none⟩))] 107) from (set4_other (by omega) (.pointer none) (.pointer none) (.pointer (some ⟨w.heap.size, 0, none⟩)) (.pointer none)).trans HR0.out)
  generalize set4 (wn.setCell ⟨w.heap.size + 1 + 1, 2, none⟩ (.pointer (some ⟨w.heap.size, 0, none⟩))) (w.heap.size + 1) (.pointer none) (.pointer none) (.pointer (some ⟨w.heap.size, 0, none⟩)) (.pointer none) = WF at *
  obtain ⟨⟨y0, y1, y2, y3⟩, -⟩ := slot4f e5
  refine bodyPost_ret (v := .tuple #[.agg #[.pointer none, .pointer none, .pointer (some ⟨w.heap.size, 0, none⟩), .pointer none], .nilIface]) (by simp [results, Try.results125, go_sem, y0, y1, y2, y3]) rfl ⟨rfl, (cell_of_heap c5.out 0).trans rfl, x5.out⟩
end Go.Proofs.Ytempfaefopfobaa
