/- FnStringsAsValues: two strings compare as values byte by byte, a beginning of a string comes before it, and they are equal exactly if they are the same bytes; for every input. -/
import Derived.Test.YtoodkpaebbopnaaCmpOf
import Derived.ChangeMaps5
import Derived.Deep.Cut
namespace Go.Proofs.Ytoodkpaebbopnaa.fnStrings
open Go.ChangeShapes Go.WideShapes Go.ChangeAt Go.RowKit
set_option linter.unusedSimpArgs false
set_option linter.unusedVariables false

def textG (s : ByteArray) : GV := .mk 4 0 0 s [] []
theorem repText (s : ByteArray) (h : s.size ≤ 140737488351232) (w : World) : RepGV Any w (textG s) [.int .i64 4, .int .i64 0, .float .f64 0, .string s, .slice none 0 0, .slice none 0 0] :=
  .mk (l := []) (keys := []) (la := none) (lb := 0) (lo := 0) (lc := 0) (by decide) (by decide) (by decide) h ⟨none, 0, 0, 0, rfl, by simp, by simp, by simp, by simp, by simp⟩ (by simp) (by simp) (by simp) (by simp) (fun i g cs h => by simp at h)
set_option maxRecDepth 100000 in
theorem textValue_any (s : ByteArray) (w : World) : Calls Try.prog 18 #[.string s] w fun e w' => e = .returned (.agg #[.int .i64 4, .int .i64 0, .float .f64 0, .string s, .slice none 0 0, .slice none 0 0]) ∧ Ext w w' := by
  go_enter Try.func18, Try.ntmps18
  go_wp2_with fail
  exact bodyPost_ret (v := .agg #[.int .i64 4, .int .i64 0, .float .f64 0, .string s, .slice none 0 0, .slice none 0 0]) (by simp [results, Try.results18, go_sem]) rfl ⟨rfl, (Ext.refl _).alloc _⟩

/-- the order's three cases -/
theorem three (a b : ByteArray) : (scmp a b = -1 ∧ Op.bytesLess a.toList b.toList = true ∧ Op.bytesLess b.toList a.toList = false ∧ (a.toList == b.toList) = false) ∨ (scmp a b = 0 ∧ Op.bytesLess a.toList b.toList = false ∧ Op.bytesLess b.toList a.toList = false ∧ (a.toList == b.toList) = true) ∨
    (scmp a b = 1 ∧ Op.bytesLess a.toList b.toList = false ∧ Op.bytesLess b.toList a.toList = true ∧ (a.toList == b.toList) = false) := by
  rcases blt_tri a b with h | rfl | h
  · refine .inl ⟨(scmp_lt h).1, h, blt_asymm h, ?_⟩
    rw [ba_toList_beq]; exact decide_eq_false (blt_ne h)
  · exact .inr (.inl ⟨scmp_refl a, blt_irrefl a, blt_irrefl a, by simp⟩)
  · refine .inr (.inr ⟨(scmp_lt h).2, blt_asymm h, h, ?_⟩)
    rw [ba_toList_beq]; exact decide_eq_false (fun e => blt_ne h e.symm)

set_option maxRecDepth 100000 in
set_option maxHeartbeats 2000000 in
theorem law_of (a b : ByteArray) (z : Int) (l g q : Bool) (w : World) (ha : a.size ≤ 140737488351232) (hb : b.size ≤ 140737488351232) (hz : scmp a b = z) (hl : Op.bytesLess a.toList b.toList = l) (hg : Op.bytesLess b.toList a.toList = g) (hq : (a.toList == b.toList) = q)
    (hzl : decide (z < 0) = l) (hzg : decide (0 < z) = g) (hgl : (!l && !q) = g) :
    Calls Try.prog 4 #[.string a, .string b] w fun e w' => e = .returned (.bool true) ∧ Ext w w' := by
  have H1 := hid (fun W x y hx hy => CompareValues_of (textG a) (textG b) z (by rw [← hz]; exact cmpu_str a b) W x y hx hy)
  have H2 := hid (fun W x y hx hy => EqualValues_of (textG a) (textG b) q (by rw [← hq]; exact equ_str a b) W x y hx hy)
  have H3 := hid (show a.size ≤ 2147483647 → ∀ W, Calls Try.prog 20 #[.string a, .string b] W fun e w' => e = .returned (.int .i64 z) ∧ Ext W w' from fun h W => by rw [← hz]; exact specStr_any a b W h)
  have RA := hid (repText a ha)
  have RB := hid (repText b hb)
  have HL := hid hl
  have HG := hid hg
  have HQ := hid hq
  have HZL := hid hzl
  have HZG := hid hzg
  have HGL := hid hgl
  clear hz hl hg hq hzl hzg hgl ha hb
  go_enter Try.func4, Try.ntmps4
  by_cases h1 : a.size > 2147483647
  · go_wp2_with fail
    go_ret
    exact ⟨rfl, Ext.refl _⟩
  · by_cases h2 : b.size > 2147483647
    · go_wp2_with fail
      go_ret
      exact ⟨rfl, Ext.refl _⟩
    · have hsa : a.size ≤ 2147483647 := by omega
      go_upto_region 5 with (first
        | (go_at_call_of 18 a; refine (textValue_any a _).mono ?_; rintro e w2 ⟨rfl, hE⟩; have HE2 := hid hE; clear hE)
        | (go_at_call_of 18 b; refine (textValue_any b _).mono ?_; rintro e w3 ⟨rfl, hE⟩; have HE3 := hid (HE2.out.trans hE); clear hE)
        | (go_at_call 19; refine (H1.out _ _ _ (RA.out _) (RB.out _)).mono ?_; rintro e w4 ⟨rfl, hE⟩; have HE4 := hid (((HE3.out.alloc _).alloc _).trans hE); have X1 := hid (hE.block (((Ext.refl _).alloc _).block (heap_alloc_new w3 _))); have x2 := hE.block (heap_alloc_new (w3.alloc _) _); rw [show ∀ o : Obj, (w3.alloc o).heap.size = w3.heap.size + 1 from fun o => by simp] at x2; have X2 := hid x2; clear hE x2))
      have hl := HL.out
      have hg := HG.out
      have hq := HQ.out
      have hzl := HZL.out
      have hzg := HZG.out
      have hgl := HGL.out
      go_wp2_with (first
        | (go_at_call 20; refine (H3.out hsa _).mono ?_; rintro e w5 ⟨rfl, hE⟩; have HE5 := hid (HE4.out.trans hE); obtain ⟨⟨z0, z1, z2, z3, z4, z5⟩, -⟩ := slot6 (hE.block X1.out); obtain ⟨⟨y0, y1, y2, y3, y4, y5⟩, -⟩ := slot6 (hE.block X2.out); clear hE)
        | (go_at_call 21; refine (H2.out _ _ _ (RA.out _) (RB.out _)).mono ?_; rintro e w6 ⟨rfl, hE⟩; have HE6 := hid (HE5.out.trans hE); clear hE))
      all_goals go_ret
      all_goals first | exact ⟨by simp [hl, hg, hq, hzl, hzg], HE6.out⟩ | exact ⟨rfl, HE6.out⟩

theorem walk (a b : ByteArray) (w : World) (ha : a.size ≤ 140737488351232) (hb : b.size ≤ 140737488351232) :
    Calls Try.prog 4 #[.string a, .string b] w fun e w' => e = .returned (.bool true) ∧ Ext w w' := by
  rcases three a b with ⟨h1, h2, h3, h4⟩ | ⟨h1, h2, h3, h4⟩ | ⟨h1, h2, h3, h4⟩
  · exact law_of a b _ _ _ _ w ha hb h1 h2 h3 h4 (by decide) (by decide) (by decide)
  · exact law_of a b _ _ _ _ w ha hb h1 h2 h3 h4 (by decide) (by decide) (by decide)
  · exact law_of a b _ _ _ _ w ha hb h1 h2 h3 h4 (by decide) (by decide) (by decide)

theorem own : ownKnob Try.prog.godebug = none := by kernel_rfl
set_option maxRecDepth 100000 in
theorem lifted (os : Os) (started : os.Started) (H : Type) (enc : TypeId × Value → H) :
    ReturnsInHanded {} Try.checked os 4 .any (Rows.fnStringsAsValuesSpec.pre6 enc Try.prog Try.f4 Rows.fnStringsAsValuesRow.domain false) (Rows.fnStringsAsValuesSpec.post enc Try.prog Try.f4 false true false false) := by
  refine law_lifted (C := Try.checked) own started (by kernel_rfl) Try.func4 (by kernel_rfl)
    (fun t ht => by rw [Try.params4] at ht; simp at ht; subst ht; exact ⟨by kernel_rfl, of_decide_eq_true (by kernel_rfl)⟩) (by kernel_rfl) rfl
    (fun ds hl => by rw [Try.params4] at hl; match ds, hl with | [d1, d2], _ => exact ⟨rfl, rfl, rfl⟩)
    (ChangeSpec.witness6 (enc := enc) (C := Try.checked) false ⟨#[], #[.string ⟨#[]⟩, .string ⟨#[]⟩], []⟩ 8 (by kernel_rfl) (by kernel_rfl) (by kernel_rfl) (by kernel_rfl)) ?_
  intro W base args ds p hval hA hsz
  rw [Try.params4] at hA hval hsz
  obtain ⟨v0, v1, d0, d1, p0, p1, rfl, rfl, rfl, h0, h1⟩ := trodAll_two hA
  obtain ⟨s0, rfl, _⟩ := Go.ChangeMaps.open_string Try.underlying9 (hval 0 9 v0 rfl rfl) h0
  obtain ⟨s1, rfl, _⟩ := Go.ChangeMaps.open_string Try.underlying9 (hval 1 9 v1 rfl rfl) h1
  have hw : ∀ n ∈ DataW.weightsEach Try.prog [9, 9] [d0, d1], n ≤ 140737488351232 := by
    intro n hn
    exact of_decide_eq_true (List.all_eq_true.1 hsz n hn)
  obtain ⟨fuel, h0⟩ := h0
  obtain ⟨fuel2, h1⟩ := h1
  obtain ⟨s0', e0, hs0⟩ := open_str Try.underlying9 h0 (weightsEach_mem (j := 0) rfl rfl hw)
  obtain ⟨s1', e1, hs1⟩ := open_str Try.underlying9 h1 (weightsEach_mem (j := 1) rfl rfl hw)
  simp only [Value.cells, List.cons.injEq, Value.string.injEq, and_true] at e0 e1
  subst e0 e1
  exact walk s0 s1 W hs0 hs1

theorem over : Rows.fnStringsAsValuesRow.holds Try.pinned (OpenSpec.ofChange Rows.fnStringsAsValuesSpec) :=
  OpenClaim.holds_of_wide 4 Try.f4 rfl rfl rfl rfl rfl rfl rfl ⟨rfl, rfl, rfl, rfl, rfl⟩ rfl rfl rfl rfl rfl (by kernel_rfl) Try.func4 (by kernel_rfl)
    (of_decide_eq_true (by kernel_rfl)) (by unfold Func.isWrapper; first | (rw [if_pos (by decide +kernel)]; kernel_rfl) | (rw [if_neg (by decide +kernel)]; exact ⟨rfl, rfl⟩))
    (fun os started H enc _ => lifted os started H enc)

theorem proved : Rows.FnStringsAsValuesSaid :=
  over
#print axioms proved
end Go.Proofs.Ytoodkpaebbopnaa.fnStrings
