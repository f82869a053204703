/- FnCompareElems: two path elements compare as the reference says; for every input. -/
import Derived.Test.YtoodkpaebbopnaaElemArg
import Derived.Test.YtoodkpaebbopnaaOrdElem
import Derived.ChangeMaps5
namespace Go.Proofs.Ytoodkpaebbopnaa.fnCompE
open Go.ChangeShapes Go.WideShapes Go.ChangeAt Go.RowKit
set_option linter.unusedSimpArgs false
set_option linter.unusedVariables false
set_option maxRecDepth 100000

set_option maxHeartbeats 4000000 in
theorem walk (ea eb : GE) (w : World) (ca cb : List Value) (hA : RepGE Any w ea ca) (hB : RepGE Any w eb cb) :
    Calls Try.prog 10 #[.agg ca.toArray, .agg cb.toArray] w fun e w' => e = .returned (.bool true) ∧ Ext w w' := by
  have HA := hid hA
  have HB := hid hB
  obtain ⟨k, s, a1, n1, c1, a2, n2, c2, v0, v1, v2, v3, v4, v5, n, rfl⟩ := hA.form
  obtain ⟨k', s', a1', n1', c1', a2', n2', c2', v0', v1', v2', v3', v4', v5', n', rfl⟩ := hB.form
  obtain ⟨z, hz⟩ : ∃ z, cmpE (toEl ea) (toEl eb) = z := ⟨_, rfl⟩
  have H1 := hid (fun W x y hx hy => cmpElems_any ea eb W x y hx hy)
  have H2 := hid (fun W x y hx hy => specElems_any ea eb W x y hx hy)
  rw [hz] at H1 H2
  clear hA hB hz
  go_enter Try.func10, Try.ntmps10
  go_upto_region 1 with fail
  obtain ⟨x1, x2, hEE⟩ := boxes2 w (.cells #[.int .i64 k, .string s, .slice a1 n1 c1, .slice a2 n2 c2, v0, v1, v2, v3, v4, v5, .int .i64 n] 51) (.cells #[.int .i64 k', .string s', .slice a1' n1' c1', .slice a2' n2' c2', v0', v1', v2', v3', v4', v5', .int .i64 n'] 51) _ (Below.refl _ _)
  generalize (w.alloc (.cells #[.int .i64 k, .string s, .slice a1 n1 c1, .slice a2 n2 c2, v0, v1, v2, v3, v4, v5, .int .i64 n] 51)).alloc (.cells #[.int .i64 k', .string s', .slice a1' n1' c1', .slice a2' n2' c2', v0', v1', v2', v3', v4', v5', .int .i64 n'] 51) = w1 at *
  have HE1 := hid hEE
  have K := hid (show ∀ w' : World, Ext w1 w' → (fun w' : World => w'.cell? ⟨w.heap.size, 0, none⟩ = some (.int .i64 k) ∧ w'.cell? ⟨w.heap.size, 1, none⟩ = some (.string s) ∧ w'.cell? ⟨w.heap.size, 2, none⟩ = some (.slice a1 n1 c1) ∧ w'.cell? ⟨w.heap.size, 3, none⟩ = some (.slice a2 n2 c2) ∧ w'.cell? ⟨w.heap.size, 4, none⟩ = some (v0) ∧ w'.cell? ⟨w.heap.size, 5, none⟩ = some (v1) ∧ w'.cell? ⟨w.heap.size, 6, none⟩ = some (v2) ∧ w'.cell? ⟨w.heap.size, 7, none⟩ = some (v3) ∧ w'.cell? ⟨w.heap.size, 8, none⟩ = some (v4) ∧ w'.cell? ⟨w.heap.size, 9, none⟩ = some (v5) ∧ w'.cell? ⟨w.heap.size, 10, none⟩ = some (.int .i64 n) ∧ w'.cell? ⟨w.heap.size + 1, 0, none⟩ = some (.int .i64 k') ∧ w'.cell? ⟨w.heap.size + 1, 1, none⟩ = some (.string s') ∧ w'.cell? ⟨w.heap.size + 1, 2, none⟩ = some (.slice a1' n1' c1') ∧ w'.cell? ⟨w.heap.size + 1, 3, none⟩ = some (.slice a2' n2' c2') ∧ w'.cell? ⟨w.heap.size + 1, 4, none⟩ = some (v0') ∧ w'.cell? ⟨w.heap.size + 1, 5, none⟩ = some (v1') ∧ w'.cell? ⟨w.heap.size + 1, 6, none⟩ = some (v2') ∧ w'.cell? ⟨w.heap.size + 1, 7, none⟩ = some (v3') ∧ w'.cell? ⟨w.heap.size + 1, 8, none⟩ = some (v4') ∧ w'.cell? ⟨w.heap.size + 1, 9, none⟩ = some (v5') ∧ w'.cell? ⟨w.heap.size + 1, 10, none⟩ = some (.int .i64 n')) w' from fun w' h => by
    obtain ⟨⟨z0, z1, z2, z3, z4, z5, z6, z7, z8, z9, z10⟩, -⟩ := slot11 (h.block x1)
    obtain ⟨⟨y0, y1, y2, y3, y4, y5, y6, y7, y8, y9, y10⟩, -⟩ := slot11 (h.block x2)
    exact ⟨z0, z1, z2, z3, z4, z5, z6, z7, z8, z9, z10, y0, y1, y2, y3, y4, y5, y6, y7, y8, y9, y10⟩)
  clear x1 x2 hEE
  obtain ⟨z0, z1, z2, z3, z4, z5, z6, z7, z8, z9, z10, y0, y1, y2, y3, y4, y5, y6, y7, y8, y9, y10⟩ := K.out _ (Ext.refl w1)
  go_upto_region 5 with (first
    | (go_at_call_of 38 k; refine (fits13_any ea _ _ (HA.out.ext HE1.out)).mono ?_; rintro e w2 ⟨b, rfl, hE⟩; have HE2 := hid hE; clear z0 z1 z2 z3 z4 z5 z6 z7 z8 z9 z10 y0 y1 y2 y3 y4 y5 y6 y7 y8 y9 y10; obtain ⟨z0, z1, z2, z3, z4, z5, z6, z7, z8, z9, z10, y0, y1, y2, y3, y4, y5, y6, y7, y8, y9, y10⟩ := K.out _ HE2.out; cases b <;> clear hE)
    | (go_at_call_of 38 k'; refine (fits13_any eb _ _ (HB.out.ext (HE1.out.trans HE2.out))).mono ?_; rintro e w3 ⟨b, rfl, hE⟩; have HE3 := hid (HE2.out.trans hE); clear z0 z1 z2 z3 z4 z5 z6 z7 z8 z9 z10 y0 y1 y2 y3 y4 y5 y6 y7 y8 y9 y10; obtain ⟨z0, z1, z2, z3, z4, z5, z6, z7, z8, z9, z10, y0, y1, y2, y3, y4, y5, y6, y7, y8, y9, y10⟩ := K.out _ HE3.out; cases b <;> clear hE)
    | (go_at_call_of 39 k; refine (ordElem_any ea _ _ (HA.out.ext (HE1.out.trans HE3.out))).mono ?_; rintro e w4 ⟨rfl, hE⟩; have HE4 := hid (HE3.out.trans hE); clear z0 z1 z2 z3 z4 z5 z6 z7 z8 z9 z10 y0 y1 y2 y3 y4 y5 y6 y7 y8 y9 y10; obtain ⟨z0, z1, z2, z3, z4, z5, z6, z7, z8, z9, z10, y0, y1, y2, y3, y4, y5, y6, y7, y8, y9, y10⟩ := K.out _ HE4.out; cases ho : ordE ea <;> clear hE ho)
    | (go_at_call_of 39 k'; refine (ordElem_any eb _ _ (HB.out.ext (HE1.out.trans HE4.out))).mono ?_; rintro e w5 ⟨rfl, hE⟩; have HE5 := hid (HE4.out.trans hE); clear z0 z1 z2 z3 z4 z5 z6 z7 z8 z9 z10 y0 y1 y2 y3 y4 y5 y6 y7 y8 y9 y10; obtain ⟨z0, z1, z2, z3, z4, z5, z6, z7, z8, z9, z10, y0, y1, y2, y3, y4, y5, y6, y7, y8, y9, y10⟩ := K.out _ HE5.out; cases ho : ordE eb <;> clear hE ho))
  all_goals first
    | (go_ret; first | exact ⟨rfl, HE1.out.trans HE5.out⟩ | exact ⟨rfl, HE1.out.trans HE4.out⟩ | exact ⟨rfl, HE1.out.trans HE3.out⟩ | exact ⟨rfl, HE1.out.trans HE2.out⟩)
    | skip
  clear z0 z1 z2 z3 z4 z5 z6 z7 z8 z9 z10 y0 y1 y2 y3 y4 y5 y6 y7 y8 y9 y10
  go_region_held3 (fun w' : World => w'.cell? ⟨w.heap.size, 0, none⟩ = some (.int .i64 k) ∧ w'.cell? ⟨w.heap.size, 1, none⟩ = some (.string s) ∧ w'.cell? ⟨w.heap.size, 2, none⟩ = some (.slice a1 n1 c1) ∧ w'.cell? ⟨w.heap.size, 3, none⟩ = some (.slice a2 n2 c2) ∧ w'.cell? ⟨w.heap.size, 4, none⟩ = some (v0) ∧ w'.cell? ⟨w.heap.size, 5, none⟩ = some (v1) ∧ w'.cell? ⟨w.heap.size, 6, none⟩ = some (v2) ∧ w'.cell? ⟨w.heap.size, 7, none⟩ = some (v3) ∧ w'.cell? ⟨w.heap.size, 8, none⟩ = some (v4) ∧ w'.cell? ⟨w.heap.size, 9, none⟩ = some (v5) ∧ w'.cell? ⟨w.heap.size, 10, none⟩ = some (.int .i64 n) ∧ w'.cell? ⟨w.heap.size + 1, 0, none⟩ = some (.int .i64 k') ∧ w'.cell? ⟨w.heap.size + 1, 1, none⟩ = some (.string s') ∧ w'.cell? ⟨w.heap.size + 1, 2, none⟩ = some (.slice a1' n1' c1') ∧ w'.cell? ⟨w.heap.size + 1, 3, none⟩ = some (.slice a2' n2' c2') ∧ w'.cell? ⟨w.heap.size + 1, 4, none⟩ = some (v0') ∧ w'.cell? ⟨w.heap.size + 1, 5, none⟩ = some (v1') ∧ w'.cell? ⟨w.heap.size + 1, 6, none⟩ = some (v2') ∧ w'.cell? ⟨w.heap.size + 1, 7, none⟩ = some (v3') ∧ w'.cell? ⟨w.heap.size + 1, 8, none⟩ = some (v4') ∧ w'.cell? ⟨w.heap.size + 1, 9, none⟩ = some (v5') ∧ w'.cell? ⟨w.heap.size + 1, 10, none⟩ = some (.int .i64 n'))
    (first | with_reducible exact K.out _ HE7.out | with_reducible exact K.out _ HE6.out | with_reducible exact K.out _ HE5.out.drew)
    (first
      | (go_at_call 40; refine (H1.out _ _ _ (HA.out.ext ?_) (HB.out.ext ?_)).mono ?_; (first | with_reducible exact HE1.out.trans HE6.out | with_reducible exact HE1.out.trans HE5.out.drew); (first | with_reducible exact HE1.out.trans HE6.out | with_reducible exact HE1.out.trans HE5.out.drew); rintro e w6 ⟨rfl, hE⟩; have HE6 := hid (Ext.trans (by first | with_reducible exact HE6.out | with_reducible exact HE5.out.drew) hE); clear hE)
      | (go_at_call 41; refine (H2.out _ _ _ (HA.out.ext ?_) (HB.out.ext ?_)).mono ?_; (first | with_reducible exact HE1.out.trans HE6.out | with_reducible exact HE1.out.trans HE5.out.drew); (first | with_reducible exact HE1.out.trans HE6.out | with_reducible exact HE1.out.trans HE5.out.drew); rintro e w6 ⟨rfl, hE⟩; have HE6 := hid (Ext.trans (by first | with_reducible exact HE6.out | with_reducible exact HE5.out.drew) hE); clear hE))
  all_goals
    go_wp2_with fail
    go_ret
    exact ⟨rfl, HE1.out.trans HE6.out⟩
theorem own : ownKnob Try.prog.godebug = none := by kernel_rfl
set_option maxRecDepth 100000 in
theorem lifted (os : Os) (started : os.Started) (H : Type) (enc : TypeId × Value → H) :
    ReturnsInHanded {} Try.checked os 10 .any (Rows.fnCompareElemsSpec.pre6 enc Try.prog Try.f10 Rows.fnCompareElemsRow.domain false) (Rows.fnCompareElemsSpec.post enc Try.prog Try.f10 false true false false) := by
  refine law_lifted (C := Try.checked) own started (by kernel_rfl) Try.func10 (by kernel_rfl)
    (fun t ht => by rw [Try.params10] at ht; simp at ht; subst ht; exact ⟨by kernel_rfl, of_decide_eq_true (by kernel_rfl)⟩) (by kernel_rfl) rfl
    (fun ds hl => by rw [Try.params10] at hl; match ds, hl with | [d1, d2], _ => exact ⟨rfl, rfl, rfl⟩)
    (ChangeSpec.witness6 (enc := enc) (C := Try.checked) false ⟨#[], #[.agg #[.int .i64 0, .string ⟨#[]⟩, .slice none 0 0, .slice none 0 0, .int .i64 0, .int .i64 0, .float .f64 0, .string ⟨#[]⟩, .slice none 0 0, .slice none 0 0, .int .i64 0], .agg #[.int .i64 0, .string ⟨#[]⟩, .slice none 0 0, .slice none 0 0, .int .i64 0, .int .i64 0, .float .f64 0, .string ⟨#[]⟩, .slice none 0 0, .slice none 0 0, .int .i64 0]], []⟩ 8 (by kernel_rfl) (by kernel_rfl) (by kernel_rfl) (by kernel_rfl)) ?_
  intro W base args ds p hval hA hsz
  rw [Try.params10] at hA hval hsz
  obtain ⟨v0, v1, d0, d1, p0, p1, rfl, rfl, rfl, h0, h1⟩ := trodAll_two hA
  obtain ⟨cs, rfl, _⟩ := okWide_struct Try.underlying51 (hval 0 51 v0 rfl rfl)
  obtain ⟨cs2, rfl, _⟩ := okWide_struct Try.underlying51 (hval 1 51 v1 rfl rfl)
  have hw : ∀ n ∈ DataW.weightsEach Try.prog [51, 51] [d0, d1], n ≤ 140737488351232 := by
    intro n hn
    exact of_decide_eq_true (List.all_eq_true.1 hsz n hn)
  obtain ⟨fuel, h0⟩ := h0
  obtain ⟨fuel2, h1⟩ := h1
  obtain ⟨g, hg⟩ := open_ge fuel cs.toList (d0, p0) h0 (weightsEach_mem (j := 0) rfl rfl hw)
  obtain ⟨g2, hg2⟩ := open_ge fuel2 cs2.toList (d1, p1) h1 (weightsEach_mem (j := 1) rfl rfl hw)
  have := walk g g2 W cs.toList cs2.toList hg hg2
  rwa [Array.toArray_toList, Array.toArray_toList] at this

theorem over : Rows.fnCompareElemsRow.holds Try.pinned (OpenSpec.ofChange Rows.fnCompareElemsSpec) :=
  OpenClaim.holds_of_wide 10 Try.f10 rfl rfl rfl rfl rfl rfl rfl ⟨rfl, rfl, rfl, rfl, rfl⟩ rfl rfl rfl rfl rfl (by kernel_rfl) Try.func10 (by kernel_rfl)
    (of_decide_eq_true (by kernel_rfl)) (by unfold Func.isWrapper; first | (rw [if_pos (by decide +kernel)]; kernel_rfl) | (rw [if_neg (by decide +kernel)]; exact ⟨rfl, rfl⟩))
    (fun os started H enc _ => lifted os started H enc)

theorem proved : Rows.FnCompareElemsSaid :=
  over
#print axioms proved
end Go.Proofs.Ytoodkpaebbopnaa.fnCompE
