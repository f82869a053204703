/- FnLessValues: LessValues says that a comes before b exactly if the reference's comparison is -1; for every input. -/
import Derived.Test.YtoodkpaebbopnaaSpecAll
import Derived.Test.YtoodkpaebbopnaaCmpAll
import Derived.ChangeMaps5
namespace Go.Proofs.Ytoodkpaebbopnaa.fnLess
open Go.ChangeShapes Go.WideShapes Go.ChangeAt Go.RowKit
set_option linter.unusedSimpArgs false
set_option linter.unusedVariables false
set_option maxRecDepth 100000

theorem bcmp3 (a b : Bool) : bcmp a b = -1 ∨ bcmp a b = 0 ∨ bcmp a b = 1 := by cases a <;> cases b <;> simp [bcmp]
theorem icmp3 (a b : Int) : icmp a b = -1 ∨ icmp a b = 0 ∨ icmp a b = 1 := by unfold icmp; split <;> (try split) <;> simp
theorem fcmp3 (a b : Nat) : fcmp a b = -1 ∨ fcmp a b = 0 ∨ fcmp a b = 1 := by
  unfold fcmp
  rcases FloatKind.f64.format.order a b with _ | o
  · simp [ordZ]
  · cases o <;> simp [ordZ]
theorem scmp3 (a b : ByteArray) : scmp a b = -1 ∨ scmp a b = 0 ∨ scmp a b = 1 := by
  rcases blt_tri a b with h | h | h
  · exact .inl (scmp_lt h).1
  · subst h; exact .inr (.inl (scmp_refl a))
  · exact .inr (.inr (scmp_lt h).2)
theorem ite3 {c : Prop} [Decidable c] {x y : Int} (hx : x = -1 ∨ x = 0 ∨ x = 1) (hy : y = -1 ∨ y = 0 ∨ y = 1) : (if c then x else y) = -1 ∨ (if c then x else y) = 0 ∨ (if c then x else y) = 1 := by
  split
  · exact hx
  · exact hy
theorem cmpC3 (c d : Nat) : cmpC c d = -1 ∨ cmpC c d = 0 ∨ cmpC c d = 1 := by
  unfold cmpC
  iterate 7 (refine ite3 (.inl rfl) (ite3 (.inr (.inr rfl)) ?_))
  exact .inr (.inl rfl)
theorem cmpLs3 {z : Tree → Tree → Int} (h : ∀ a b, z a b = -1 ∨ z a b = 0 ∨ z a b = 1) : ∀ (x y : List Tree), cmpLs z x y = -1 ∨ cmpLs z x y = 0 ∨ cmpLs z x y = 1
  | [], [] => by simp [cmpLs]
  | [], _ :: _ => by simp [cmpLs]
  | _ :: _, [] => by simp [cmpLs]
  | a :: x, b :: y => by
    unfold cmpLs
    split
    · exact cmpLs3 h x y
    · exact h a b
theorem cmpKs3 {z : Tree → Tree → Int} (h : ∀ a b, z a b = -1 ∨ z a b = 0 ∨ z a b = 1) (m1 m2 : List (ByteArray × Tree)) : ∀ (ks : List ByteArray) (i : Nat), cmpKs z m1 m2 ks i = -1 ∨ cmpKs z m1 m2 ks i = 0 ∨ cmpKs z m1 m2 ks i = 1
  | [], _ => by simp [cmpKs]
  | k :: ks, i => by
    unfold cmpKs
    split
    · exact cmpKs3 h m1 m2 ks (i + 1)
    · unfold cmpOne
      split
      · simp
      · split
        · simp
        · split
          · simp
          · simp
          · exact h _ _
theorem cmpF3 : ∀ (n : Nat) (t1 t2 : Tree), cmpF n t1 t2 = -1 ∨ cmpF n t1 t2 = 0 ∨ cmpF n t1 t2 = 1
  | 0, _, _ => by simp [cmpF]
  | n + 1, t1, t2 => by
    unfold cmpF
    split
    · exact cmpLs3 (cmpF3 n) _ _
    · exact cmpKs3 (cmpF3 n) _ _ _ _
    · simp
    · exact bcmp3 _ _
    · exact icmp3 _ _
    · exact fcmp3 _ _
    · exact fcmp3 _ _
    · exact fcmp3 _ _
    · exact scmp3 _ _
    · exact cmpC3 _ _
theorem cmpT3 (t1 t2 : Tree) : cmpT t1 t2 = -1 ∨ cmpT t1 t2 = 0 ∨ cmpT t1 t2 = 1 := cmpF3 _ t1 t2
set_option maxHeartbeats 4000000 in
theorem walk (ga gb : GV) (w : World) (ca cb : List Value) (hA : RepGV Any w ga ca) (hB : RepGV Any w gb cb) :
    Calls Try.prog 3 #[.agg ca.toArray, .agg cb.toArray] w fun e w' => e = .returned (.bool true) ∧ Ext w w' := by
  have HA := hid hA
  have HB := hid hB
  obtain ⟨k, n, f, s, a1, b1, c1, a2, b2, c2, rfl⟩ := hA.form
  obtain ⟨k', n', f', s', a1', b1', c1', a2', b2', c2', rfl⟩ := hB.form
  obtain ⟨z, hz⟩ : ∃ z, cmpT (plainT ga) (plainT gb) = z := ⟨_, rfl⟩
  obtain ⟨l, hl1, hl2⟩ : ∃ l, (z == -1) = l ∧ decide (z < 0) = l := by
    have := cmpT3 (plainT ga) (plainT gb)
    rw [hz] at this
    rcases this with rfl | rfl | rfl
    · exact ⟨true, by decide, by decide⟩
    · exact ⟨false, by decide, by decide⟩
    · exact ⟨false, by decide, by decide⟩
  have H1 := hid (fun W x y hx hy => LessValues_of ga gb z (by rw [← hz]; exact cmpU _ _) W x y hx hy)
  have H2 := hid (fun W x y hx hy => specCV_any ga gb W x y hx hy)
  rw [hl1] at H1
  rw [hz] at H2
  clear hA hB hz hl1
  go_enter Try.func3, Try.ntmps3
  go_upto_region 1 with fail
  obtain ⟨x1, x2, hEE⟩ := boxes2 w (.cells #[.int .i64 k, .int .i64 n, .float .f64 f, .string s, .slice a1 b1 c1, .slice a2 b2 c2] 26) (.cells #[.int .i64 k', .int .i64 n', .float .f64 f', .string s', .slice a1' b1' c1', .slice a2' b2' c2'] 26) _ (Below.refl _ _)
  generalize (w.alloc (.cells #[.int .i64 k, .int .i64 n, .float .f64 f, .string s, .slice a1 b1 c1, .slice a2 b2 c2] 26)).alloc (.cells #[.int .i64 k', .int .i64 n', .float .f64 f', .string s', .slice a1' b1' c1', .slice a2' b2' c2'] 26) = w1 at *
  have HE1 := hid hEE
  have K := hid (show ∀ w' : World, Ext w1 w' → (fun w' : World => w'.cell? ⟨w.heap.size, 0, none⟩ = some (.int .i64 k) ∧ w'.cell? ⟨w.heap.size, 1, none⟩ = some (.int .i64 n) ∧ w'.cell? ⟨w.heap.size, 2, none⟩ = some (.float .f64 f) ∧ w'.cell? ⟨w.heap.size, 3, none⟩ = some (.string s) ∧ w'.cell? ⟨w.heap.size, 4, none⟩ = some (.slice a1 b1 c1) ∧ w'.cell? ⟨w.heap.size, 5, none⟩ = some (.slice a2 b2 c2) ∧ w'.cell? ⟨w.heap.size + 1, 0, none⟩ = some (.int .i64 k') ∧ w'.cell? ⟨w.heap.size + 1, 1, none⟩ = some (.int .i64 n') ∧ w'.cell? ⟨w.heap.size + 1, 2, none⟩ = some (.float .f64 f') ∧ w'.cell? ⟨w.heap.size + 1, 3, none⟩ = some (.string s') ∧ w'.cell? ⟨w.heap.size + 1, 4, none⟩ = some (.slice a1' b1' c1') ∧ w'.cell? ⟨w.heap.size + 1, 5, none⟩ = some (.slice a2' b2' c2')) w' from fun w' h => by
    obtain ⟨⟨z0, z1, z2, z3, z4, z5⟩, -⟩ := slot6 (h.block x1)
    obtain ⟨⟨y0, y1, y2, y3, y4, y5⟩, -⟩ := slot6 (h.block x2)
    exact ⟨z0, z1, z2, z3, z4, z5, y0, y1, y2, y3, y4, y5⟩)
  clear x1 x2 hEE
  obtain ⟨z0, z1, z2, z3, z4, z5, y0, y1, y2, y3, y4, y5⟩ := K.out _ (Ext.refl w1)
  go_upto_region 5 with (first
    | (go_at_call_of 14 k; refine (fits5_any ga _ _ (HA.out.ext HE1.out)).mono ?_; rintro e w2 ⟨b, rfl, hE⟩; have HE2 := hid hE; clear z0 z1 z2 z3 z4 z5 y0 y1 y2 y3 y4 y5; obtain ⟨z0, z1, z2, z3, z4, z5, y0, y1, y2, y3, y4, y5⟩ := K.out _ HE2.out; cases b <;> clear hE)
    | (go_at_call_of 14 k'; refine (fits5_any gb _ _ (HB.out.ext (HE1.out.trans HE2.out))).mono ?_; rintro e w3 ⟨b, rfl, hE⟩; have HE3 := hid (HE2.out.trans hE); clear z0 z1 z2 z3 z4 z5 y0 y1 y2 y3 y4 y5; obtain ⟨z0, z1, z2, z3, z4, z5, y0, y1, y2, y3, y4, y5⟩ := K.out _ HE3.out; cases b <;> clear hE)
    | (go_at_call_of 15 k; refine (ord_any ga _ _ (HA.out.ext (HE1.out.trans HE3.out))).mono ?_; rintro e w4 ⟨rfl, hE⟩; have HE4 := hid (HE3.out.trans hE); clear z0 z1 z2 z3 z4 z5 y0 y1 y2 y3 y4 y5; obtain ⟨z0, z1, z2, z3, z4, z5, y0, y1, y2, y3, y4, y5⟩ := K.out _ HE4.out; cases ho : ordG ga <;> clear hE ho)
    | (go_at_call_of 15 k'; refine (ord_any gb _ _ (HB.out.ext (HE1.out.trans HE4.out))).mono ?_; rintro e w5 ⟨rfl, hE⟩; have HE5 := hid (HE4.out.trans hE); clear z0 z1 z2 z3 z4 z5 y0 y1 y2 y3 y4 y5; obtain ⟨z0, z1, z2, z3, z4, z5, y0, y1, y2, y3, y4, y5⟩ := K.out _ HE5.out; cases ho : ordG gb <;> clear hE ho))
  all_goals first
    | (go_ret; first | exact ⟨rfl, HE1.out.trans HE5.out⟩ | exact ⟨rfl, HE1.out.trans HE4.out⟩ | exact ⟨rfl, HE1.out.trans HE3.out⟩ | exact ⟨rfl, HE1.out.trans HE2.out⟩)
    | skip
  clear z0 z1 z2 z3 z4 z5 y0 y1 y2 y3 y4 y5
  go_region_held3 (fun w' : World => w'.cell? ⟨w.heap.size, 0, none⟩ = some (.int .i64 k) ∧ w'.cell? ⟨w.heap.size, 1, none⟩ = some (.int .i64 n) ∧ w'.cell? ⟨w.heap.size, 2, none⟩ = some (.float .f64 f) ∧ w'.cell? ⟨w.heap.size, 3, none⟩ = some (.string s) ∧ w'.cell? ⟨w.heap.size, 4, none⟩ = some (.slice a1 b1 c1) ∧ w'.cell? ⟨w.heap.size, 5, none⟩ = some (.slice a2 b2 c2) ∧ w'.cell? ⟨w.heap.size + 1, 0, none⟩ = some (.int .i64 k') ∧ w'.cell? ⟨w.heap.size + 1, 1, none⟩ = some (.int .i64 n') ∧ w'.cell? ⟨w.heap.size + 1, 2, none⟩ = some (.float .f64 f') ∧ w'.cell? ⟨w.heap.size + 1, 3, none⟩ = some (.string s') ∧ w'.cell? ⟨w.heap.size + 1, 4, none⟩ = some (.slice a1' b1' c1') ∧ w'.cell? ⟨w.heap.size + 1, 5, none⟩ = some (.slice a2' b2' c2'))
    (first | with_reducible exact K.out _ HE7.out | with_reducible exact K.out _ HE6.out | with_reducible exact K.out _ HE5.out.drew)
    (first
      | (go_at_call 16; refine (H1.out _ _ _ (HA.out.ext ?_) (HB.out.ext ?_)).mono ?_; (first | with_reducible exact HE1.out.trans HE6.out | with_reducible exact HE1.out.trans HE5.out.drew); (first | with_reducible exact HE1.out.trans HE6.out | with_reducible exact HE1.out.trans HE5.out.drew); rintro e w6 ⟨rfl, hE⟩; have HE6 := hid (Ext.trans (by first | with_reducible exact HE6.out | with_reducible exact HE5.out.drew) hE); clear hE)
      | (go_at_call 17; refine (H2.out _ _ _ (HA.out.ext ?_) (HB.out.ext ?_)).mono ?_; (first | with_reducible exact HE1.out.trans HE6.out | with_reducible exact HE1.out.trans HE5.out.drew); (first | with_reducible exact HE1.out.trans HE6.out | with_reducible exact HE1.out.trans HE5.out.drew); rintro e w6 ⟨rfl, hE⟩; have HE6 := hid (Ext.trans (by first | with_reducible exact HE6.out | with_reducible exact HE5.out.drew) hE); clear hE))
  all_goals
    go_wp2_with fail
    go_ret
    exact ⟨rfl, HE1.out.trans HE6.out⟩
theorem own : ownKnob Try.prog.godebug = none := by kernel_rfl
set_option maxRecDepth 100000 in
theorem lifted (os : Os) (started : os.Started) (H : Type) (enc : TypeId × Value → H) :
    ReturnsInHanded {} Try.checked os 3 .any (Rows.fnLessValuesSpec.pre6 enc Try.prog Try.f3 Rows.fnLessValuesRow.domain false) (Rows.fnLessValuesSpec.post enc Try.prog Try.f3 false true false false) := by
  refine law_lifted (C := Try.checked) own started (by kernel_rfl) Try.func3 (by kernel_rfl)
    (fun t ht => by rw [Try.params3] at ht; simp at ht; subst ht; exact ⟨by kernel_rfl, of_decide_eq_true (by kernel_rfl)⟩) (by kernel_rfl) rfl
    (fun ds hl => by rw [Try.params3] at hl; match ds, hl with | [d1, d2], _ => exact ⟨rfl, rfl, rfl⟩)
    (ChangeSpec.witness6 (enc := enc) (C := Try.checked) false ⟨#[], #[.agg #[.int .i64 0, .int .i64 0, .float .f64 0, .string ⟨#[]⟩, .slice none 0 0, .slice none 0 0], .agg #[.int .i64 0, .int .i64 0, .float .f64 0, .string ⟨#[]⟩, .slice none 0 0, .slice none 0 0]], []⟩ 8 (by kernel_rfl) (by kernel_rfl) (by kernel_rfl) (by kernel_rfl)) ?_
  intro W base args ds p hval hA hsz
  rw [Try.params3] at hA hval hsz
  obtain ⟨v0, v1, d0, d1, p0, p1, rfl, rfl, rfl, h0, h1⟩ := trodAll_two hA
  obtain ⟨cs, rfl, _⟩ := okWide_struct Try.underlying26 (hval 0 26 v0 rfl rfl)
  obtain ⟨cs2, rfl, _⟩ := okWide_struct Try.underlying26 (hval 1 26 v1 rfl rfl)
  have hw : ∀ n ∈ DataW.weightsEach Try.prog [26, 26] [d0, d1], n ≤ 140737488351232 := by
    intro n hn
    exact of_decide_eq_true (List.all_eq_true.1 hsz n hn)
  obtain ⟨fuel, h0⟩ := h0
  obtain ⟨fuel2, h1⟩ := h1
  obtain ⟨g, hg⟩ := open_gv fuel cs.toList (d0, p0) h0 (weightsEach_mem (j := 0) rfl rfl hw)
  obtain ⟨g2, hg2⟩ := open_gv fuel2 cs2.toList (d1, p1) h1 (weightsEach_mem (j := 1) rfl rfl hw)
  have := walk g g2 W cs.toList cs2.toList hg hg2
  rwa [Array.toArray_toList, Array.toArray_toList] at this

theorem over : Rows.fnLessValuesRow.holds Try.pinned (OpenSpec.ofChange Rows.fnLessValuesSpec) :=
  OpenClaim.holds_of_wide 3 Try.f3 rfl rfl rfl rfl rfl rfl rfl ⟨rfl, rfl, rfl, rfl, rfl⟩ rfl rfl rfl rfl rfl (by kernel_rfl) Try.func3 (by kernel_rfl)
    (of_decide_eq_true (by kernel_rfl)) (by unfold Func.isWrapper; first | (rw [if_pos (by decide +kernel)]; kernel_rfl) | (rw [if_neg (by decide +kernel)]; exact ⟨rfl, rfl⟩))
    (fun os started H enc _ => lifted os started H enc)

theorem proved : Rows.FnLessValuesSaid :=
  over
#print axioms proved
end Go.Proofs.Ytoodkpaebbopnaa.fnLess
