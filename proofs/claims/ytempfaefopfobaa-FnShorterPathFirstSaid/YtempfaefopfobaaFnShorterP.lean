/- FnShorterPathFirst: a path comes before every path that begins with it and goes on, and equals itself; for every input. -/
import Derived.Test.YtempfaefopfobaaGN
import Derived.ChangeMaps5

namespace Go.Proofs.Ytempfaefopfobaa.fnShorterP
open Go.ChangeShapes Go.WideShapes Go.ChangeAt Go.RowKit
set_option linter.unusedSimpArgs false
set_option linter.unusedVariables false
set_option maxRecDepth 100000

theorem info_e : (Try.prog.info? 34).map (fun i => (i.zero, i.size, i.bytes)) = some (some (.agg #[.int .i64 0, .string ByteArray.empty, .slice none 0 0, .slice none 0 0, .int .i64 0, .int .i64 0, .float .f64 0, .string ByteArray.empty, .slice none 0 0, .slice none 0 0, .int .i64 0]), 11, 168) := by kernel_rfl
set_option maxHeartbeats 4000000 in
theorem walk0 (p r lw : List GE) (n2 : Nat) (a a' : Option Addr) (c c' : Nat) (w : World) (hv : RepGEs Any w (.slice a p.length c) p) (hv' : RepGEs Any w (.slice a' n2 c') r) (h0 : n2 = 0) (hlw : lw = p ++ r)
    (hc1 : ∀ W u v, RepGEs Any W u p → RepGEs Any W v lw → Calls Try.prog 12 #[u, v] W fun e w' => e = .returned (.int .i64 0) ∧ Ext W w') (hc2 : ∀ W u v, RepGEs Any W u lw → RepGEs Any W v p → Calls Try.prog 12 #[u, v] W fun e w' => e = .returned (.int .i64 0) ∧ Ext W w') (tb : Bool) (htm : ∀ W v, RepGEs Any W v p → Calls Try.prog 11 #[v] W fun en w' => en = .returned (.bool tb) ∧ Ext W w') (he1 : tb = true → ∀ W u v, RepGEs Any W u p → RepGEs Any W v lw → Calls Try.prog 13 #[u, v] W fun e w' => e = .returned (.bool true) ∧ Ext W w') (he2 : tb = true → ∀ W u v, RepGEs Any W u p → RepGEs Any W v p → Calls Try.prog 13 #[u, v] W fun e w' => e = .returned (.bool true) ∧ Ext W w') :
    Calls Try.prog 3 #[.slice a p.length c, .slice a' n2 c'] w fun e w' => e = .returned (.bool true) ∧ Ext w w' := by
  have HQ := hid h0
  have hq : ((n2 : Int) == 0) = true := by rw [h0]; rfl
  clear h0
  obtain ⟨i0, hi, hz0, hz1, hz2⟩ := info_parts info_e
  obtain ⟨-, xs1, hr1, hs1⟩ := src_ges hv
  obtain ⟨hn2, xs2, hr2, hs2⟩ := src_ges hv'
  have HN2 := hid hn2
  have HV := hid hv
  have HR1 := hid hr1
  have HR2 := hid hr2
  have HS1 := hid hs1
  have HS2 := hid hs2
  have HL1 := hid hr1.1
  have HL2 := hid (show xs2.length = n2 * 11 by rw [hr2.1, hn2])
  have HOxs1 := hid hr1.oneCell
  have HOxs2 := hid hr2.oneCell
  have HLW := hid hlw
  have C1 := hid hc1
  have C2 := hid hc2
  have T1 := hid htm
  have HE1' := hid he1
  have HE2' := hid he2
  generalize hpl : p.length = n1 at *
  have HPL := hid hpl
  clear hv hv' hr1 hr2 hs1 hs2 hlw hc1 hc2 htm he1 he2 hn2 hpl
  go_enter Try.func3, Try.ntmps3
  by_cases h1 : n1 > 2147483647
  · go_wp2_with fail
    go_ret
    exact ⟨rfl, Ext.refl _⟩
  by_cases h2 : n2 > 2147483647
  · first
      | exact absurd h2 (by have := HQ.out; omega)
      | (go_wp2_with fail
         go_ret
         exact ⟨rfl, Ext.refl _⟩)
  cases tb
  · go_wp2_with (go_at_call 11; refine (T1.out _ _ HV.out).mono ?_; rintro e w2 ⟨rfl, hE⟩; have HE2 := hid hE; clear hE)
    go_ret
    exact ⟨rfl, HE2.out⟩
  have E1 := hid (HE1'.out rfl)
  have E2 := hid (HE2'.out rfl)
  clear HE1' HE2'
  go_wp2_with (first
    | (go_at_call 11; refine (T1.out _ _ HV.out).mono ?_; rintro e w2 ⟨rfl, hE⟩; have HE2 := hid hE; have HO0 := hid (World.ownsRow_lit (base := w2.heap.size) (e := 34) (size := 11) w2 #[] 0 (Nat.le_refl _) (by decide) (by simp)); clear hE)
    | (at_builtin; refine wpList_append_src _ rfl (.tmp 18) (.tmp 19) 22 rfl w2.heap.size 34 i0 _ 11 168 Try.underlying22 hi hz0 hz1 hz2 rfl (by decide) _ 0 [] rfl HO0.out a n1 c xs1 rfl HL1.out (HS1.out.ext (HE2.out.trans ((Ext.refl w2).alloc _))) HOxs1.out (by unfold maxLen; omega) (by omega) (by simp) ?_; intro a3 c3 w3 hown3 hg3 hat; simp only [Nat.zero_add, List.nil_append] at hown3; have HO3 := hid hown3; have HF3 := hid (show Ext w2 w3 from ext_own ((Ext.refl w2).alloc _) hg3 (fun g e => by cases e; exact Nat.le_refl _)); clear hown3 hg3 hat)
    | (at_builtin; refine wpList_append_src _ rfl (.tmp 20) (.tmp 21) 22 rfl w2.heap.size 34 i0 _ 11 168 Try.underlying22 hi hz0 hz1 hz2 rfl (by decide) _ n1 xs1 rfl HO3.out a' n2 c' xs2 rfl HL2.out (HS2.out.ext (HE2.out.trans HF3.out)) HOxs2.out (by unfold maxLen; omega) (by omega) HF3.out.size ?_; intro a4 c4 w4 hown4 hg4 hat; have HF4 := hid (show Ext w2 w4 from ext_own HF3.out hg4 (own_ge HO3.out)); have HE4 := hid (HE2.out.trans HF4.out); have HW := hid (show RepGEs Any w4 (.slice a4 (n1 + n2) c4) lw by rw [HLW.out]; exact ges_of_row hown4 (RowGE.append (HR1.out.mono (HE4.out.same _) (fun _ _ _ => trivial)) (HR2.out.mono (HE4.out.same _) (fun _ _ _ => trivial))) (fun _ _ => trivial) (by have := HPL.out; have := HN2.out; simp only [List.length_append]; omega)); clear hown4 hg4 hat)
    | (go_at_call 12; refine (C1.out _ _ _ (HV.out.ext HE4.out) HW.out).mono ?_; rintro e w5 ⟨rfl, hE⟩; have HE5 := hid hE; clear hE)
    | (go_at_call 12; refine (C2.out _ _ _ (HW.out.ext HE5.out) (HV.out.ext (HE4.out.trans HE5.out))).mono ?_; rintro e w6 ⟨rfl, hE⟩; have HE6 := hid (HE5.out.trans hE); clear hE)
    | (go_at_call 13; refine (E1.out _ _ _ (HV.out.ext (HE4.out.trans HE6.out)) (HW.out.ext HE6.out)).mono ?_; rintro e w7 ⟨rfl, hE⟩; have HE7 := hid (HE6.out.trans hE); clear hE)
    | (go_at_call 13; refine (E2.out _ _ _ (HV.out.ext (HE4.out.trans HE7.out)) (HV.out.ext (HE4.out.trans HE7.out))).mono ?_; rintro e w8 ⟨rfl, hE⟩; have HE8 := hid (HE7.out.trans hE); clear hE))
  go_ret
  exact ⟨rfl, HE4.out.trans HE8.out⟩
set_option maxHeartbeats 4000000 in
theorem walk1 (p r lw : List GE) (n2 : Nat) (a a' : Option Addr) (c c' : Nat) (w : World) (hv : RepGEs Any w (.slice a p.length c) p) (hv' : RepGEs Any w (.slice a' n2 c') r) (h0 : ¬ n2 = 0) (hlw : lw = p ++ r)
    (hc1 : ∀ W u v, RepGEs Any W u p → RepGEs Any W v lw → Calls Try.prog 12 #[u, v] W fun e w' => e = .returned (.int .i64 (-1)) ∧ Ext W w') (hc2 : ∀ W u v, RepGEs Any W u lw → RepGEs Any W v p → Calls Try.prog 12 #[u, v] W fun e w' => e = .returned (.int .i64 1) ∧ Ext W w') (tb : Bool) (htm : ∀ W v, RepGEs Any W v p → Calls Try.prog 11 #[v] W fun en w' => en = .returned (.bool tb) ∧ Ext W w') (he1 : tb = true → ∀ W u v, RepGEs Any W u p → RepGEs Any W v lw → Calls Try.prog 13 #[u, v] W fun e w' => e = .returned (.bool false) ∧ Ext W w') (he2 : tb = true → ∀ W u v, RepGEs Any W u p → RepGEs Any W v p → Calls Try.prog 13 #[u, v] W fun e w' => e = .returned (.bool true) ∧ Ext W w') :
    Calls Try.prog 3 #[.slice a p.length c, .slice a' n2 c'] w fun e w' => e = .returned (.bool true) ∧ Ext w w' := by
  obtain ⟨i0, hi, hz0, hz1, hz2⟩ := info_parts info_e
  obtain ⟨-, xs1, hr1, hs1⟩ := src_ges hv
  obtain ⟨hn2, xs2, hr2, hs2⟩ := src_ges hv'
  have HN2 := hid hn2
  have HV := hid hv
  have HR1 := hid hr1
  have HR2 := hid hr2
  have HS1 := hid hs1
  have HS2 := hid hs2
  have HL1 := hid hr1.1
  have HL2 := hid (show xs2.length = n2 * 11 by rw [hr2.1, hn2])
  have HOxs1 := hid hr1.oneCell
  have HOxs2 := hid hr2.oneCell
  have HLW := hid hlw
  have C1 := hid hc1
  have C2 := hid hc2
  have T1 := hid htm
  have HE1' := hid he1
  have HE2' := hid he2
  generalize hpl : p.length = n1 at *
  have HPL := hid hpl
  clear hv hv' hr1 hr2 hs1 hs2 hlw hc1 hc2 htm he1 he2 hn2 hpl
  go_enter Try.func3, Try.ntmps3
  by_cases h1 : n1 > 2147483647
  · go_wp2_with fail
    go_ret
    exact ⟨rfl, Ext.refl _⟩
  by_cases h2 : n2 > 2147483647
  · first
      | exact absurd h2 (by have := HQ.out; omega)
      | (go_wp2_with fail
         go_ret
         exact ⟨rfl, Ext.refl _⟩)
  cases tb
  · go_wp2_with (go_at_call 11; refine (T1.out _ _ HV.out).mono ?_; rintro e w2 ⟨rfl, hE⟩; have HE2 := hid hE; clear hE)
    go_ret
    exact ⟨rfl, HE2.out⟩
  have E1 := hid (HE1'.out rfl)
  have E2 := hid (HE2'.out rfl)
  clear HE1' HE2'
  go_wp2_with (first
    | (go_at_call 11; refine (T1.out _ _ HV.out).mono ?_; rintro e w2 ⟨rfl, hE⟩; have HE2 := hid hE; have HO0 := hid (World.ownsRow_lit (base := w2.heap.size) (e := 34) (size := 11) w2 #[] 0 (Nat.le_refl _) (by decide) (by simp)); clear hE)
    | (at_builtin; refine wpList_append_src _ rfl (.tmp 18) (.tmp 19) 22 rfl w2.heap.size 34 i0 _ 11 168 Try.underlying22 hi hz0 hz1 hz2 rfl (by decide) _ 0 [] rfl HO0.out a n1 c xs1 rfl HL1.out (HS1.out.ext (HE2.out.trans ((Ext.refl w2).alloc _))) HOxs1.out (by unfold maxLen; omega) (by omega) (by simp) ?_; intro a3 c3 w3 hown3 hg3 hat; simp only [Nat.zero_add, List.nil_append] at hown3; have HO3 := hid hown3; have HF3 := hid (show Ext w2 w3 from ext_own ((Ext.refl w2).alloc _) hg3 (fun g e => by cases e; exact Nat.le_refl _)); clear hown3 hg3 hat)
    | (at_builtin; refine wpList_append_src _ rfl (.tmp 20) (.tmp 21) 22 rfl w2.heap.size 34 i0 _ 11 168 Try.underlying22 hi hz0 hz1 hz2 rfl (by decide) _ n1 xs1 rfl HO3.out a' n2 c' xs2 rfl HL2.out (HS2.out.ext (HE2.out.trans HF3.out)) HOxs2.out (by unfold maxLen; omega) (by omega) HF3.out.size ?_; intro a4 c4 w4 hown4 hg4 hat; have HF4 := hid (show Ext w2 w4 from ext_own HF3.out hg4 (own_ge HO3.out)); have HE4 := hid (HE2.out.trans HF4.out); have HW := hid (show RepGEs Any w4 (.slice a4 (n1 + n2) c4) lw by rw [HLW.out]; exact ges_of_row hown4 (RowGE.append (HR1.out.mono (HE4.out.same _) (fun _ _ _ => trivial)) (HR2.out.mono (HE4.out.same _) (fun _ _ _ => trivial))) (fun _ _ => trivial) (by have := HPL.out; have := HN2.out; simp only [List.length_append]; omega)); clear hown4 hg4 hat)
    | (go_at_call 12; refine (C1.out _ _ _ (HV.out.ext HE4.out) HW.out).mono ?_; rintro e w5 ⟨rfl, hE⟩; have HE5 := hid hE; clear hE)
    | (go_at_call 12; refine (C2.out _ _ _ (HW.out.ext HE5.out) (HV.out.ext (HE4.out.trans HE5.out))).mono ?_; rintro e w6 ⟨rfl, hE⟩; have HE6 := hid (HE5.out.trans hE); clear hE)
    | (go_at_call 13; refine (E1.out _ _ _ (HV.out.ext (HE4.out.trans HE6.out)) (HW.out.ext HE6.out)).mono ?_; rintro e w7 ⟨rfl, hE⟩; have HE7 := hid (HE6.out.trans hE); clear hE)
    | (go_at_call 13; refine (E2.out _ _ _ (HV.out.ext (HE4.out.trans HE7.out)) (HV.out.ext (HE4.out.trans HE7.out))).mono ?_; rintro e w8 ⟨rfl, hE⟩; have HE8 := hid (HE7.out.trans hE); clear hE))
  go_ret
  exact ⟨rfl, HE4.out.trans HE8.out⟩
theorem walk (p r : List GE) (w : World) (v v' : Value) (hv : RepGEs Any w v p) (hv' : RepGEs Any w v' r) :
    Calls Try.prog 3 #[v, v'] w fun e w' => e = .returned (.bool true) ∧ Ext w w' := by
  obtain ⟨a, c, rfl⟩ := hv.form
  obtain ⟨a', c', rfl⟩ := hv'.form
  have htm := fun W v (h : RepGEs Any W v p) => tame_any p v W h
  by_cases h0 : r.length = 0
  · have hr : r = [] := List.eq_nil_of_length_eq_zero h0
    refine walk0 p r (p ++ r) r.length a a' c c' w hv hv' h0 rfl (fun W u v hu hv => ?_) (fun W u v hu hv => ?_) (p.all ordE) htm (fun ht W u v hu hv => ?_) (fun ht W u v hu hv => ?_)
    · have := cpaths_any _ _ u v W hu hv; rwa [hr, List.append_nil, cmpP_self] at this
    · have := cpaths_any _ _ u v W hu hv; rwa [hr, List.append_nil, cmpP_self] at this
    · have := epaths_any _ _ u v W hu hv; rwa [hr, List.append_nil, eqP_self ht] at this
    · have := epaths_any _ _ u v W hu hv; rwa [eqP_self ht] at this
  · have hr : r ≠ [] := fun e => h0 (by rw [e]; rfl)
    refine walk1 p r (p ++ r) r.length a a' c c' w hv hv' h0 rfl (fun W u v hu hv => ?_) (fun W u v hu hv => ?_) (p.all ordE) htm (fun ht W u v hu hv => ?_) (fun ht W u v hu hv => ?_)
    · have := cpaths_any _ _ u v W hu hv; rwa [(cmpP_shorter p r hr).1] at this
    · have := cpaths_any _ _ u v W hu hv; rwa [(cmpP_shorter p r hr).2] at this
    · have := epaths_any _ _ u v W hu hv; rwa [eqP_len (by simp only [List.length_map, List.length_append]; omega)] at this
    · have := epaths_any _ _ u v W hu hv; rwa [eqP_self ht] at this
theorem own : ownKnob Try.prog.godebug = none := by kernel_rfl
set_option maxRecDepth 100000 in
theorem lifted (os : Os) (started : os.Started) (H : Type) (enc : TypeId × Value → H) :
    ReturnsInHanded {} Try.checked os 3 .any (Rows.fnShorterPathFirstSpec.pre6 enc Try.prog Try.f3 Rows.fnShorterPathFirstRow.domain false) (Rows.fnShorterPathFirstSpec.post enc Try.prog Try.f3 false true false false) := by
  refine law_lifted (C := Try.checked) own started (by kernel_rfl) Try.func3 (by kernel_rfl)
    (fun t ht => by rw [Try.params3] at ht; simp at ht; subst ht; exact ⟨by kernel_rfl, of_decide_eq_true (by kernel_rfl)⟩) (by kernel_rfl) rfl
    (fun ds hl => by rw [Try.params3] at hl; match ds, hl with | [d1, d2], _ => exact ⟨rfl, rfl, rfl⟩)
    (ChangeSpec.witness6 (enc := enc) (C := Try.checked) false ⟨#[], #[.slice none 0 0, .slice none 0 0], []⟩ 8 (by kernel_rfl) (by kernel_rfl) (by kernel_rfl) (by kernel_rfl)) ?_
  intro W base args ds p hval hA hsz
  rw [Try.params3] at hA hval hsz
  obtain ⟨v0, v1, d0, d1, p0, p1, rfl, rfl, rfl, h0, h1⟩ := trodAll_two hA
  obtain ⟨a0, n0, c0, rfl⟩ := okWide_slice Try.underlying22 (hval 0 22 v0 rfl rfl)
  obtain ⟨a1, n1, c1, rfl⟩ := okWide_slice Try.underlying22 (hval 1 22 v1 rfl rfl)
  have hw : ∀ n ∈ DataW.weightsEach Try.prog [22, 22] [d0, d1], n ≤ 140737488351232 := by
    intro n hn
    exact of_decide_eq_true (List.all_eq_true.1 hsz n hn)
  obtain ⟨fuel, h0⟩ := h0
  obtain ⟨fuel2, h1⟩ := h1
  obtain ⟨v, l, e, hv⟩ := open_ges fuel _ (d0, p0) h0 (weightsEach_mem (j := 0) rfl rfl hw)
  obtain ⟨v', l', e', hv'⟩ := open_ges fuel2 _ (d1, p1) h1 (weightsEach_mem (j := 1) rfl rfl hw)
  simp only [Value.cells, List.cons.injEq, and_true] at e e'
  subst e e'
  exact walk l l' W _ _ hv hv'

theorem over : Rows.fnShorterPathFirstRow.holds Try.pinned (OpenSpec.ofChange Rows.fnShorterPathFirstSpec) :=
  OpenClaim.holds_of_wide 3 Try.f3 rfl rfl rfl rfl rfl rfl rfl ⟨rfl, rfl, rfl, rfl, rfl⟩ rfl rfl rfl rfl rfl (by kernel_rfl) Try.func3 (by kernel_rfl)
    (of_decide_eq_true (by kernel_rfl)) (by unfold Func.isWrapper; first | (rw [if_pos (by decide +kernel)]; kernel_rfl) | (rw [if_neg (by decide +kernel)]; exact ⟨rfl, rfl⟩))
    (fun os started H enc _ => lifted os started H enc)

theorem proved : Rows.FnShorterPathFirstSaid :=
  over
#print axioms proved
end Go.Proofs.Ytempfaefopfobaa.fnShorterP
