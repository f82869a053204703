/- FnEqualConflicts: two lists of conflicts are equal exactly if they have as many conflicts and in pairs, in their order, the same manager and equal paths; the paths hold no NaN and no whole number beyond 2^53, and keys have sorted names; for every input. -/
import Derived.Test.YtempfaefopfobaaConf
import Derived.ChangeMaps5

namespace Go.Proofs.Ytempfaefopfobaa.fnEqConf
open Go.ChangeShapes Go.WideShapes Go.ChangeAt Go.RowKit
set_option linter.unusedSimpArgs false
set_option linter.unusedVariables false
set_option maxRecDepth 100000
set_option maxHeartbeats 2000000 in
theorem walk (l l' : List (ByteArray × List GE)) (w : World) (v v' : Value) (h1 : RepCs w v l) (h2 : RepCs w v' l') : Calls Try.prog 5 #[v, v'] w fun en w' => en = .returned (.bool true) ∧ Ext w w' := by
  have H1 := hid h1
  have H2 := hid h2
  obtain ⟨a1, b1, o1, c1, rfl, -⟩ := h1
  obtain ⟨a2, b2, o2, c2, rfl, -⟩ := h2
  obtain ⟨t1, ht1⟩ : ∃ b, (l.all fun c => c.2.all ordE) = b := ⟨_, rfl⟩
  obtain ⟨t2, ht2⟩ : ∃ b, (l'.all fun c => c.2.all ordE) = b := ⟨_, rfl⟩
  obtain ⟨b, hb⟩ : ∃ b, eqCs (l.map toC) (l'.map toC) = b := ⟨_, rfl⟩
  have HT1 := hid (fun (W : World) (E : Ext w W) => tameC l _ W (H1.out.ext E))
  have HT2 := hid (fun (W : World) (E : Ext w W) => tameC l' _ W (H2.out.ext E))
  have HI := hid (fun (W : World) (E : Ext w W) => implEqC l l' _ _ W (H1.out.ext E) (H2.out.ext E))
  have HS := hid (fun (W : World) (E : Ext w W) => specEqC l l' _ _ W (H1.out.ext E) (H2.out.ext E))
  have HII := hid (fun (W : World) (E : Ext w W) => implEqC l l _ _ W (H1.out.ext E) (H1.out.ext E))
  have HSELF := hid (show t1 = true → eqCs (l.map toC) (l.map toC) = true from fun h => eqCs_self (ht1.trans h))
  rw [ht1] at HT1
  rw [ht2] at HT2
  rw [hb] at HI HS
  have tk : True := trivial
  clear H1 H2 ht1 ht2 hb
  go_enter Try.func5, Try.ntmps5
  by_cases hb1 : (l.length : Int) > 2147483647
  · go_wp2_with fail
    go_ret
    exact ⟨rfl, Ext.refl _⟩
  by_cases hb2 : (l'.length : Int) > 2147483647
  · go_wp2_with fail
    go_ret
    exact ⟨rfl, Ext.refl _⟩
  cases t1 with
  | false =>
    go_wp2_with (go_at_call 20; refine (HT1.out _ (Ext.refl _)).mono ?_; rintro e w2 ⟨rfl, hE⟩; have HE2 := hid hE; clear hE)
    go_ret
    exact ⟨rfl, HE2.out⟩
  | true =>
    have HII2 := hid (fun (W : World) (E : Ext w W) => (HSELF.out rfl) ▸ HII.out W E)
    cases t2 with
    | false =>
      go_wp2_with (first
        | (go_at_call 20; have _t := tk; refine (HT1.out _ (Ext.refl _)).mono ?_; rintro e w2 ⟨rfl, hE⟩; have HE2 := hid hE; clear hE tk _t)
        | (go_at_call 20; refine (HT2.out _ HE2.out).mono ?_; rintro e w3 ⟨rfl, hE⟩; have HE3 := hid (HE2.out.trans hE); clear hE))
      go_ret
      exact ⟨rfl, HE3.out⟩
    | true =>
      have tk2 : True := trivial
      cases b
      all_goals
        go_wp2_with (first
          | (go_at_call 20; have _t := tk; refine (HT1.out _ (Ext.refl _)).mono ?_; rintro e w2 ⟨rfl, hE⟩; have HE2 := hid hE; clear hE tk _t)
          | (go_at_call 20; refine (HT2.out _ HE2.out).mono ?_; rintro e w3 ⟨rfl, hE⟩; have HE3 := hid (HE2.out.trans hE); clear hE)
          | (go_at_call 21; have _t := tk2; refine (HI.out _ HE3.out).mono ?_; rintro e w4 ⟨rfl, hE⟩; have HE4 := hid (HE3.out.trans hE); clear hE tk2 _t)
          | (go_at_call 22; refine (HS.out _ HE4.out).mono ?_; rintro e w5 ⟨rfl, hE⟩; have HE5 := hid (HE4.out.trans hE); clear hE)
          | (go_at_call 21; refine (HII2.out _ HE5.out).mono ?_; rintro e w6 ⟨rfl, hE⟩; have HE6 := hid (HE5.out.trans hE); clear hE))
        go_ret
        exact ⟨rfl, HE6.out⟩
section
variable {H : Type} {enc : TypeId × Value → H} {P : Program} {w : World} {base : Nat} {spare : Nat → Bool} {held : Bool}
theorem trodAll_args {t0 t1 : TypeId} {args : Array Value} {ds : List (DataW H)} {ps : List MemPlace} (h : DataW.TrodAll enc P w base spare held [t0, t1] args.toList ds ps) :
    ∃ v0 v1 d0 d1 p0 p1, args = #[v0, v1] ∧ ds = [d0, d1] ∧ DataW.Trod enc P w base spare held t0 v0 d0 p0 ∧ DataW.Trod enc P w base spare held t1 v1 d1 p1 := by
  obtain ⟨v0, vs0, d0, ds0, p0, q0, hargs, rfl, rfl, hd0, hr0⟩ := trodAll_cons h
  obtain ⟨v1, vs1, d1, ds1, p1, q1, rfl, rfl, rfl, hd1, hr1⟩ := trodAll_cons hr0
  obtain ⟨rfl, rfl, rfl⟩ := trodAll_nil hr1
  exact ⟨v0, v1, d0, d1, p0, p1, by cases args; simp_all, rfl, hd0, hd1⟩
end
theorem own : ownKnob Try.prog.godebug = none := by kernel_rfl
set_option maxRecDepth 100000 in
theorem lifted (os : Os) (started : os.Started) (H : Type) (enc : TypeId × Value → H) :
    ReturnsInHanded {} Try.checked os 5 .any (Rows.fnEqualConflictsSpec.pre6 enc Try.prog Try.f5 Rows.fnEqualConflictsRow.domain false) (Rows.fnEqualConflictsSpec.post enc Try.prog Try.f5 false true false false) := by
  refine law_lifted (C := Try.checked) own started (by kernel_rfl) Try.func5 (by kernel_rfl)
    (fun t ht => by
      have ht' : t ∈ ([38, 38] : List TypeId) := by rwa [Try.params5] at ht
      simp only [List.mem_cons, List.not_mem_nil, or_false] at ht'
      rcases ht' with rfl | rfl <;> exact ⟨by kernel_rfl, of_decide_eq_true (by kernel_rfl)⟩) (by kernel_rfl) rfl
    (fun ds hl => by rw [Try.params5] at hl; match ds, hl with | [d0, d1], _ => exact ⟨rfl, rfl, rfl⟩)
    (ChangeSpec.witness6 (enc := enc) (C := Try.checked) false ⟨#[], #[.slice none 0 0, .slice none 0 0], []⟩ 8 (by kernel_rfl) (by kernel_rfl) (by kernel_rfl) (by kernel_rfl)) ?_
  intro W base args ds p hval hA hsz
  rw [Try.params5] at hA hval hsz
  obtain ⟨v0, v1, d0, d1, p0, p1, rfl, rfl, h0, h1⟩ := trodAll_args hA
  have hw : ∀ n ∈ DataW.weightsEach Try.prog [38, 38] [d0, d1], n ≤ 140737488351232 := by
    intro n hn
    exact of_decide_eq_true (List.all_eq_true.1 hsz n hn)
  obtain ⟨a0, n0, c0, rfl⟩ := okWide_slice Try.underlying38 (hval 0 38 v0 rfl rfl)
  obtain ⟨fu0, h0⟩ := h0
  obtain ⟨x0, l0, e0, hg0⟩ := open_gcs fu0 _ (d0, p0) h0 (weightsEach_mem (j := 0) rfl rfl hw)
  simp only [Value.cells, List.cons.injEq, and_true] at e0
  subst e0
  obtain ⟨a1, n1, c1, rfl⟩ := okWide_slice Try.underlying38 (hval 1 38 v1 rfl rfl)
  obtain ⟨fu1, h1⟩ := h1
  obtain ⟨x1, l1, e1, hg1⟩ := open_gcs fu1 _ (d1, p1) h1 (weightsEach_mem (j := 1) rfl rfl hw)
  simp only [Value.cells, List.cons.injEq, and_true] at e1
  subst e1
  have := walk l0 l1 W _ _ hg0 hg1
  exact this

theorem over : Rows.fnEqualConflictsRow.holds Try.pinned (OpenSpec.ofChange Rows.fnEqualConflictsSpec) :=
  OpenClaim.holds_of_wide 5 Try.f5 rfl rfl rfl rfl rfl rfl rfl ⟨rfl, rfl, rfl, rfl, rfl⟩ rfl rfl rfl rfl rfl (by kernel_rfl) Try.func5 (by kernel_rfl)
    (of_decide_eq_true (by kernel_rfl)) (by unfold Func.isWrapper; first | (rw [if_pos (by decide +kernel)]; kernel_rfl) | (rw [if_neg (by decide +kernel)]; exact ⟨rfl, rfl⟩))
    (fun os started H enc _ => lifted os started H enc)

theorem proved : Rows.FnEqualConflictsSaid :=
  over
#print axioms proved
end Go.Proofs.Ytempfaefopfobaa.fnEqConf
