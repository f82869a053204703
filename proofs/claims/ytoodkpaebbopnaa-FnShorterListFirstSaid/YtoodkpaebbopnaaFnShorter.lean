/- FnShorterListFirst: a list comes before every list that begins with it and goes on, and equals itself; for every input. -/
import Derived.Test.YtoodkpaebbopnaaLists
import Derived.ChangeMaps5
namespace Go.Proofs.Ytoodkpaebbopnaa.fnShorter
open Go.ChangeShapes Go.WideShapes Go.ChangeAt Go.RowKit
set_option linter.unusedSimpArgs false
set_option linter.unusedVariables false
set_option maxRecDepth 100000

section
variable {H : Type} {enc : TypeId × Value → H} {w : World} {base : Nat} {spare : Nat → Bool} {held : Bool}
theorem open_gvs (fuel : Nat) (cs : List Value) (x : DataW H × List MemPlace) (h : DataW.trod enc Try.prog w base spare held fuel 24 cs = some x) (hw : Wt Try.prog 24 x.1) : ∃ v l, cs = [v] ∧ RepVals Any w v l := by
  obtain ⟨a, b, o, len, cap, rfl, hl, hb, ha, hel⟩ := open_sl Try.underlying24 (by rw [cellsV]; omega) h hw
  rw [bytesV] at hb
  rw [cellsV] at hel
  have key : ∀ i, i < len → ∃ g, ∃ cs', cs'.length = 6 ∧ cellsAt w b (o + i * 6) cs' ∧ RepGV Any w g cs' := by
    intro i hi
    obtain ⟨n', cs', y, hn', h6, h7, h8, h9⟩ := hel i hi
    obtain ⟨g, hg⟩ := open_gv n' cs' y h8 h9
    exact ⟨g, cs', h6, h7, hg⟩
  haveI : Inhabited GV := ⟨.mk 0 0 0 ByteArray.empty [] []⟩
  obtain ⟨fg, hfg⟩ := Deep.choose_lt (α := GV) key
  refine ⟨_, (List.range len).map fg, rfl, a, b, o, cap, by simp, by simpa using hl, by simpa using hb, fun h0 => ⟨ha (by simpa using h0), trivial⟩, fun i hi => ?_, fun i g cs' hg hlen hc => ?_⟩
  · obtain ⟨cs', h6, h7, _⟩ := hfg i (by simpa using hi)
    exact ⟨cs', h6, h7⟩
  · simp only [List.getElem?_map, Option.map_eq_some_iff] at hg
    obtain ⟨j, hj, rfl⟩ := hg
    obtain ⟨hj1, hj2⟩ := List.getElem?_eq_some_iff.1 hj
    simp at hj1 hj2
    subst hj2
    obtain ⟨cs2, h6, h7, h8⟩ := hfg i hj1
    obtain rfl := cellsAt_unique hc h7 (hlen.trans h6.symm)
    exact h8
end
set_option maxHeartbeats 4000000 in
theorem walk (l l' : List GV) (w : World) (v v' : Value) (hv : RepVals Any w v l) (hv' : RepVals Any w v' l') :
    Calls Try.prog 6 #[v, v'] w fun e w' => e = .returned (.bool true) ∧ Ext w w' := by
  have HV := hid hv
  have HV' := hid hv'
  obtain ⟨a, b, o, c, rfl, -⟩ := hv
  obtain ⟨a', b', o', c', rfl, -⟩ := hv'
  have HEQ := hid (show ordGs l = true → eqLs eqT (plainTs l) (plainTs l) = true from fun h => eqLs_refl fun t ht => by
    obtain ⟨j, hj⟩ := List.mem_iff_getElem?.1 ht
    obtain ⟨g, hg, rfl⟩ := plainTs_get hj
    rw [ordGs_eq, List.all_eq_true] at h
    exact eq_self (wfT g) (noNaN (h g (List.mem_of_getElem? hg))))
  have hrefl : ∀ t ∈ plainTs l, cmpT t t = 0 := fun t ht => by
    obtain ⟨j, hj⟩ := List.mem_iff_getElem?.1 ht
    obtain ⟨g, hg, rfl⟩ := plainTs_get hj
    exact cmp_self (wfT g)
  have HCR := hid (cmpLs_refl hrefl)
  obtain ⟨lw, hlw⟩ : ∃ lw, lw = l ++ l' := ⟨_, rfl⟩
  have hap : plainTs lw = plainTs l ++ plainTs l' := by rw [hlw]; simp [plainTs_eq]
  have HSH := hid (show l'.length ≠ 0 → cmpLs cmpT (plainTs l) (plainTs lw) = -1 ∧ cmpLs cmpT (plainTs lw) (plainTs l) = 1 from fun h => by rw [hap]; exact cmpLs_shorter (z := cmpT) (r := plainTs l') hrefl (fun e => h (by rw [← plainTs_length, e]; rfl)))
  have HNE := hid (show l'.length ≠ 0 → eqLs eqT (plainTs l) (plainTs lw) = false from fun h => eqLs_len (by rw [hlw]; simp only [plainTs_length, List.length_append]; omega))
  have HJN := hid (fun (W : World) v1 v2 (k1 : RepVals Any W v1 l) (k2 : RepVals Any W v2 l') n1 n2 => hlw ▸ joined_any v1 v2 l l' W k1 k2 n1 n2)
  clear hap hlw
  clear hrefl
  go_enter Try.func6, Try.ntmps6
  by_cases h1 : (l.length : Int) > 2147483647
  · go_wp2_with fail
    go_ret
    exact ⟨rfl, Ext.refl _⟩
  by_cases h2 : (l'.length : Int) > 2147483647
  · go_wp2_with fail
    go_ret
    exact ⟨rfl, Ext.refl _⟩
  cases ho : ordGs l
  · have HO := hid ho
    clear ho
    go_wp2_with (go_at_call 24; refine (ordVals_any _ l _ HV.out).mono ?_; rw [HO.out]; rintro e w2 ⟨rfl, hE⟩; have HE2 := hid hE; clear hE)
    go_ret
    exact ⟨rfl, HE2.out⟩
  have HO := hid ho
  clear ho
  have tk : True := trivial
  have tk2 : True := trivial
  by_cases h3 : l'.length = 0
  · have hd : ((l'.length : Int) == 0) = true := by rw [beq_iff_eq]; omega
    go_wp2_with (first
      | (go_at_call 24; refine (ordVals_any _ l _ HV.out).mono ?_; rw [HO.out]; rintro e w2 ⟨rfl, hE⟩; have HE2 := hid hE; clear hE)
      | (go_at_call 25; refine (elists_any l l _ _ _ (HV.out.ext HE2.out) (HV.out.ext HE2.out)).mono ?_; rw [HEQ.out HO.out]; rintro e w3 ⟨rfl, hE⟩; have HE3 := hid (HE2.out.trans hE); clear hE)
      | (go_at_call 26; refine (clists_any l l _ _ _ (HV.out.ext HE3.out) (HV.out.ext HE3.out)).mono ?_; rw [HCR.out]; rintro e w4 ⟨rfl, hE⟩; have HE4 := hid (HE3.out.trans hE); clear hE))
    go_ret
    exact ⟨rfl, HE4.out⟩
  have hd : ((l'.length : Int) == 0) = false := by rw [beq_eq_false_iff_ne]; omega
  have H3 := hid h3
  clear h3
  go_wp2_with (first
    | (go_at_call 24; refine (ordVals_any _ l _ HV.out).mono ?_; rw [HO.out]; rintro e w2 ⟨rfl, hE⟩; have HE2 := hid hE; clear hE)
    | (go_at_call 25; have _t := tk; refine (elists_any l l _ _ _ (HV.out.ext HE2.out) (HV.out.ext HE2.out)).mono ?_; rw [HEQ.out HO.out]; rintro e w3 ⟨rfl, hE⟩; have HE3 := hid (HE2.out.trans hE); clear hE tk _t)
    | (go_at_call 27; refine (HJN.out _ _ _ (HV.out.ext HE4.out) (HV'.out.ext HE4.out) (by omega) (by omega)).mono ?_; rintro e w5 ⟨vj, rfl, hj, hE⟩; have HE5 := hid (HE4.out.trans hE); have HJ := hid hj; obtain ⟨aj, bj, oj, cj, rfl, -⟩ := hj; clear hE)
    | (go_at_call_of 26 aj; have _t := tk2; refine (clists_any l lw _ _ _ (HV.out.ext HE5.out) HJ.out).mono ?_; rw [(HSH.out H3.out).1]; rintro e w6 ⟨rfl, hE⟩; have HE56 := hid hE; have HE6 := hid (HE5.out.trans hE); clear hE tk2 _t)
    | (go_at_call_of 26 aj; refine (clists_any lw l _ _ _ (HJ.out.ext HE56.out) (HV.out.ext HE6.out)).mono ?_; rw [(HSH.out H3.out).2]; rintro e w7 ⟨rfl, hE⟩; have HE57 := hid (HE56.out.trans hE); have HE7 := hid (HE6.out.trans hE); clear hE)
    | (go_at_call_of 25 aj; refine (elists_any l lw _ _ _ (HV.out.ext HE7.out) (HJ.out.ext HE57.out)).mono ?_; rw [HNE.out H3.out]; rintro e w8 ⟨rfl, hE⟩; have HE8 := hid (HE7.out.trans hE); clear hE)
    | (go_at_call 26; refine (clists_any l l _ _ _ (HV.out.ext HE3.out) (HV.out.ext HE3.out)).mono ?_; rw [HCR.out]; rintro e w4 ⟨rfl, hE⟩; have HE4 := hid (HE3.out.trans hE); clear hE))
  go_ret
  exact ⟨rfl, HE8.out⟩

theorem own : ownKnob Try.prog.godebug = none := by kernel_rfl
set_option maxRecDepth 100000 in
theorem lifted (os : Os) (started : os.Started) (H : Type) (enc : TypeId × Value → H) :
    ReturnsInHanded {} Try.checked os 6 .any (Rows.fnShorterListFirstSpec.pre6 enc Try.prog Try.f6 Rows.fnShorterListFirstRow.domain false) (Rows.fnShorterListFirstSpec.post enc Try.prog Try.f6 false true false false) := by
  refine law_lifted (C := Try.checked) own started (by kernel_rfl) Try.func6 (by kernel_rfl)
    (fun t ht => by rw [Try.params6] at ht; simp at ht; subst ht; exact ⟨by kernel_rfl, of_decide_eq_true (by kernel_rfl)⟩) (by kernel_rfl) rfl
    (fun ds hl => by rw [Try.params6] at hl; match ds, hl with | [d1, d2], _ => exact ⟨rfl, rfl, rfl⟩)
    (ChangeSpec.witness6 (enc := enc) (C := Try.checked) false ⟨#[], #[.slice none 0 0, .slice none 0 0], []⟩ 8 (by kernel_rfl) (by kernel_rfl) (by kernel_rfl) (by kernel_rfl)) ?_
  intro W base args ds p hval hA hsz
  rw [Try.params6] at hA hval hsz
  obtain ⟨v0, v1, d0, d1, p0, p1, rfl, rfl, rfl, h0, h1⟩ := trodAll_two hA
  obtain ⟨a0, n0, c0, rfl⟩ := okWide_slice Try.underlying24 (hval 0 24 v0 rfl rfl)
  obtain ⟨a1, n1, c1, rfl⟩ := okWide_slice Try.underlying24 (hval 1 24 v1 rfl rfl)
  have hw : ∀ n ∈ DataW.weightsEach Try.prog [24, 24] [d0, d1], n ≤ 140737488351232 := by
    intro n hn
    exact of_decide_eq_true (List.all_eq_true.1 hsz n hn)
  obtain ⟨fuel, h0⟩ := h0
  obtain ⟨fuel2, h1⟩ := h1
  obtain ⟨v, l, e, hv⟩ := open_gvs fuel _ (d0, p0) h0 (weightsEach_mem (j := 0) rfl rfl hw)
  obtain ⟨v', l', e', hv'⟩ := open_gvs fuel2 _ (d1, p1) h1 (weightsEach_mem (j := 1) rfl rfl hw)
  simp only [Value.cells, List.cons.injEq, and_true] at e e'
  subst e e'
  exact walk l l' W _ _ hv hv'

theorem over : Rows.fnShorterListFirstRow.holds Try.pinned (OpenSpec.ofChange Rows.fnShorterListFirstSpec) :=
  OpenClaim.holds_of_wide 6 Try.f6 rfl rfl rfl rfl rfl rfl rfl ⟨rfl, rfl, rfl, rfl, rfl⟩ rfl rfl rfl rfl rfl (by kernel_rfl) Try.func6 (by kernel_rfl)
    (of_decide_eq_true (by kernel_rfl)) (by unfold Func.isWrapper; first | (rw [if_pos (by decide +kernel)]; kernel_rfl) | (rw [if_neg (by decide +kernel)]; exact ⟨rfl, rfl⟩))
    (fun os started H enc _ => lifted os started H enc)

theorem proved : Rows.FnShorterListFirstSaid :=
  over
#print axioms proved
end Go.Proofs.Ytoodkpaebbopnaa.fnShorter
