/- FnSortKeys: SortKeys returns the fields of a key, whose names differ, in the order of their names, each with its value; for every input. -/
import Derived.Test.YtempfaefopfobaaSpecSort
import Derived.Test.YtempfaefopfobaaSortKeys
import Derived.Test.YtempfaefopfobaaOrdElem
import Derived.Test.YtempfaefopfobaaElemArg
import Derived.StillTailTactics
import Derived.Test.YtempfaefopfobaaSame
import Derived.ChangeMaps5

namespace Go.Proofs.Ytempfaefopfobaa.fnSortKeys
open Go.ChangeShapes Go.WideShapes Go.ChangeAt Go.RowKit
set_option linter.unusedSimpArgs false
set_option linter.unusedVariables false
set_option maxRecDepth 100000

/-- the package's sorted key and the reference's are the same -/
theorem both (e : GE) : fromEl (.key (sortP (keyT e))) = ⟨1, ByteArray.empty, (sortP (zipG e)).map (·.1), (sortP (zipG e)).map (fun a => cleanG a.2), zeroG, 0⟩ := by
  have h : keyT e = (zipG e).map (fun a => (a.1, plainT a.2)) := by
    unfold keyT zipG
    rw [plainTs_eq, List.zip_map_right]
    rfl
  rw [h, sortP_map (fun a => (a.1, plainT a.2)) (fun _ => rfl)]
  simp only [fromEl, List.map_map]
  congr 1
  exact List.map_congr_left fun a _ => (clean_eq a.2).symm
set_option maxHeartbeats 4000000 in
theorem walk0 (e G : GE) (w : World) (cs : List Value) (hR : RepGE Any w e cs) (hG : G.l.length = G.keys.length)
    (hW : ∀ W cs, RepGE Any W e cs → Calls Try.prog 28 #[.agg cs.toArray] W fun en w' => ∃ cs', en = .returned (.agg cs'.toArray) ∧ RepGE (fun b => W.heap.size ≤ b) w' G cs' ∧ Ext W w')
    (hI : ∀ W cs, RepGE Any W e cs → Calls Try.prog 30 #[.agg cs.toArray] W fun en w' => ∃ cs', en = .returned (.agg cs'.toArray) ∧ RepGE (fun b => W.heap.size ≤ b) w' G cs' ∧ Ext W w') :
    Calls Try.prog 7 #[.agg cs.toArray] w fun en w' => en = .returned (.bool true) ∧ Ext w w' := by
  have HR := hid hR
  have HW := hid hW
  have HI := hid hI
  have HG := hid hG
  have HKS := hid (fun W x (h : RepGE Any W G x) => keySorted_any G x W h)
  generalize upK (cleanE G).keys = bk at HKS
  obtain ⟨k, s, a1, n1, c1, a2, n2, c2, v0, v1, v2, v3, v4, v5, n, rfl⟩ := hR.form
  clear hR hW hI hG
  go_enter Try.func7, Try.ntmps7
  have HE0 := hid ((Ext.refl w).alloc (.cells #[.int .i64 k, .string s, .slice a1 n1 c1, .slice a2 n2 c2, v0, v1, v2, v3, v4, v5, .int .i64 n] 34))
  have X0 := hid (heap_alloc_new w (.cells #[.int .i64 k, .string s, .slice a1 n1 c1, .slice a2 n2 c2, v0, v1, v2, v3, v4, v5, .int .i64 n] 34))
  go_upto_region 4 with (first
    | (go_at_call 27; refine (fits13_any e _ _ (HR.out.ext HE0.out)).mono ?_; rintro en w2 ⟨b, rfl, hE⟩; have HE2 := hid (HE0.out.trans hE); have X2 := hid (hE.block X0.out); obtain ⟨⟨z0, z1, z2, z3, z4, z5, z6, z7, z8, z9, z10⟩, f0, f1, f2, f3, f4, f5, f6, f7, f8, f9, f10⟩ := slot11 X2.out; cases b <;> clear hE)
    | (go_at_call 28; refine (HW.out _ _ (HR.out.ext HE2.out)).mono ?_; rintro en w3 ⟨cs3, rfl, hT, hE⟩; obtain ⟨kw, sw, aw, cw, bw, dw, u1, u2, u3, u4, u5, u6, u7, u8, u9, u10, nw, rfl, -⟩ := hT.form6; have HT3 := hid (hT.weak (S' := Any) (fun _ _ _ => trivial)); have HE3 := hid (HE2.out.trans hE); have X3 := hid (hE.block X2.out); clear hE hT))
  · go_ret
    exact ⟨rfl, HE2.out⟩
  have HT4 := hid (HT3.out.ext ((Ext.refl w3).alloc (.cells #[.int .i64 kw, .string sw, .slice aw G.keys.length cw, .slice bw G.l.length dw, .int .i64 u1, .int .i64 u2, .float .f64 u3, .string u4, .slice u5 u6 u7, .slice u8 u9 u10, .int .i64 nw] 34)))
  have HE4 := hid (HE3.out.alloc (.cells #[.int .i64 kw, .string sw, .slice aw G.keys.length cw, .slice bw G.l.length dw, .int .i64 u1, .int .i64 u2, .float .f64 u3, .string u4, .slice u5 u6 u7, .slice u8 u9 u10, .int .i64 nw] 34))
  have XW := hid (heap_alloc_new w3 (.cells #[.int .i64 kw, .string sw, .slice aw G.keys.length cw, .slice bw G.l.length dw, .int .i64 u1, .int .i64 u2, .float .f64 u3, .string u4, .slice u5 u6 u7, .slice u8 u9 u10, .int .i64 nw] 34))
  have X4 := hid (((Ext.refl w3).alloc (.cells #[.int .i64 kw, .string sw, .slice aw G.keys.length cw, .slice bw G.l.length dw, .int .i64 u1, .int .i64 u2, .float .f64 u3, .string u4, .slice u5 u6 u7, .slice u8 u9 u10, .int .i64 nw] 34)).block X3.out)
  generalize w3.alloc (.cells #[.int .i64 kw, .string sw, .slice aw G.keys.length cw, .slice bw G.l.length dw, .int .i64 u1, .int .i64 u2, .float .f64 u3, .string u4, .slice u5 u6 u7, .slice u8 u9 u10, .int .i64 nw] 34) = w4 at *
  generalize w3.heap.size = pb at *
  clear z0 z1 z2 z3 z4 z5 z6 z7 z8 z9 z10 f0 f1 f2 f3 f4 f5 f6 f7 f8 f9 f10
  obtain ⟨⟨y0, y1, y2, y3, y4, y5, y6, y7, y8, y9, y10⟩, -⟩ := slot11 XW.out
  go_upto_region 6 with (go_at_call 29; refine (HKS.out _ _ HT4.out).mono ?_; rintro en w5 ⟨rfl, hE⟩; have HE5 := hid (HE4.out.trans hE); have HT5 := hid (HT4.out.ext hE); have X5 := hid (hE.block X4.out); have XW5 := hid (hE.block XW.out); clear hE; cases bk)
  · go_ret
    exact ⟨rfl, HE5.out⟩
  clear y0 y1 y2 y3 y4 y5 y6 y7 y8 y9 y10
  obtain ⟨⟨z0, z1, z2, z3, z4, z5, z6, z7, z8, z9, z10⟩, -⟩ := slot11 X5.out
  go_upto_region 7 with (go_at_call 30; refine (HI.out _ _ (HR.out.ext HE5.out)).mono ?_; rintro en w6 ⟨cs6, rfl, hT, hE⟩; obtain ⟨kg, sg, ag, cg, bg, dg, q1, q2, q3, q4, q5, q6, q7, q8, q9, q10, ng, rfl, -⟩ := hT.form6; have HT6 := hid (hT.weak (S' := Any) (fun _ _ _ => trivial)); have HE6 := hid (HE5.out.trans hE); have HTW := hid (HT5.out.ext hE); have XW6 := hid (hE.block XW5.out); clear hE hT)
  have HQ7 := hid (HT6.out.ext ((Ext.refl w6).alloc (.cells #[.int .i64 kg, .string sg, .slice ag G.keys.length cg, .slice bg G.l.length dg, .int .i64 q1, .int .i64 q2, .float .f64 q3, .string q4, .slice q5 q6 q7, .slice q8 q9 q10, .int .i64 ng] 34)))
  have HP7 := hid (HTW.out.ext ((Ext.refl w6).alloc (.cells #[.int .i64 kg, .string sg, .slice ag G.keys.length cg, .slice bg G.l.length dg, .int .i64 q1, .int .i64 q2, .float .f64 q3, .string q4, .slice q5 q6 q7, .slice q8 q9 q10, .int .i64 ng] 34)))
  have HE7 := hid (HE6.out.alloc (.cells #[.int .i64 kg, .string sg, .slice ag G.keys.length cg, .slice bg G.l.length dg, .int .i64 q1, .int .i64 q2, .float .f64 q3, .string q4, .slice q5 q6 q7, .slice q8 q9 q10, .int .i64 ng] 34))
  have XQ := hid (heap_alloc_new w6 (.cells #[.int .i64 kg, .string sg, .slice ag G.keys.length cg, .slice bg G.l.length dg, .int .i64 q1, .int .i64 q2, .float .f64 q3, .string q4, .slice q5 q6 q7, .slice q8 q9 q10, .int .i64 ng] 34))
  have XP := hid (((Ext.refl w6).alloc (.cells #[.int .i64 kg, .string sg, .slice ag G.keys.length cg, .slice bg G.l.length dg, .int .i64 q1, .int .i64 q2, .float .f64 q3, .string q4, .slice q5 q6 q7, .slice q8 q9 q10, .int .i64 ng] 34)).block XW6.out)
  generalize w6.alloc (.cells #[.int .i64 kg, .string sg, .slice ag G.keys.length cg, .slice bg G.l.length dg, .int .i64 q1, .int .i64 q2, .float .f64 q3, .string q4, .slice q5 q6 q7, .slice q8 q9 q10, .int .i64 ng] 34) = w7 at *
  generalize w6.heap.size = qb at *
  clear z0 z1 z2 z3 z4 z5 z6 z7 z8 z9 z10
  obtain ⟨⟨z0, z1, z2, z3, z4, z5, z6, z7, z8, z9, z10⟩, -⟩ := slot11 XQ.out
  obtain ⟨⟨y0, y1, y2, y3, y4, y5, y6, y7, y8, y9, y10⟩, -⟩ := slot11 XP.out
  obtain ⟨_, _, _, _, _, _, _, _, _, _, _, _, _, _, _, _, _, e6, hk, hl, -⟩ := HP7.out.form6
  simp only [List.cons.injEq, and_true, Value.int.injEq, Value.string.injEq, Value.slice.injEq, Value.float.injEq, true_and] at e6
  obtain ⟨rfl, rfl, ⟨rfl, rfl⟩, ⟨rfl, rfl⟩, -⟩ := e6
  obtain ⟨_, _, _, _, _, _, _, _, _, _, _, _, _, _, _, _, _, e6, hk', hl', -⟩ := HQ7.out.form6
  simp only [List.cons.injEq, and_true, Value.int.injEq, Value.string.injEq, Value.slice.injEq, Value.float.injEq, true_and] at e6
  obtain ⟨rfl, rfl, ⟨rfl, rfl⟩, ⟨rfl, rfl⟩, -⟩ := e6
  obtain ⟨_, kb, ko, _, hke, hks, kat⟩ := hk.at'
  obtain ⟨_, lb, lo, _, hle, -, lat⟩ := hl.at'
  simp only [Value.slice.injEq, true_and] at hke hle
  obtain ⟨rfl, rfl⟩ := hke
  obtain ⟨rfl, rfl⟩ := hle
  obtain ⟨_, kb', ko', _, hke, -, kat'⟩ := hk'.at'
  obtain ⟨_, lb', lo', _, hle, -, lat'⟩ := hl'.at'
  simp only [Value.slice.injEq, true_and] at hke hle
  obtain ⟨rfl, rfl⟩ := hke
  obtain ⟨rfl, rfl⟩ := hle
  have HA := hid (And.intro kat (And.intro lat (And.intro kat' lat')))
  clear hk hl hk' hl' kat lat kat' lat'
  go_wp2_with fail
  clear z0 z1 z2 z3 z4 z5 z6 z7 z8 z9 z10 y0 y1 y2 y3 y4 y5 y6 y7 y8 y9 y10
  go_loopw [35] (fun i wr => ∃ j : Nat, i = .int .i64 j ∧ j ≤ G.keys.length ∧ Hid (Ext w7 wr)) (fun i _ => G.keys.length - (intOf i).toNat)
  case atStart => exact ⟨0, rfl, Nat.zero_le _, hid (Ext.refl _)⟩
  case round =>
    obtain ⟨i, rfl, hi, HX⟩ := hrel
    by_cases h1 : i < G.keys.length
    · obtain ⟨s, hs⟩ : ∃ s, G.keys[i]? = some s := ⟨_, List.getElem?_eq_getElem h1⟩
      obtain ⟨g, hg⟩ : ∃ g, G.l[i]? = some g := ⟨_, List.getElem?_eq_getElem (by have := HG.out; omega)⟩
      obtain ⟨kat, lat, kat', lat'⟩ := HA.out
      obtain ⟨rfl, k1, -⟩ := kat i s hs
      obtain ⟨rfl, r1, r2, r3, r4, r5, r6, r7, r8, r9, r10, l1, hP⟩ := lat i g hg
      obtain ⟨rfl, k2, -⟩ := kat' i s hs
      obtain ⟨rfl, m1, m2, m3, m4, m5, m6, m7, m8, m9, m10, l2, hQ⟩ := lat' i g hg
      have K := hid (show ∀ w' : World, Ext w7 w' → (fun w' : World => w'.cell? ⟨pb, 2, none⟩ = some (.slice (some ⟨kb, ko, none⟩) G.keys.length cw) ∧ w'.cell? ⟨kb, ko + i, none⟩ = some (.string s) ∧ w'.cell? ⟨pb, 3, none⟩ = some (.slice (some ⟨lb, lo, none⟩) G.l.length dw) ∧ w'.cell? ⟨lb, lo + i * 6, none⟩ = some (.int .i64 r1) ∧ w'.cell? ⟨lb, lo + i * 6 + 1, none⟩ = some (.int .i64 r2) ∧ w'.cell? ⟨lb, lo + i * 6 + 2, none⟩ = some (.float .f64 r3) ∧ w'.cell? ⟨lb, lo + i * 6 + 3, none⟩ = some (.string r4) ∧ w'.cell? ⟨lb, lo + i * 6 + 4, none⟩ = some (.slice r5 r6 r7) ∧ w'.cell? ⟨lb, lo + i * 6 + 5, none⟩ = some (.slice r8 r9 r10) ∧ w'.cell? ⟨qb, 2, none⟩ = some (.slice (some ⟨kb', ko', none⟩) G.keys.length cg) ∧ w'.cell? ⟨kb', ko' + i, none⟩ = some (.string s) ∧ w'.cell? ⟨qb, 3, none⟩ = some (.slice (some ⟨lb', lo', none⟩) G.l.length dg) ∧ w'.cell? ⟨lb', lo' + i * 6, none⟩ = some (.int .i64 m1) ∧ w'.cell? ⟨lb', lo' + i * 6 + 1, none⟩ = some (.int .i64 m2) ∧ w'.cell? ⟨lb', lo' + i * 6 + 2, none⟩ = some (.float .f64 m3) ∧ w'.cell? ⟨lb', lo' + i * 6 + 3, none⟩ = some (.string m4) ∧ w'.cell? ⟨lb', lo' + i * 6 + 4, none⟩ = some (.slice m5 m6 m7) ∧ w'.cell? ⟨lb', lo' + i * 6 + 5, none⟩ = some (.slice m8 m9 m10)) w' from fun w' h => by
        obtain ⟨⟨z0, z1, z2, z3, z4, z5, z6, z7, z8, z9, z10⟩, -⟩ := slot11 (h.block XQ.out)
        obtain ⟨⟨y0, y1, y2, y3, y4, y5, y6, y7, y8, y9, y10⟩, -⟩ := slot11 (h.block XP.out)
        obtain ⟨c0, c1, c2, c3, c4, c5⟩ := cells6 (cellsAt_ext h l1)
        obtain ⟨d0, d1, d2, d3, d4, d5⟩ := cells6 (cellsAt_ext h l2)
        exact ⟨y2, h.cellS k1, y3, c0, c1, c2, c3, c4, c5, z2, h.cellS k2, z3, d0, d1, d2, d3, d4, d5⟩)
      have HP := hid hP
      have HQ := hid hQ
      have hi0 : (0 : Int) ≤ (i : Int) := by omega
      have hi1 : (i : Int) < (G.keys.length : Int) := by omega
      have hi2 : (i : Int) < (G.l.length : Int) := by have := HG.out; omega
      clear hs hg kat lat kat' lat' k1 k2 l1 l2 hP hQ
      go_upto_region 12 with fail
      obtain ⟨x1, x2, x3, x4, x5, x6, x7, x8, x9, x10, x11, x12, x13, x14, x15, x16, x17, x18⟩ := K.out _ HX.out
      go_still_tail 22, (by kernel_rfl)
      change wpList _ _ _ _ _ wr.drew
      go_wp2_with (go_at_call 31; refine (same_any _ g g rfl _ _ (HQ.out.ext HX.out.drew) (HP.out.ext HX.out.drew)).mono ?_; rintro en w8 ⟨rfl, hE⟩; have HX8 := hid (HX.out.drew.trans hE); clear hE)
      all_goals
        exact ⟨⟨i + 1, by first | rfl | (congr 1; omega), by omega, HX8⟩, by simp [intOf]; omega⟩
    · have hkk : i = G.keys.length := by omega
      go_wp2_with fail
      go_ret
      exact ⟨rfl, HE7.out.trans HX.out⟩
theorem walk (e : GE) (w : World) (cs : List Value) (hR : RepGE Any w e cs) : Calls Try.prog 7 #[.agg cs.toArray] w fun en w' => en = .returned (.bool true) ∧ Ext w w' :=
  walk0 e _ w cs hR (by simp) (fun W cs h => specSortKeys_any e cs W h) (fun W cs h => both e ▸ sortKeys_any e cs W h)

section
variable {H : Type} {enc : TypeId × Value → H} {P : Program} {w : World} {base : Nat} {spare : Nat → Bool} {held : Bool}
theorem trodAll_args {t0 : TypeId} {args : Array Value} {ds : List (DataW H)} {ps : List MemPlace} (h : DataW.TrodAll enc P w base spare held [t0] args.toList ds ps) :
    ∃ v0 d0 p0, args = #[v0] ∧ ds = [d0] ∧ DataW.Trod enc P w base spare held t0 v0 d0 p0 := by
  obtain ⟨v0, vs0, d0, ds0, p0, q0, hargs, rfl, rfl, hd0, hr0⟩ := trodAll_cons h
  obtain ⟨rfl, rfl, rfl⟩ := trodAll_nil hr0
  exact ⟨v0, d0, p0, by cases args; simp_all, rfl, hd0⟩
end
theorem own : ownKnob Try.prog.godebug = none := by kernel_rfl
set_option maxRecDepth 100000 in
theorem lifted (os : Os) (started : os.Started) (H : Type) (enc : TypeId × Value → H) :
    ReturnsInHanded {} Try.checked os 7 .any (Rows.fnSortKeysSpec.pre6 enc Try.prog Try.f7 Rows.fnSortKeysRow.domain false) (Rows.fnSortKeysSpec.post enc Try.prog Try.f7 false true false false) := by
  refine law_lifted (C := Try.checked) own started (by kernel_rfl) Try.func7 (by kernel_rfl)
    (fun t ht => by
      have ht' : t ∈ ([34] : List TypeId) := by rwa [Try.params7] at ht
      simp only [List.mem_cons, List.not_mem_nil, or_false] at ht'
      rcases ht' with rfl <;> exact ⟨by kernel_rfl, of_decide_eq_true (by kernel_rfl)⟩) (by kernel_rfl) rfl
    (fun ds hl => by rw [Try.params7] at hl; match ds, hl with | [d0], _ => exact ⟨rfl, rfl, rfl⟩)
    (ChangeSpec.witness6 (enc := enc) (C := Try.checked) false ⟨#[], #[.agg #[.int .i64 0, .string ⟨#[]⟩, .slice none 0 0, .slice none 0 0, .int .i64 0, .int .i64 0, .float .f64 0, .string ⟨#[]⟩, .slice none 0 0, .slice none 0 0, .int .i64 0]], []⟩ 8 (by kernel_rfl) (by kernel_rfl) (by kernel_rfl) (by kernel_rfl)) ?_
  intro W base args ds p hval hA hsz
  rw [Try.params7] at hA hval hsz
  obtain ⟨v0, d0, p0, rfl, rfl, h0⟩ := trodAll_args hA
  have hw : ∀ n ∈ DataW.weightsEach Try.prog [34] [d0], n ≤ 140737488351232 := by
    intro n hn
    exact of_decide_eq_true (List.all_eq_true.1 hsz n hn)
  obtain ⟨cs0, rfl, _⟩ := okWide_struct Try.underlying34 (hval 0 34 v0 rfl rfl)
  obtain ⟨fu0, h0⟩ := h0
  obtain ⟨g0, hg0⟩ := open_ge fu0 cs0.toList (d0, p0) h0 (weightsEach_mem (j := 0) rfl rfl hw)
  have := walk g0 W cs0.toList hg0
  rwa [Array.toArray_toList] at this

theorem over : Rows.fnSortKeysRow.holds Try.pinned (OpenSpec.ofChange Rows.fnSortKeysSpec) :=
  OpenClaim.holds_of_wide 7 Try.f7 rfl rfl rfl rfl rfl rfl rfl ⟨rfl, rfl, rfl, rfl, rfl⟩ rfl rfl rfl rfl rfl (by kernel_rfl) Try.func7 (by kernel_rfl)
    (of_decide_eq_true (by kernel_rfl)) (by unfold Func.isWrapper; first | (rw [if_pos (by decide +kernel)]; kernel_rfl) | (rw [if_neg (by decide +kernel)]; exact ⟨rfl, rfl⟩))
    (fun os started H enc _ => lifted os started H enc)

theorem proved : Rows.FnSortKeysSaid :=
  over
#print axioms proved
end Go.Proofs.Ytempfaefopfobaa.fnSortKeys
