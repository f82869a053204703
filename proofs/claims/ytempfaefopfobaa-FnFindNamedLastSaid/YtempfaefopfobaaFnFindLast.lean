/- FnFindNamedLast: of several types of one name in a schema, looking for the name finds the last one, and so does a reference by that name without a relationship of its own; for every input. -/
import Derived.Test.YtempfaefopfobaaFind
import Derived.Test.YtempfaefopfobaaAlikeB
import Derived.ChangeMaps5

namespace Go.Proofs.Ytempfaefopfobaa.fnFindLast
open Go.ChangeShapes Go.WideShapes Go.ChangeAt Go.RowKit
set_option linter.unusedSimpArgs false
set_option linter.unusedVariables false
set_option maxRecDepth 100000

theorem formA3 {S : Nat → Prop} {w : World} {g : GS} {c0 c1 c2 : Value} (h : RepGS S w g [c0, c1, c2]) (ht : g.tag = 2) : ∃ s p0 p1 p2 q0 q1 q2, c0 = .string s ∧ c1 = .slice p0 p1 p2 ∧ c2 = .slice q0 q1 q2 := by
  obtain ⟨s, p0, p1, p2, q0, q1, q2, e⟩ := h.formA ht
  simp only [List.cons.injEq, and_true] at e
  exact ⟨_, _, _, _, _, _, _, e.1, e.2.1, e.2.2⟩
set_option maxHeartbeats 4000000 in
theorem walk_n (v : Value) (ts : List (ByteArray × GS)) (name : ByteArray) (hname : name.size ≤ 140737488351232) (w : World) (h : RepDefs Any w v ts) (hl : lastDef ts name = none) :
    Calls Try.prog 9 #[.agg #[v], .string name] w fun e w' => e = .returned (.bool true) ∧ Ext w w' := by
  have HF6 := hid (fun W (hW : Ext w W) => fits6_any v ts W (h.ext hW))
  have HDS := hid (fun W (hW : Ext w W) => definedSchema_any v ts W (h.ext hW))
  have HIF := hid (fun W (hW : Ext w W) => implFind_any v ts name W (h.ext hW))
  have HIR := hid (fun W (hW : Ext w W) => implResolve_any v ts name hname W (h.ext hW))
  rw [hl] at HIF HIR
  obtain ⟨va, vb, vo, vc, rfl, hsz, hat⟩ := h.at'
  have HA := hid hat
  have HLD := hid hl
  skip
  clear h hat hl
  generalize hn : ts.length = n at *
  have HN := hid hn
  clear hn
  have HX0 := hid (heap_alloc_new w (.cells #[.slice va n vc] 62))
  have HE0 := hid ((Ext.refl w).alloc (.cells #[.slice va n vc] 62))
  have hmw : IntKind.i64.wrap ((n : Int) - 1) = (n : Int) - 1 := by simp [IntKind.wrap, IntKind.signed, IntKind.bits]; omega
  go_enter Try.func9, Try.ntmps9
  go_upto_region 1 with fail
  generalize w.alloc (.cells #[.slice va n vc] 62) = w1 at *
  have x0 := (cell_of_heap HX0.out 0).trans rfl
  by_cases hbig : name.size > 2147483647
  · go_wp2_with (go_at_call 35; refine (HF6.out _ HE0.out).mono ?_; rintro e w2 ⟨b, rfl, hE⟩; have HE2 := hid (HE0.out.trans hE); cases b <;> clear hE)
    all_goals
      go_ret
      exact ⟨rfl, HE2.out⟩
  · go_upto_region 5 with (first
      | (go_at_call 35; refine (HF6.out _ HE0.out).mono ?_; rintro e w2 ⟨b, rfl, hE⟩; have HE2 := hid (HE0.out.trans hE); have X2 := hid (hE.block HX0.out); have x2 := (cell_of_heap X2.out 0).trans rfl; cases b <;> clear hE)
      | (go_at_call 36; refine (HDS.out _ HE2.out).mono ?_; rintro e w3 ⟨b, rfl, hE⟩; have HE3 := hid (HE2.out.trans hE); have X3 := hid (hE.block X2.out); have x3 := (cell_of_heap X3.out 0).trans rfl; cases b <;> clear hE))
    · go_ret
      exact ⟨rfl, HE2.out⟩
    · go_ret
      exact ⟨rfl, HE3.out⟩
    go_upto_region 6 with (go_at_call 37; refine (HIF.out _ HE3.out).mono ?_; rintro e w4 ⟨⟨g1, ca0, ca1, ca2, rfl, ht1, hk1, hr1⟩, hE⟩; obtain ⟨a0, a1, a2, a3, a4, a5, a6, rfl, rfl, rfl⟩ := formA3 hr1 ht1; have HE4 := hid (HE3.out.trans hE); have X4 := hid (hE.block X3.out); have HT1 := hid ht1; have HK1 := hid hk1; have HR1 := hid hr1; clear hE ht1 hk1 hr1 x0 x2 x3)
    have HG1 := hid (heap_alloc_new w4 (.cells #[.string a0, .slice a1 a2 a3, .slice a4 a5 a6] 53))
    have HE5 := hid (HE4.out.alloc (.cells #[.string a0, .slice a1 a2 a3, .slice a4 a5 a6] 53))
    have X5 := hid (((Ext.refl w4).alloc (.cells #[.string a0, .slice a1 a2 a3, .slice a4 a5 a6] 53)).block X4.out)
    have HR1' := hid (HR1.out.ext ((Ext.refl w4).alloc (.cells #[.string a0, .slice a1 a2 a3, .slice a4 a5 a6] 53)))
    generalize w4.alloc (.cells #[.string a0, .slice a1 a2 a3, .slice a4 a5 a6] 53) = w5 at *
    generalize hG1 : w4.heap.size = G1 at *
    have x5 := (cell_of_heap X5.out 0).trans rfl
    go_upto_region 7 with (go_at_call 38; refine (HIR.out _ HE5.out).mono ?_; rintro e w6 ⟨⟨g2, cb0, cb1, cb2, rfl, ht2, hk2, hr2⟩, hE⟩; obtain ⟨b0, b1, b2, b3, b4, b5, b6, rfl, rfl, rfl⟩ := formA3 hr2 ht2; have HE6 := hid (HE5.out.trans hE); have X6 := hid (hE.block X5.out); have HT2 := hid ht2; have HK2 := hid hk2; have HR2 := hid hr2; have HG16 := hid (hE.block HG1.out); have HR16 := hid (HR1'.out.ext hE); clear hE ht2 hk2 hr2 x5)
    have HG2 := hid (heap_alloc_new w6 (.cells #[.string b0, .slice b1 b2 b3, .slice b4 b5 b6] 53))
    have HE7 := hid (HE6.out.alloc (.cells #[.string b0, .slice b1 b2 b3, .slice b4 b5 b6] 53))
    have X7 := hid (((Ext.refl w6).alloc (.cells #[.string b0, .slice b1 b2 b3, .slice b4 b5 b6] 53)).block X6.out)
    have HG17 := hid (((Ext.refl w6).alloc (.cells #[.string b0, .slice b1 b2 b3, .slice b4 b5 b6] 53)).block HG16.out)
    have HR17 := hid (HR16.out.ext ((Ext.refl w6).alloc (.cells #[.string b0, .slice b1 b2 b3, .slice b4 b5 b6] 53)))
    have HR27 := hid (HR2.out.ext ((Ext.refl w6).alloc (.cells #[.string b0, .slice b1 b2 b3, .slice b4 b5 b6] 53)))
    generalize w6.alloc (.cells #[.string b0, .slice b1 b2 b3, .slice b4 b5 b6] 53) = w7 at *
    generalize hG2 : w6.heap.size = G2 at *
    clear hG1 hG2 HE2 HE3 HE4 HE5 HE6 X2 X3 X4 X5 X6 HG1 HG16 HR1 HR1' HR16 HR2 HX0 HE0
    have x7 := (cell_of_heap X7.out 0).trans rfl
    go_upto_region 8 with fail
    clear x7
    go_loopw [9] (fun i wr => ∃ (k : Nat) (m : Int), i = .int .i64 m ∧ m + 1 = k ∧ k ≤ n ∧ Hid (lastDef (ts.drop k) name = none) ∧ Hid (Ext w7 wr)) (fun i _ => (intOf i + 1).toNat)
    case atStart => exact ⟨n, (n : Int) - 1, rfl, by omega, Nat.le_refl _, hid (by rw [List.drop_of_length_le (by rw [HN.out]; exact Nat.le_refl _)]; rfl), hid (Ext.refl _)⟩
    case round =>
      obtain ⟨k, m, rfl, hm, hk, HQ, HEr⟩ := hrel
      have HEW := HE7
      have cb := (cell_of_heap (HEr.out.block X7.out) 0).trans rfl
      cases k with
      | zero =>
        obtain rfl : m = -1 := by omega
        go_wp2_with fail
        go_ret
        exact ⟨rfl, HE7.out.trans HEr.out⟩
      | succ j =>
        obtain rfl : m = (j : Int) := by omega
        obtain ⟨p, hp⟩ : ∃ p, ts[j]? = some p := ⟨_, List.getElem?_eq_getElem (by have := HN.out; omega)⟩
        obtain ⟨rfl, htag, hps, s, p0, p1, p2, q0, q1, q2, hc, hR⟩ := HA.out j p hp
        have HC := hid (cellsAt_ext HE7.out hc)
        have c0 := HEr.out.cellS (show w7.cell? ⟨vb, vo + j * 4, none⟩ = some (.string p.1) by simpa using HC.out 0 _ rfl)
        have hi0 : (0 : Int) ≤ (j : Int) := by omega
        have hi1 : (j : Int) < (n : Int) := by omega
        have hdw : IntKind.i64.wrap ((j : Int) - 1) = (j : Int) - 1 := by simp [IntKind.wrap, IntKind.signed, IntKind.bits]; omega
        have HR := hid (hR.ext HE7.out)
        have HP := hid hp
        have HTP := hid htag
        clear hc hR hp htag
        by_cases hnm : p.1 = name
        · have heb := toList_same hnm
          have hhit := lastDef_hit HP.out hnm HQ.out
          rw [HLD.out] at hhit
          cases hhit
        · have heb := toList_ne hnm
          have HZ := hid (lastDef_miss HP.out hnm HQ.out)
          clear hnm
          go_wp2_with fail
          exact ⟨⟨j, (j : Int) - 1, rfl, by omega, by omega, HZ, HEr⟩, by simp [intOf]⟩
set_option maxHeartbeats 4000000 in
theorem walk_y (v : Value) (ts : List (ByteArray × GS)) (name : ByteArray) (hname : name.size ≤ 140737488351232) (w : World) (h : RepDefs Any w v ts) (g : GS) (hl : lastDef ts name = some g) :
    Calls Try.prog 9 #[.agg #[v], .string name] w fun e w' => e = .returned (.bool true) ∧ Ext w w' := by
  have HF6 := hid (fun W (hW : Ext w W) => fits6_any v ts W (h.ext hW))
  have HDS := hid (fun W (hW : Ext w W) => definedSchema_any v ts W (h.ext hW))
  have HIF := hid (fun W (hW : Ext w W) => implFind_any v ts name W (h.ext hW))
  have HIR := hid (fun W (hW : Ext w W) => implResolve_any v ts name hname W (h.ext hW))
  rw [hl] at HIF HIR
  obtain ⟨va, vb, vo, vc, rfl, hsz, hat⟩ := h.at'
  have HA := hid hat
  have HLD := hid hl
  have HDA := hid (show defAt ts name = g by unfold defAt; rw [hl]; rfl)
  clear h hat hl
  generalize hn : ts.length = n at *
  have HN := hid hn
  clear hn
  have HX0 := hid (heap_alloc_new w (.cells #[.slice va n vc] 62))
  have HE0 := hid ((Ext.refl w).alloc (.cells #[.slice va n vc] 62))
  have hmw : IntKind.i64.wrap ((n : Int) - 1) = (n : Int) - 1 := by simp [IntKind.wrap, IntKind.signed, IntKind.bits]; omega
  go_enter Try.func9, Try.ntmps9
  go_upto_region 1 with fail
  generalize w.alloc (.cells #[.slice va n vc] 62) = w1 at *
  have x0 := (cell_of_heap HX0.out 0).trans rfl
  by_cases hbig : name.size > 2147483647
  · go_wp2_with (go_at_call 35; refine (HF6.out _ HE0.out).mono ?_; rintro e w2 ⟨b, rfl, hE⟩; have HE2 := hid (HE0.out.trans hE); cases b <;> clear hE)
    all_goals
      go_ret
      exact ⟨rfl, HE2.out⟩
  · go_upto_region 5 with (first
      | (go_at_call 35; refine (HF6.out _ HE0.out).mono ?_; rintro e w2 ⟨b, rfl, hE⟩; have HE2 := hid (HE0.out.trans hE); have X2 := hid (hE.block HX0.out); have x2 := (cell_of_heap X2.out 0).trans rfl; cases b <;> clear hE)
      | (go_at_call 36; refine (HDS.out _ HE2.out).mono ?_; rintro e w3 ⟨b, rfl, hE⟩; have HE3 := hid (HE2.out.trans hE); have X3 := hid (hE.block X2.out); have x3 := (cell_of_heap X3.out 0).trans rfl; cases b <;> clear hE))
    · go_ret
      exact ⟨rfl, HE2.out⟩
    · go_ret
      exact ⟨rfl, HE3.out⟩
    go_upto_region 6 with (go_at_call 37; refine (HIF.out _ HE3.out).mono ?_; rintro e w4 ⟨⟨g1, ca0, ca1, ca2, rfl, ht1, hk1, hr1⟩, hE⟩; obtain ⟨a0, a1, a2, a3, a4, a5, a6, rfl, rfl, rfl⟩ := formA3 hr1 ht1; have HE4 := hid (HE3.out.trans hE); have X4 := hid (hE.block X3.out); have HT1 := hid ht1; have HK1 := hid hk1; have HR1 := hid hr1; clear hE ht1 hk1 hr1 x0 x2 x3)
    have HG1 := hid (heap_alloc_new w4 (.cells #[.string a0, .slice a1 a2 a3, .slice a4 a5 a6] 53))
    have HE5 := hid (HE4.out.alloc (.cells #[.string a0, .slice a1 a2 a3, .slice a4 a5 a6] 53))
    have X5 := hid (((Ext.refl w4).alloc (.cells #[.string a0, .slice a1 a2 a3, .slice a4 a5 a6] 53)).block X4.out)
    have HR1' := hid (HR1.out.ext ((Ext.refl w4).alloc (.cells #[.string a0, .slice a1 a2 a3, .slice a4 a5 a6] 53)))
    generalize w4.alloc (.cells #[.string a0, .slice a1 a2 a3, .slice a4 a5 a6] 53) = w5 at *
    generalize hG1 : w4.heap.size = G1 at *
    have x5 := (cell_of_heap X5.out 0).trans rfl
    go_upto_region 7 with (go_at_call 38; refine (HIR.out _ HE5.out).mono ?_; rintro e w6 ⟨⟨g2, cb0, cb1, cb2, rfl, ht2, hk2, hr2⟩, hE⟩; obtain ⟨b0, b1, b2, b3, b4, b5, b6, rfl, rfl, rfl⟩ := formA3 hr2 ht2; have HE6 := hid (HE5.out.trans hE); have X6 := hid (hE.block X5.out); have HT2 := hid ht2; have HK2 := hid hk2; have HR2 := hid hr2; have HG16 := hid (hE.block HG1.out); have HR16 := hid (HR1'.out.ext hE); clear hE ht2 hk2 hr2 x5)
    have HG2 := hid (heap_alloc_new w6 (.cells #[.string b0, .slice b1 b2 b3, .slice b4 b5 b6] 53))
    have HE7 := hid (HE6.out.alloc (.cells #[.string b0, .slice b1 b2 b3, .slice b4 b5 b6] 53))
    have X7 := hid (((Ext.refl w6).alloc (.cells #[.string b0, .slice b1 b2 b3, .slice b4 b5 b6] 53)).block X6.out)
    have HG17 := hid (((Ext.refl w6).alloc (.cells #[.string b0, .slice b1 b2 b3, .slice b4 b5 b6] 53)).block HG16.out)
    have HR17 := hid (HR16.out.ext ((Ext.refl w6).alloc (.cells #[.string b0, .slice b1 b2 b3, .slice b4 b5 b6] 53)))
    have HR27 := hid (HR2.out.ext ((Ext.refl w6).alloc (.cells #[.string b0, .slice b1 b2 b3, .slice b4 b5 b6] 53)))
    generalize w6.alloc (.cells #[.string b0, .slice b1 b2 b3, .slice b4 b5 b6] 53) = w7 at *
    generalize hG2 : w6.heap.size = G2 at *
    clear hG1 hG2 HE2 HE3 HE4 HE5 HE6 X2 X3 X4 X5 X6 HG1 HG16 HR1 HR1' HR16 HR2 HX0 HE0
    have x7 := (cell_of_heap X7.out 0).trans rfl
    go_upto_region 8 with fail
    clear x7
    go_loopw [9] (fun i wr => ∃ (k : Nat) (m : Int), i = .int .i64 m ∧ m + 1 = k ∧ k ≤ n ∧ Hid (lastDef (ts.drop k) name = none) ∧ Hid (Ext w7 wr)) (fun i _ => (intOf i + 1).toNat)
    case atStart => exact ⟨n, (n : Int) - 1, rfl, by omega, Nat.le_refl _, hid (by rw [List.drop_of_length_le (by rw [HN.out]; exact Nat.le_refl _)]; rfl), hid (Ext.refl _)⟩
    case round =>
      obtain ⟨k, m, rfl, hm, hk, HQ, HEr⟩ := hrel
      have HEW := HE7
      have cb := (cell_of_heap (HEr.out.block X7.out) 0).trans rfl
      cases k with
      | zero =>
        obtain rfl : m = -1 := by omega
        exact absurd (show lastDef ts name = none from by simpa using HQ.out) (by rw [HLD.out]; simp)
      | succ j =>
        obtain rfl : m = (j : Int) := by omega
        obtain ⟨p, hp⟩ : ∃ p, ts[j]? = some p := ⟨_, List.getElem?_eq_getElem (by have := HN.out; omega)⟩
        obtain ⟨rfl, htag, hps, s, p0, p1, p2, q0, q1, q2, hc, hR⟩ := HA.out j p hp
        have HC := hid (cellsAt_ext HE7.out hc)
        have c0 := HEr.out.cellS (show w7.cell? ⟨vb, vo + j * 4, none⟩ = some (.string p.1) by simpa using HC.out 0 _ rfl)
        have hi0 : (0 : Int) ≤ (j : Int) := by omega
        have hi1 : (j : Int) < (n : Int) := by omega
        have hdw : IntKind.i64.wrap ((j : Int) - 1) = (j : Int) - 1 := by simp [IntKind.wrap, IntKind.signed, IntKind.bits]; omega
        have HR := hid (hR.ext HE7.out)
        have HP := hid hp
        have HTP := hid htag
        clear hc hR hp htag
        by_cases hnm : p.1 = name
        · have heb := toList_same hnm
          have hhit := lastDef_hit HP.out hnm HQ.out
          have HS1 := hid (fun W (hW : Ext wr.drew W) => sameAtom_any g1 p.2 (by have h := HK1.out; rw [HDA.out] at h; rw [HLD.out] at hhit; cases hhit; exact h) HT1.out HTP.out W _ _ (HR17.out.ext (HEr.out.drew.trans hW)) (HR.out.ext (HEr.out.drew.trans hW)))
          have HS2 := hid (fun W (hW : Ext wr.drew W) => sameAtom_any g2 p.2 (by have h := HK2.out; rw [HDA.out] at h; rw [HLD.out] at hhit; cases hhit; exact h) HT2.out HTP.out W _ _ (HR27.out.ext (HEr.out.drew.trans hW)) (HR.out.ext (HEr.out.drew.trans hW)))
          clear hnm hhit
          go_upto_region 11 with fail
          have HEd := hid (Ext.refl wr.drew)
          have HEW := hid (HE7.out.trans HEr.out.drew)
          have KB := hid (show ∀ w' : World, Ext wr.drew w' → (fun w' : World => w'.cell? ⟨w.heap.size, 0, none⟩ = some (.slice (some ⟨vb, vo, none⟩) n vc) ∧ w'.cell? ⟨G1, 0, none⟩ = some (.string a0) ∧ w'.cell? ⟨G1, 1, none⟩ = some (.slice a1 a2 a3) ∧ w'.cell? ⟨G1, 2, none⟩ = some (.slice a4 a5 a6) ∧ w'.cell? ⟨G2, 0, none⟩ = some (.string b0) ∧ w'.cell? ⟨G2, 1, none⟩ = some (.slice b1 b2 b3) ∧ w'.cell? ⟨G2, 2, none⟩ = some (.slice b4 b5 b6) ∧ w'.cell? ⟨vb, vo + j * 4 + 1, none⟩ = some (.string s) ∧ w'.cell? ⟨vb, vo + j * 4 + 2, none⟩ = some (.slice p0 p1 p2) ∧ w'.cell? ⟨vb, vo + j * 4 + 3, none⟩ = some (.slice q0 q1 q2)) w' from fun w' h => by
            obtain ⟨⟨x0, x1, x2⟩, -⟩ := slot3 ((HEr.out.drew.trans h).block HG17.out)
            obtain ⟨⟨y0, y1, y2⟩, -⟩ := slot3 ((HEr.out.drew.trans h).block HG2.out)
            have hx := cellsAt_ext (HEr.out.drew.trans h) HC.out
            exact ⟨(cell_of_heap ((HEr.out.drew.trans h).block X7.out) 0).trans rfl, x0, x1, x2, y0, y1, y2, hx 1 _ rfl, hx 2 _ rfl, hx 3 _ rfl⟩)
          refine wp_region_late (fun w' : World => w'.cell? ⟨w.heap.size, 0, none⟩ = some (.slice (some ⟨vb, vo, none⟩) n vc) ∧ w'.cell? ⟨G1, 0, none⟩ = some (.string a0) ∧ w'.cell? ⟨G1, 1, none⟩ = some (.slice a1 a2 a3) ∧ w'.cell? ⟨G1, 2, none⟩ = some (.slice a4 a5 a6) ∧ w'.cell? ⟨G2, 0, none⟩ = some (.string b0) ∧ w'.cell? ⟨G2, 1, none⟩ = some (.slice b1 b2 b3) ∧ w'.cell? ⟨G2, 2, none⟩ = some (.slice b4 b5 b6) ∧ w'.cell? ⟨vb, vo + j * 4 + 1, none⟩ = some (.string s) ∧ w'.cell? ⟨vb, vo + j * 4 + 2, none⟩ = some (.slice p0 p1 p2) ∧ w'.cell? ⟨vb, vo + j * 4 + 3, none⟩ = some (.slice q0 q1 q2)) [] (by kernel_rfl) ?hS1 (fun hHeld => ?_)
          case hS1 => (exact KB.out _ (Ext.refl _))
          generalize wr.drew = wq at *
          change wpAnyM _ _ _ _ _ _ 25 #[false, false, false, false, false, false, false, false, false, false, false, false, false, false, false, false, false, false, false, false, false, false, false, false, false] _ _
          refine wpAnyM_take (i := 0) (oi := { dst := some 50, op := Go.Op.move (Go.Operand.tmp 6), type := 4, pos := "schema.go:230", after := #[], guard := none }) (v := ?v2) rfl (by kernel_rfl) (fun _ _ _ h => h) (Or.inl ⟨by rfl, ?hy2⟩) (by assumption) ?rest2
          case hy2 => (intro wz hSw; (try dsimp only at hSw); go_simp; try with_reducible rfl)
          (try simp only [Act.put, List.setIfInBounds_toArray, List.set_cons_zero, List.set_cons_succ])
          refine wpAnyM_take (i := 1) (oi := { dst := some 51, op := Go.Op.move (Go.Operand.tmp 50), type := 4, pos := "schema.go:230", after := #[{ on := 0, ground := Go.Ground.data }], guard := none }) (v := ?v3) rfl (by kernel_rfl) (fun _ _ _ h => h) (Or.inl ⟨by rfl, ?hy3⟩) (by assumption) ?rest3
          case hy3 => (intro wz hSw; (try dsimp only at hSw); go_simp; try with_reducible rfl)
          (try simp only [Act.put, List.setIfInBounds_toArray, List.set_cons_zero, List.set_cons_succ])
          refine wpAnyM_take (i := 2) (oi := { dst := some 52, op := Go.Op.move (Go.Operand.tmp 8), type := 4, pos := "schema.go:230", after := #[{ on := 1, ground := Go.Ground.guard }], guard := some (1, true) }) (v := ?v4) rfl (by kernel_rfl) (fun _ _ _ h => h) (Or.inl ⟨by rfl, ?hy4⟩) (by assumption) ?rest4
          case hy4 => (intro wz hSw; (try dsimp only at hSw); go_simp; try with_reducible rfl)
          (try simp only [Act.put, List.setIfInBounds_toArray, List.set_cons_zero, List.set_cons_succ])
          refine wpAnyM_take (i := 3) (oi := { dst := some 53, op := Go.Op.pick (Go.Operand.tmp 51) (Go.Operand.tmp 52) (Go.Operand.const (Go.Value.bool false)), type := 4, pos := "schema.go:230", after := #[{ on := 1, ground := Go.Ground.data }, { on := 2, ground := Go.Ground.data }], guard := none }) (v := ?v5) rfl (by kernel_rfl) (fun _ _ _ h => h) (Or.inl ⟨by rfl, ?hy5⟩) (by assumption) ?rest5
          case hy5 => (intro wz hSw; (try dsimp only at hSw); go_simp; try with_reducible rfl)
          (try simp only [Act.put, List.setIfInBounds_toArray, List.set_cons_zero, List.set_cons_succ])
          refine wpAnyM_take (i := 4) (oi := { dst := some 54, op := Go.Op.move (Go.Operand.tmp 53), type := 4, pos := "schema.go:230", after := #[{ on := 3, ground := Go.Ground.data }, { on := 1, ground := Go.Ground.chain }], guard := none }) (v := ?v6) rfl (by kernel_rfl) (fun _ _ _ h => h) (Or.inl ⟨by rfl, ?hy6⟩) (by assumption) ?rest6
          case hy6 => (intro wz hSw; (try dsimp only at hSw); go_simp; try with_reducible rfl)
          (try simp only [Act.put, List.setIfInBounds_toArray, List.set_cons_zero, List.set_cons_succ])
          refine wpAnyM_take (i := 5) (oi := { dst := some 55, op := Go.Op.load 53 (Go.Operand.tmp 5), type := 53, pos := "schema.go:230", after := #[{ on := 4, ground := Go.Ground.guard }], guard := some (4, true) }) (v := ?v7) rfl (by kernel_rfl) (fun _ _ _ h => h) (Or.inl ⟨by rfl, ?hy7⟩) (by assumption) ?rest7
          case hy7 => (intro wz hSw; (try dsimp only at hSw); go_simp; try with_reducible rfl)
          (try simp only [Act.put, List.setIfInBounds_toArray, List.set_cons_zero, List.set_cons_succ])
          refine wpAnyM_take (i := 6) (oi := { dst := some 56, op := Go.Op.fieldAddr 62 (Go.Operand.tmp 2) 0, type := 0, pos := "schema.go:230", after := #[{ on := 4, ground := Go.Ground.guard }], guard := some (4, true) }) (v := ?v8) rfl (by kernel_rfl) (fun _ _ _ h => h) (Or.inl ⟨by rfl, ?hy8⟩) (by assumption) ?rest8
          case hy8 => (intro wz hSw; (try dsimp only at hSw); go_simp; try with_reducible rfl)
          (try simp only [Act.put, List.setIfInBounds_toArray, List.set_cons_zero, List.set_cons_succ])
          refine wpAnyM_take (i := 7) (oi := { dst := some 57, op := Go.Op.load 60 (Go.Operand.tmp 56), type := 60, pos := "schema.go:230", after := #[{ on := 6, ground := Go.Ground.data }, { on := 4, ground := Go.Ground.guard }], guard := some (4, true) }) (v := ?v9) rfl (by kernel_rfl) (fun _ _ _ h => h) (Or.inl ⟨by rfl, ?hy9⟩) (by assumption) ?rest9
          case hy9 => (intro wz hSw; (try dsimp only at hSw); go_simp; try with_reducible rfl)
          (try simp only [Act.put, List.setIfInBounds_toArray, List.set_cons_zero, List.set_cons_succ])
          refine wpAnyM_take (i := 8) (oi := { dst := some 58, op := Go.Op.move (Go.Operand.tmp 9), type := 3, pos := "schema.go:230", after := #[{ on := 4, ground := Go.Ground.guard }], guard := some (4, true) }) (v := ?v10) rfl (by kernel_rfl) (fun _ _ _ h => h) (Or.inl ⟨by rfl, ?hy10⟩) (by assumption) ?rest10
          case hy10 => (intro wz hSw; (try dsimp only at hSw); go_simp; try with_reducible rfl)
          (try simp only [Act.put, List.setIfInBounds_toArray, List.set_cons_zero, List.set_cons_succ])
          refine wpAnyM_take (i := 9) (oi := { dst := some 59, op := Go.Op.indexAddr 60 (Go.Operand.tmp 57) (Go.Operand.tmp 58), type := 0, pos := "schema.go:230", after := #[{ on := 7, ground := Go.Ground.data }, { on := 8, ground := Go.Ground.data }, { on := 4, ground := Go.Ground.guard }], guard := some (4, true) }) (v := ?v11) rfl (by kernel_rfl) (fun _ _ _ h => h) (Or.inl ⟨by rfl, ?hy11⟩) (by assumption) ?rest11
          case hy11 => (intro wz hSw; (try dsimp only at hSw); go_simp; try with_reducible rfl)
          (try simp only [Act.put, List.setIfInBounds_toArray, List.set_cons_zero, List.set_cons_succ])
          refine wpAnyM_take (i := 10) (oi := { dst := some 60, op := Go.Op.fieldAddr 69 (Go.Operand.tmp 59) 1, type := 0, pos := "schema.go:230", after := #[{ on := 9, ground := Go.Ground.data }, { on := 4, ground := Go.Ground.guard }], guard := some (4, true) }) (v := ?v12) rfl (by kernel_rfl) (fun _ _ _ h => h) (Or.inl ⟨by rfl, ?hy12⟩) (by assumption) ?rest12
          case hy12 => (intro wz hSw; (try dsimp only at hSw); go_simp; try with_reducible rfl)
          (try simp only [Act.put, List.setIfInBounds_toArray, List.set_cons_zero, List.set_cons_succ])
          refine wpAnyM_take (i := 11) (oi := { dst := some 61, op := Go.Op.load 53 (Go.Operand.tmp 60), type := 53, pos := "schema.go:230", after := #[{ on := 10, ground := Go.Ground.data }, { on := 4, ground := Go.Ground.guard }], guard := some (4, true) }) (v := ?v13) rfl (by kernel_rfl) (fun _ _ _ h => h) (Or.inl ⟨by rfl, ?hy13⟩) (by assumption) ?rest13
          case hy13 => (intro wz hSw; (try dsimp only at hSw); go_simp; try with_reducible rfl)
          (try simp only [Act.put, List.setIfInBounds_toArray, List.set_cons_zero, List.set_cons_succ])
          refine wpAnyM_ready (rs := [12]) (by kernel_rfl) (by simp) ?_
          refine AllReadyM.cons (o := { dst := some 62, op := Go.Op.call { callee := Go.Callee.value (Go.Operand.func 39), args := #[Go.Operand.tmp 55, Go.Operand.tmp 61], argTypes := #[53, 53] }, type := 4, pos := "schema.go:230", after := #[{ on := 5, ground := Go.Ground.data }, { on := 11, ground := Go.Ground.data }, { on := 4, ground := Go.Ground.chain }, { on := 4, ground := Go.Ground.guard }], guard := some (4, true) }) rfl (fun K hK => ?_) AllReadyM.nil
          refine step_callW' _ (by rfl) 39 [.tmp 55, .tmp 61] #[53, 53] rfl (by kernel_rfl) [_, _] rfl (HS1.out _ HEd.out) ?_
          rintro en w6 ⟨rfl, hE⟩
          refine ⟨_, rfl, ?_⟩
          have HE6 := hid (HEd.out.trans hE)
          have F6 := hid hE
          clear hE
          refine hK.out _ _ ?hS14 (fun hHeld => ?_)
          case hS14 => (exact KB.out _ F6.out)
          clear hK K
          (try simp only [Act.put, List.setIfInBounds_toArray, List.set_cons_zero, List.set_cons_succ])
          refine wpAnyM_take (i := 13) (oi := { dst := some 63, op := Go.Op.pick (Go.Operand.tmp 54) (Go.Operand.tmp 62) (Go.Operand.const (Go.Value.bool false)), type := 4, pos := "schema.go:230", after := #[{ on := 4, ground := Go.Ground.data }, { on := 12, ground := Go.Ground.data }], guard := none }) (v := ?v15) rfl (by kernel_rfl) (fun _ _ _ h => h) (Or.inl ⟨by rfl, ?hy15⟩) (by assumption) ?rest15
          case hy15 => (intro wz hSw; (try dsimp only at hSw); go_simp; try with_reducible rfl)
          (try simp only [Act.put, List.setIfInBounds_toArray, List.set_cons_zero, List.set_cons_succ])
          refine wpAnyM_take (i := 14) (oi := { dst := some 64, op := Go.Op.move (Go.Operand.tmp 63), type := 4, pos := "schema.go:230", after := #[{ on := 13, ground := Go.Ground.data }, { on := 12, ground := Go.Ground.chain }], guard := none }) (v := ?v16) rfl (by kernel_rfl) (fun _ _ _ h => h) (Or.inl ⟨by rfl, ?hy16⟩) (by assumption) ?rest16
          case hy16 => (intro wz hSw; (try dsimp only at hSw); go_simp; try with_reducible rfl)
          (try simp only [Act.put, List.setIfInBounds_toArray, List.set_cons_zero, List.set_cons_succ])
          refine wpAnyM_take (i := 15) (oi := { dst := some 65, op := Go.Op.load 53 (Go.Operand.tmp 7), type := 53, pos := "schema.go:230", after := #[{ on := 14, ground := Go.Ground.guard }], guard := some (14, true) }) (v := ?v17) rfl (by kernel_rfl) (fun _ _ _ h => h) (Or.inl ⟨by rfl, ?hy17⟩) (by assumption) ?rest17
          case hy17 => (intro wz hSw; (try dsimp only at hSw); go_simp; try with_reducible rfl)
          (try simp only [Act.put, List.setIfInBounds_toArray, List.set_cons_zero, List.set_cons_succ])
          refine wpAnyM_take (i := 16) (oi := { dst := some 66, op := Go.Op.fieldAddr 62 (Go.Operand.tmp 2) 0, type := 0, pos := "schema.go:230", after := #[{ on := 14, ground := Go.Ground.guard }], guard := some (14, true) }) (v := ?v18) rfl (by kernel_rfl) (fun _ _ _ h => h) (Or.inl ⟨by rfl, ?hy18⟩) (by assumption) ?rest18
          case hy18 => (intro wz hSw; (try dsimp only at hSw); go_simp; try with_reducible rfl)
          (try simp only [Act.put, List.setIfInBounds_toArray, List.set_cons_zero, List.set_cons_succ])
          refine wpAnyM_take (i := 17) (oi := { dst := some 67, op := Go.Op.load 60 (Go.Operand.tmp 66), type := 60, pos := "schema.go:230", after := #[{ on := 16, ground := Go.Ground.data }, { on := 14, ground := Go.Ground.guard }], guard := some (14, true) }) (v := ?v19) rfl (by kernel_rfl) (fun _ _ _ h => h) (Or.inl ⟨by rfl, ?hy19⟩) (by assumption) ?rest19
          case hy19 => (intro wz hSw; (try dsimp only at hSw); go_simp; try with_reducible rfl)
          (try simp only [Act.put, List.setIfInBounds_toArray, List.set_cons_zero, List.set_cons_succ])
          refine wpAnyM_take (i := 18) (oi := { dst := some 68, op := Go.Op.move (Go.Operand.tmp 9), type := 3, pos := "schema.go:230", after := #[{ on := 14, ground := Go.Ground.guard }], guard := some (14, true) }) (v := ?v20) rfl (by kernel_rfl) (fun _ _ _ h => h) (Or.inl ⟨by rfl, ?hy20⟩) (by assumption) ?rest20
          case hy20 => (intro wz hSw; (try dsimp only at hSw); go_simp; try with_reducible rfl)
          (try simp only [Act.put, List.setIfInBounds_toArray, List.set_cons_zero, List.set_cons_succ])
          refine wpAnyM_take (i := 19) (oi := { dst := some 69, op := Go.Op.indexAddr 60 (Go.Operand.tmp 67) (Go.Operand.tmp 68), type := 0, pos := "schema.go:230", after := #[{ on := 17, ground := Go.Ground.data }, { on := 18, ground := Go.Ground.data }, { on := 14, ground := Go.Ground.guard }], guard := some (14, true) }) (v := ?v21) rfl (by kernel_rfl) (fun _ _ _ h => h) (Or.inl ⟨by rfl, ?hy21⟩) (by assumption) ?rest21
          case hy21 => (intro wz hSw; (try dsimp only at hSw); go_simp; try with_reducible rfl)
          (try simp only [Act.put, List.setIfInBounds_toArray, List.set_cons_zero, List.set_cons_succ])
          refine wpAnyM_take (i := 20) (oi := { dst := some 70, op := Go.Op.fieldAddr 69 (Go.Operand.tmp 69) 1, type := 0, pos := "schema.go:230", after := #[{ on := 19, ground := Go.Ground.data }, { on := 14, ground := Go.Ground.guard }], guard := some (14, true) }) (v := ?v22) rfl (by kernel_rfl) (fun _ _ _ h => h) (Or.inl ⟨by rfl, ?hy22⟩) (by assumption) ?rest22
          case hy22 => (intro wz hSw; (try dsimp only at hSw); go_simp; try with_reducible rfl)
          (try simp only [Act.put, List.setIfInBounds_toArray, List.set_cons_zero, List.set_cons_succ])
          refine wpAnyM_take (i := 21) (oi := { dst := some 71, op := Go.Op.load 53 (Go.Operand.tmp 70), type := 53, pos := "schema.go:230", after := #[{ on := 20, ground := Go.Ground.data }, { on := 14, ground := Go.Ground.guard }], guard := some (14, true) }) (v := ?v23) rfl (by kernel_rfl) (fun _ _ _ h => h) (Or.inl ⟨by rfl, ?hy23⟩) (by assumption) ?rest23
          case hy23 => (intro wz hSw; (try dsimp only at hSw); go_simp; try with_reducible rfl)
          (try simp only [Act.put, List.setIfInBounds_toArray, List.set_cons_zero, List.set_cons_succ])
          refine wpAnyM_ready (rs := [22]) (by kernel_rfl) (by simp) ?_
          refine AllReadyM.cons (o := { dst := some 72, op := Go.Op.call { callee := Go.Callee.value (Go.Operand.func 39), args := #[Go.Operand.tmp 65, Go.Operand.tmp 71], argTypes := #[53, 53] }, type := 4, pos := "schema.go:230", after := #[{ on := 15, ground := Go.Ground.data }, { on := 21, ground := Go.Ground.data }, { on := 14, ground := Go.Ground.chain }, { on := 14, ground := Go.Ground.guard }], guard := some (14, true) }) rfl (fun K hK => ?_) AllReadyM.nil
          refine step_callW' _ (by rfl) 39 [.tmp 65, .tmp 71] #[53, 53] rfl (by kernel_rfl) [_, _] rfl (HS2.out _ HE6.out) ?_
          rintro en w7 ⟨rfl, hE⟩
          refine ⟨_, rfl, ?_⟩
          have HE7 := hid (HE6.out.trans hE)
          have F7 := hid (F6.out.trans hE)
          clear hE
          refine hK.out _ _ ?hS24 (fun hHeld => ?_)
          case hS24 => (exact KB.out _ F7.out)
          clear hK K
          (try simp only [Act.put, List.setIfInBounds_toArray, List.set_cons_zero, List.set_cons_succ])
          refine wpAnyM_take (i := 23) (oi := { dst := some 73, op := Go.Op.pick (Go.Operand.tmp 64) (Go.Operand.tmp 72) (Go.Operand.const (Go.Value.bool false)), type := 4, pos := "schema.go:230", after := #[{ on := 14, ground := Go.Ground.data }, { on := 22, ground := Go.Ground.data }], guard := none }) (v := ?v25) rfl (by kernel_rfl) (fun _ _ _ h => h) (Or.inl ⟨by rfl, ?hy25⟩) (by assumption) ?rest25
          case hy25 => (intro wz hSw; (try dsimp only at hSw); go_simp; try with_reducible rfl)
          (try simp only [Act.put, List.setIfInBounds_toArray, List.set_cons_zero, List.set_cons_succ])
          refine wpAnyM_take (i := 24) (oi := { dst := some 4, op := Go.Op.assign (Go.Operand.tmp 73), type := 4, pos := "schema.go:230", after := #[{ on := 23, ground := Go.Ground.data }, { on := 22, ground := Go.Ground.chain }, { on := 0, ground := Go.Ground.phase }, { on := 1, ground := Go.Ground.phase }, { on := 2, ground := Go.Ground.phase }, { on := 3, ground := Go.Ground.phase }, { on := 4, ground := Go.Ground.phase }, { on := 5, ground := Go.Ground.phase }, { on := 6, ground := Go.Ground.phase }, { on := 7, ground := Go.Ground.phase }, { on := 8, ground := Go.Ground.phase }, { on := 9, ground := Go.Ground.phase }, { on := 10, ground := Go.Ground.phase }, { on := 11, ground := Go.Ground.phase }, { on := 12, ground := Go.Ground.phase }, { on := 13, ground := Go.Ground.phase }, { on := 14, ground := Go.Ground.phase }, { on := 15, ground := Go.Ground.phase }, { on := 16, ground := Go.Ground.phase }, { on := 17, ground := Go.Ground.phase }, { on := 18, ground := Go.Ground.phase }, { on := 19, ground := Go.Ground.phase }, { on := 20, ground := Go.Ground.phase }, { on := 21, ground := Go.Ground.phase }, { on := 22, ground := Go.Ground.phase }, { on := 23, ground := Go.Ground.phase }], guard := none }) (v := ?v26) rfl (by kernel_rfl) (fun _ _ _ h => h) (Or.inl ⟨by rfl, ?hy26⟩) (by assumption) ?rest26
          case hy26 => (intro wz hSw; (try dsimp only at hSw); go_simp; try with_reducible rfl)
          (try simp only [Act.put, List.setIfInBounds_toArray, List.set_cons_zero, List.set_cons_succ])
          refine wpAnyM_done (by kernel_rfl) ?_ _
          go_wp2_with fail
          go_ret
          exact ⟨rfl, HEW.out.trans HE7.out⟩
        · have heb := toList_ne hnm
          have HZ := hid (lastDef_miss HP.out hnm HQ.out)
          clear hnm
          go_wp2_with fail
          exact ⟨⟨j, (j : Int) - 1, rfl, by omega, by omega, HZ, HEr⟩, by simp [intOf]⟩
theorem walk (ts : List (ByteArray × GS)) (name : ByteArray) (w : World) (cs : List Value) (h : ∃ v, cs = [v] ∧ RepDefs Any w v ts) (hname : name.size ≤ 140737488351232) :
    Calls Try.prog 9 #[.agg cs.toArray, .string name] w fun e w' => e = .returned (.bool true) ∧ Ext w w' := by
  obtain ⟨v, rfl, h⟩ := h
  cases hl : lastDef ts name with
  | none => exact walk_n v ts name hname w h hl
  | some g => exact walk_y v ts name hname w h g hl
section
variable {H : Type} {enc : TypeId × Value → H} {P : Program} {w : World} {base : Nat} {spare : Nat → Bool} {held : Bool}
theorem trodAll_args {t0 t1 : TypeId} {args : Array Value} {ds : List (DataW H)} {ps : List MemPlace} (h : DataW.TrodAll enc P w base spare held [t0, t1] args.toList ds ps) :
    ∃ v0 v1 d0 d1 p0 p1, args = #[v0, v1] ∧ ds = [d0, d1] ∧ DataW.Trod enc P w base spare held t0 v0 d0 p0 ∧ DataW.Trod enc P w base spare held t1 v1 d1 p1 := by
  obtain ⟨v0, vs0, d0, ds0, p0, q0, hargs, rfl, rfl, hd0, hr0⟩ := trodAll_cons h
  obtain ⟨v1, vs1, d1, ds1, p1, q1, rfl, rfl, rfl, hd1, hr1⟩ := trodAll_cons hr0
  obtain ⟨rfl, rfl, rfl⟩ := trodAll_nil hr1
  exact ⟨v0, v1, d0, d1, p0, p1, by cases args; simp_all, rfl, hd0, hd1⟩
end
theorem own : ownKnob Try.prog.godebug = none := by kernel_rfl
set_option maxRecDepth 100000 in
theorem lifted (os : Os) (started : os.Started) (H : Type) (enc : TypeId × Value → H) :
    ReturnsInHanded {} Try.checked os 9 .any (Rows.fnFindNamedLastSpec.pre6 enc Try.prog Try.f9 Rows.fnFindNamedLastRow.domain false) (Rows.fnFindNamedLastSpec.post enc Try.prog Try.f9 false true false false) := by
  refine law_lifted (C := Try.checked) own started (by kernel_rfl) Try.func9 (by kernel_rfl)
    (fun t ht => by
      have ht' : t ∈ ([62, 9] : List TypeId) := by rwa [Try.params9] at ht
      simp only [List.mem_cons, List.not_mem_nil, or_false] at ht'
      rcases ht' with rfl | rfl <;> exact ⟨by kernel_rfl, of_decide_eq_true (by kernel_rfl)⟩) (by kernel_rfl) rfl
    (fun ds hl => by rw [Try.params9] at hl; match ds, hl with | [d0, d1], _ => exact ⟨rfl, rfl, rfl⟩)
    (ChangeSpec.witness6 (enc := enc) (C := Try.checked) false ⟨#[], #[.agg #[.slice none 0 0], .string ⟨#[]⟩], []⟩ 8 (by kernel_rfl) (by kernel_rfl) (by kernel_rfl) (by kernel_rfl)) ?_
  intro W base args ds p hval hA hsz
  rw [Try.params9] at hA hval hsz
  obtain ⟨v0, v1, d0, d1, p0, p1, rfl, rfl, h0, h1⟩ := trodAll_args hA
  have hw : ∀ n ∈ DataW.weightsEach Try.prog [62, 9] [d0, d1], n ≤ 140737488351232 := by
    intro n hn
    exact of_decide_eq_true (List.all_eq_true.1 hsz n hn)
  obtain ⟨cs0, rfl, _⟩ := okWide_struct Try.underlying62 (hval 0 62 v0 rfl rfl)
  obtain ⟨fu0, h0⟩ := h0
  obtain ⟨g0, hg0⟩ := open_gsch fu0 cs0.toList (d0, p0) h0 (weightsEach_mem (j := 0) rfl rfl hw)
  obtain ⟨s1, rfl⟩ := okWide_string Try.underlying9 (hval 1 9 v1 rfl rfl)
  obtain ⟨fu1, h1⟩ := h1
  obtain ⟨x1, e1, hg1⟩ := open_str Try.underlying9 h1 (weightsEach_mem (j := 1) rfl rfl hw)
  simp only [Value.cells, List.cons.injEq, and_true, Value.string.injEq] at e1
  subst e1
  have := walk g0 s1 W cs0.toList hg0 hg1
  rwa [Array.toArray_toList] at this

theorem over : Rows.fnFindNamedLastRow.holds Try.pinned (OpenSpec.ofChange Rows.fnFindNamedLastSpec) :=
  OpenClaim.holds_of_wide 9 Try.f9 rfl rfl rfl rfl rfl rfl rfl ⟨rfl, rfl, rfl, rfl, rfl⟩ rfl rfl rfl rfl rfl (by kernel_rfl) Try.func9 (by kernel_rfl)
    (of_decide_eq_true (by kernel_rfl)) (by unfold Func.isWrapper; first | (rw [if_pos (by decide +kernel)]; kernel_rfl) | (rw [if_neg (by decide +kernel)]; exact ⟨rfl, rfl⟩))
    (fun os started H enc _ => lifted os started H enc)

theorem proved : Rows.FnFindNamedLastSaid :=
  over
#print axioms proved
end Go.Proofs.Ytempfaefopfobaa.fnFindLast
