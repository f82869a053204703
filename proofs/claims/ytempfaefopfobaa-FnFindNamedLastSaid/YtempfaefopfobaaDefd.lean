/- Defd: laws.definedAtom, definedSchema tell something or other (whether each default is orderly). -/
import Derived.Test.YtempfaefopfobaaFirst
import Derived.Test.YtempfaefopfobaaOrdVals
import Derived.Test.YtempfaefopfobaaFits

set_option maxRecDepth 100000
namespace Go.Proofs.Ytempfaefopfobaa
open Go.ChangeShapes Go.WideShapes Go.ChangeAt Go.RowKit
set_option linter.unusedVariables false
set_option linter.unusedSimpArgs false

/-- the type within a reference -/
theorem RepGS.refAtom {S : Nat → Prop} {w : World} {e : GS} {c0 c1 c2 c3 c4 c5 : Value} (h : RepGS S w e [c0, c1, c2, c3, c4, c5]) (ht : e.tag = 1) : ∃ a, a.tag = 2 ∧ RepGS S w a [c2, c3, c4] := by
  cases h with
  | ref h1 h2 ht' ha => exact ⟨_, ht', ha⟩
  | _ => cases ht
def DefOK (d : Nat) : Prop := ∀ (a : GS) (w : World) (cs : List Value), a.tag = 2 → RepGS Any w a cs → Calls Try.prog 78 #[.agg cs.toArray, .int .i64 d] w (Tells w)
theorem vals_take1 {S : Nat → Prop} {w : World} {a : Option Addr} {b o c : Nat} {ds : List GV} (hD : SlAt S w 6 a b o ds.length c) (hd : ∀ (i : Nat) (g : GV) (cs : List Value), ds[i]? = some g → cs.length = 6 → cellsAt w b (o + i * 6) cs → RepGV S w g cs) :
    RepVals S w (.slice a (if ds.length = 0 then 0 else 1) c) (ds.take 1) := by
  cases ds with
  | nil => exact ⟨a, 0, 0, c, rfl, Nat.zero_le _, by simp, fun h => absurd h (by simp), fun i hi => absurd hi (by simp), fun i g cs hg => by simp at hg⟩
  | cons d ds =>
    obtain ⟨h1, h2, h3⟩ := hD
    refine ⟨a, b, o, c, rfl, by have : ds.length + 1 ≤ c := h1; simp; omega, by simp, fun _ => h2 (by simp), fun i hi => h3 i (by simp at hi ⊢; omega), fun i g cs hg => hd i g cs ?_⟩
    match i, hg with
    | 0, hg => exact hg
    | i + 1, hg => simp at hg
set_option maxHeartbeats 8000000 in
theorem def_of (d : Nat) (hd : d < 1000) (ih : DefOK (d - 1)) : DefOK d := by
  intro a w cs ht hR
  cases d with
  | zero =>
    obtain ⟨s, p0, p1, p2, q0, q1, q2, rfl⟩ := hR.formA ht
    go_enter Try.func78, Try.ntmps78
    go_wp2_with fail
    go_ret
    exact ⟨_, rfl, (Ext.refl _).alloc _⟩
  | succ d =>
    have IH := hid (show DefOK d from ih)
    clear ih
    cases hR with
    | @atom sc ls ms la ma lb lo lc mb mo mc h1 hL hlt hl hM hmt hm =>
      have HLt := hid hlt
      have HMt := hid hmt
      have HLr := hid hl
      have HMr := hid hm
      have HLs := hid hL
      have HMs := hid hM
      have FL := hid (fun W => firstList_any sc la ls.length lc (.slice ma ms.length mc) W hL.1 (fun h => ⟨_, (hL.2.1 h).1⟩))
      have FM := hid (fun W => firstMap_any sc ma ms.length mc (.slice la ls.length lc) W hM.1 (fun h => ⟨_, (hM.2.1 h).1⟩))
      clear hlt hmt hl hm hL hM h1
      have HX := hid (heap_alloc_new w (.cells #[.string sc, .slice la (ls.length) lc, .slice ma (ms.length) mc] 53))
      have HE0 := hid ((Ext.refl w).alloc (.cells #[.string sc, .slice la (ls.length) lc, .slice ma (ms.length) mc] 53))
      have hdw : IntKind.i64.wrap (((d + 1 : Nat) : Int) - 1) = (d : Int) := by simp [IntKind.wrap, IntKind.signed, IntKind.bits]; omega
      go_enter Try.func78, Try.ntmps78
      generalize hzl : (if ls.length = 0 then 0 else 1) = zl at *
      generalize hzm : (if ms.length = 0 then 0 else 1) = zm at *
      have hzl1 : zl ≤ 1 := by rw [← hzl]; split <;> omega
      have hzm1 : zm ≤ 1 := by rw [← hzm]; split <;> omega
      have HZL := hid (show zl ≤ ls.length by rw [← hzl]; split <;> omega)
      have HZM := hid (show zm ≤ ms.length by rw [← hzm]; split <;> omega)
      clear hzl hzm
      generalize hnl : ls.length = nl at *
      generalize hnm : ms.length = nm at *
      have HNL := hid hnl
      have HNM := hid hnm
      clear hnl hnm
      go_upto_region 3 with fail
      generalize w.alloc (.cells #[.string sc, .slice la nl lc, .slice ma nm mc] 53) = w1 at *
      obtain ⟨⟨y0, y1, y2⟩, -⟩ := slot3 HX.out
      go_upto_region 4 with (go_at_call 85; refine (FL.out _).mono ?_; rintro e w2 ⟨rfl, hE⟩; have HE2 := hid (HE0.out.trans hE); have X2 := hid (hE.block HX.out); clear hE y0 y1 y2)
      clear HE0 HX
      go_loopw [16] (fun i wr => ∃ k : Nat, i = .int .i64 k ∧ k ≤ zl ∧ Hid (Ext w wr) ∧ Hid (wr.heap[w.heap.size]? = some (.cells #[.string sc, .slice la nl lc, .slice ma nm mc] 53))) (fun i _ => zl - (intOf i).toNat)
      case atStart => exact ⟨0, rfl, Nat.zero_le _, HE2, X2⟩
      case round =>
        obtain ⟨k, rfl, hk, HE, HX⟩ := hrel
        by_cases hkl : k < zl
        · obtain ⟨g, hg⟩ : ∃ g, ls[k]? = some g := ⟨_, List.getElem?_eq_getElem (by have := HZL.out; have := HNL.out; omega)⟩
          obtain ⟨sl1, sl2, sl3⟩ := HLs.out
          obtain ⟨rfl, -⟩ := sl2 (by have := HZL.out; omega)
          obtain ⟨cs8, hc8, hcat⟩ := sl3 k (by have := HZL.out; omega)
          have htag := HLt.out g (List.mem_of_getElem? hg)
          have hR8 := HLr.out k g cs8 hg hc8 hcat
          obtain ⟨b1, b2, b3, b4, b5, b6, b7, b8, b9, b10, b11, b12, b13, b14, rfl⟩ := hR8.formL htag
          obtain ⟨v0, v1, v2, v3, v4, v5, v6, v7⟩ := cells8 (cellsAt_ext HE.out hcat)
          obtain ⟨a', hta', hRa'⟩ : ∃ a, a.tag = 2 ∧ RepGS Any w a [.string b3, .slice b4 b5 b6, .slice b7 b8 b9] := by
            cases hR8 with
            | lst h1 ht1 he hks => exact he.refAtom ht1
            | _ => cases htag
          have HI := hid (fun W (hW : Ext w W) => IH.out a' W _ hta' (hRa'.ext hW))
          have hi0 : (0 : Int) ≤ (k : Int) := by omega
          have hi1 : (k : Int) < (zl : Int) := by omega
          clear hg sl1 sl2 sl3 hcat hR8 hRa' htag hc8
          go_wp2_with (go_at_call 78; refine (HI.out _ (HE.out.alloc _)).mono ?_; rintro e w3 ⟨b, rfl, hE⟩; have HE3 := hid ((HE.out.alloc _).trans hE); have HX3 := hid ((((Ext.refl wr).alloc _).trans hE).block HX.out); cases b <;> clear hE)
          · go_ret
            exact ⟨_, rfl, HE3.out⟩
          · exact ⟨⟨k + 1, by go_num, by omega, HE3, HX3⟩, by simp [intOf]; omega⟩
        · obtain ⟨⟨y0, y1, y2⟩, -⟩ := slot3 HX.out
          go_upto_region 10 with (go_at_call 86; refine (FM.out _).mono ?_; rintro e w3 ⟨rfl, hE⟩; have HE3 := hid (HE.out.trans hE); clear hE y0 y1 y2)
          clear HE HX
          go_loopw [31] (fun i wr => ∃ k : Nat, i = .int .i64 k ∧ k ≤ zm ∧ Hid (Ext w wr)) (fun i _ => zm - (intOf i).toNat)
          case atStart => exact ⟨0, rfl, Nat.zero_le _, HE3⟩
          case round =>
            obtain ⟨k, rfl, hk, HE⟩ := hrel
            by_cases hkl : k < zm
            · obtain ⟨g, hg⟩ : ∃ g, ms[k]? = some g := ⟨_, List.getElem?_eq_getElem (by have := HZM.out; have := HNM.out; omega)⟩
              obtain ⟨sl1, sl2, sl3⟩ := HMs.out
              obtain ⟨rfl, -⟩ := sl2 (by have := HZM.out; omega)
              obtain ⟨cs8, hc8, hcat⟩ := sl3 k (by have := HZM.out; omega)
              have htag := HMt.out g (List.mem_of_getElem? hg)
              have hR8 := HMr.out k g cs8 hg hc8 hcat
              cases hR8 with
              | @mp fs e rel fa fb fo fc c0 c1 c2 c3 c4 c5 m1 mt me mb' mF mft mf =>
                obtain ⟨b2, b3, b4, b5, b6, b7, b8, b9, b10, b11, hee⟩ := me.formR mt
                simp only [List.cons.injEq, and_true] at hee
                obtain ⟨rfl, rfl, rfl, rfl, rfl, rfl⟩ := hee
                obtain ⟨v0, v1, v2, v3, v4, v5, v6, v7⟩ := cells8 (cellsAt_ext HE.out hcat)
                obtain ⟨a', hta', hRa'⟩ := me.refAtom mt
                have HI := hid (fun W (hW : Ext w W) => IH.out a' W _ hta' (hRa'.ext hW))
                have HFt := hid mft
                have HFr := hid mf
                have HFs := hid mF
                have HB0 := hid (heap_alloc_new wr (.cells #[.slice fa fs.length fc, .bool b2, .string b3, .string b4, .slice b5 b6 b7, .slice b8 b9 b10, .string b11, .string rel] 153))
                have hi0 : (0 : Int) ≤ (k : Int) := by omega
                have hi1 : (k : Int) < (zm : Int) := by omega
                clear hg sl1 sl2 sl3 hcat hRa' htag hc8 me mt mF mft mf m1
                generalize hnf : fs.length = nf at *
                have HNF := hid hnf
                clear hnf
                go_upto_region 15 with (go_at_call 78; refine (HI.out _ (HE.out.alloc _)).mono ?_; rintro e w3 ⟨b, rfl, hE⟩; have HE3 := hid ((HE.out.alloc _).trans hE); obtain ⟨⟨x0, x1, x2, x3, x4, x5, x6, x7⟩, -⟩ := slot8 (hE.block HB0.out); cases b <;> clear hE)
                · go_ret
                  exact ⟨_, rfl, HE3.out⟩
                clear x0 x1 x2 x3 x4 x5 x6 x7 v0 v1 v2 v3 v4 v5 v6 v7
                go_loopw [45] (fun i wq => ∃ j : Nat, i = .int .i64 j ∧ j ≤ nf ∧ Hid (Ext w wq)) (fun i _ => nf - (intOf i).toNat)
                case atStart => exact ⟨0, rfl, Nat.zero_le _, HE3⟩
                case round =>
                  clear HE HE3 HB0
                  obtain ⟨j, rfl, hj, HE⟩ := hrel
                  by_cases hjl : j < nf
                  · obtain ⟨g, hg⟩ : ∃ g, fs[j]? = some g := ⟨_, List.getElem?_eq_getElem (by have := HNF.out; omega)⟩
                    obtain ⟨sl1, sl2, sl3⟩ := HFs.out
                    obtain ⟨rfl, -⟩ := sl2 (by omega)
                    obtain ⟨cs8, hc8, hcat⟩ := sl3 j hjl
                    have htag := HFt.out g (List.mem_of_getElem? hg)
                    have hR8 := HFr.out j g cs8 hg hc8 hcat
                    cases hR8 with
                    | @fld name t ds c0 c1 c2 c3 c4 c5 da db dO dc f1 ft fe fD fd =>
                      obtain ⟨b2', b3', b4', b5', b6', b7', b8', b9', b10', b11', hee⟩ := fe.formR ft
                      simp only [List.cons.injEq, and_true] at hee
                      obtain ⟨rfl, rfl, rfl, rfl, rfl, rfl⟩ := hee
                      obtain ⟨v0, v1, v2, v3, v4, v5, v6, v7⟩ := cells8 (cellsAt_ext HE.out hcat)
                      obtain ⟨a2, hta2, hRa2⟩ := fe.refAtom ft
                      have HI2 := hid (fun W (hW : Ext w W) => IH.out a2 W _ hta2 (hRa2.ext hW))
                      have HOV := hid (fun W (hW : Ext w W) => (ordVals_any _ _ W ((vals_take1 fD fd).ext hW)).mono (fun e w' h => (⟨_, h.1, h.2⟩ : Tells W e w')))
                      have hdle : ds.length ≤ dc := fD.1
                      have hda : 0 < ds.length → ∃ p, da = some p := fun h => ⟨_, (fD.2.1 h).1⟩
                      have hi0 : (0 : Int) ≤ (j : Int) := by omega
                      have hi1 : (j : Int) < (nf : Int) := by omega
                      clear hg sl1 sl2 sl3 hcat hRa2 htag hc8 fe ft fD fd f1
                      generalize ds.length = nd at *
                      have three : (nd = 0 ∧ da = none) ∨ (nd = 0 ∧ ∃ p, da = some p) ∨ ∃ n p, nd = n + 1 ∧ da = some p := by
                        rcases Nat.eq_zero_or_pos nd with h | h
                        · cases da with
                          | none => exact .inl ⟨h, rfl⟩
                          | some p => exact .inr (.inl ⟨h, p, rfl⟩)
                        · obtain ⟨p, hp⟩ := hda h
                          exact .inr (.inr ⟨nd - 1, p, by omega, hp⟩)
                      clear hda
                      rcases three with ⟨rfl, rfl⟩ | ⟨rfl, p, rfl⟩ | ⟨n, p, rfl, rfl⟩
                      all_goals
                        go_wp2_with (first
                          | (go_at_call 16; refine (HOV.out _ (HE.out.alloc _)).mono ?_; rintro e w4 ⟨b, rfl, hE⟩; have HE4 := hid ((HE.out.alloc _).trans hE); obtain ⟨⟨x0, x1, x2, x3, x4, x5, x6, x7⟩, -⟩ := slot8 (hE.block (heap_alloc_new wr _)); cases b <;> clear hE)
                          | (go_at_call 78; refine (HI2.out _ HE4.out).mono ?_; rintro e w5 ⟨b, rfl, hE⟩; have HE5 := hid (HE4.out.trans hE); cases b <;> clear hE))
                      all_goals first
                        | (go_ret; exact ⟨_, rfl, HE4.out⟩)
                        | (go_ret; exact ⟨_, rfl, HE5.out⟩)
                        | exact ⟨⟨j + 1, by go_num, by omega, HE5⟩, by simp [intOf]; omega⟩
                    | _ => cases htag
                  · go_wp2_with fail
                    exact ⟨⟨k + 1, by go_num, by omega, HE⟩, by simp [intOf]; omega⟩
              | _ => cases htag
            · go_wp2_with fail
              go_ret
              exact ⟨_, rfl, HE.out⟩
    | _ => cases ht
theorem defd : ∀ d : Nat, d < 1000 → DefOK d
  | 0, h => def_of 0 h (fun a w cs ht hR => by
      obtain ⟨s, p0, p1, p2, q0, q1, q2, rfl⟩ := hR.formA ht
      go_enter Try.func78, Try.ntmps78
      go_wp2_with fail
      go_ret
      exact ⟨_, rfl, (Ext.refl _).alloc _⟩)
  | d + 1, h => def_of (d + 1) h (defd d (by omega))
theorem definedAtom_any (d : Nat) (hd : d < 1000) : DefOK d := defd d hd
end Go.Proofs.Ytempfaefopfobaa
