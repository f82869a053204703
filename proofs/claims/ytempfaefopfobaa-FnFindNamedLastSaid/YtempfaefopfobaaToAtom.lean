/- ToAtom: impl.toAtom. -/
import Derived.Test.YtempfaefopfobaaToList

namespace Go.Proofs.Ytempfaefopfobaa
open Go.ChangeShapes Go.WideShapes Go.ChangeAt Go.RowKit
set_option linter.unusedVariables false
set_option linter.unusedSimpArgs false

/-- a pointer to the first of the parts, if there is one -/
def SubP (S : Nat → Prop) (w : World) (T : TypeId) (tag : Nat) (ls : List GS) (v : Value) : Prop :=
  ∃ (b : Nat) (cs : List Value), v = (if ls.length = 0 then .pointer none else .pointer (some ⟨b, 0, none⟩)) ∧ (0 < ls.length → S b ∧ w.heap[b]? = some (.cells cs.toArray T)) ∧ ∀ g, ls[0]? = some g → g.tag = tag → RepS S w g cs
theorem SubP.mono {S S' : Nat → Prop} {w w' : World} (h : Same S w w') (hS : ∀ b, S b → b < w.heap.size → S' b) {T : TypeId} {tag : Nat} {ls : List GS} {v : Value} (hr : SubP S w T tag ls v) : SubP S' w' T tag ls v := by
  obtain ⟨b, cs, h1, h2, h3⟩ := hr
  exact ⟨b, cs, h1, fun h0 => ⟨hS _ (h2 h0).1 (Array.getElem?_eq_some_iff.1 (h2 h0).2).1, h _ _ (h2 h0).1 (h2 h0).2⟩, fun g hg ht => (h3 g hg ht).mono h hS⟩
theorem SubP.nil (S : Nat → Prop) (w : World) (T : TypeId) (tag : Nat) : SubP S w T tag [] (.pointer none) := ⟨0, [], rfl, fun h => absurd h (by simp), fun g hg => by simp at hg⟩
theorem SubP.cons {S : Nat → Prop} {w : World} {T : TypeId} {tag : Nat} {g : GS} {ls : List GS} {b : Nat} {cs : List Value} (hb : S b) (hh : w.heap[b]? = some (.cells cs.toArray T)) (hr : RepS S w g cs) : SubP S w T tag (g :: ls) (.pointer (some ⟨b, 0, none⟩)) :=
  ⟨b, cs, by simp, fun _ => ⟨hb, hh⟩, fun g' hg _ => by simp at hg; subst hg; exact hr⟩
theorem RepS.formL {S : Nat → Prop} {w : World} {g : GS} {cs : List Value} (h : RepS S w g cs) (ht : g.tag = 3) : ∃ p q r s t v x y z, cs = [.pointer p, .pointer q, .pointer r, .pointer s, .pointer t, .bool false, .string v, .slice x y z] := by
  cases h with
  | lst h1 ht' he hks =>
    obtain ⟨_, _, _, _, _, e⟩ := he.formR ht'
    simp only [List.cons.injEq, and_true] at e
    obtain ⟨rfl, rfl, rfl, rfl, rfl, rfl⟩ := e
    obtain ⟨a, b, o, c, rfl, _⟩ := hks
    exact ⟨_, _, _, _, _, _, _, _, _, rfl⟩
  | _ => cases ht
theorem RepS.formM {S : Nat → Prop} {w : World} {g : GS} {cs : List Value} (h : RepS S w g cs) (ht : g.tag = 4) : ∃ x y z p q r s t v, cs = [.slice x y z, .slice none 0 0, .pointer p, .pointer q, .pointer r, .pointer s, .pointer t, .bool false, .string v] := by
  cases h with
  | mp h1 ht' he hn hF hft hf =>
    obtain ⟨_, _, _, _, _, e⟩ := he.formR ht'
    simp only [List.cons.injEq, and_true] at e
    obtain ⟨rfl, rfl, rfl, rfl, rfl, rfl⟩ := e
    exact ⟨_, _, _, _, _, _, _, _, _, rfl⟩
  | _ => cases ht
theorem RepGS.formL {S : Nat → Prop} {w : World} {g : GS} {cs : List Value} (h : RepGS S w g cs) (ht : g.tag = 3) : ∃ b n s p0 p1 p2 q0 q1 q2 r r' x y z, cs = [.bool b, .string n, .string s, .slice p0 p1 p2, .slice q0 q1 q2, .string r, .string r', .slice x y z] := by
  cases h with
  | lst h1 ht' he hks =>
    obtain ⟨_, _, _, _, _, _, _, _, _, _, e⟩ := he.formR ht'
    simp only [List.cons.injEq, and_true] at e
    obtain ⟨rfl, rfl, rfl, rfl, rfl, rfl⟩ := e
    obtain ⟨a, b, o, c, rfl, _⟩ := hks
    exact ⟨_, _, _, _, _, _, _, _, _, _, _, _, _, _, rfl⟩
  | _ => cases ht
theorem RepGS.formM {S : Nat → Prop} {w : World} {g : GS} {cs : List Value} (h : RepGS S w g cs) (ht : g.tag = 4) : ∃ x y z b n s p0 p1 p2 q0 q1 q2 r r', cs = [.slice x y z, .bool b, .string n, .string s, .slice p0 p1 p2, .slice q0 q1 q2, .string r, .string r'] := by
  cases h with
  | mp h1 ht' he hb hF hft hf =>
    obtain ⟨_, _, _, _, _, _, _, _, _, _, e⟩ := he.formR ht'
    simp only [List.cons.injEq, and_true] at e
    obtain ⟨rfl, rfl, rfl, rfl, rfl, rfl⟩ := e
    exact ⟨_, _, _, _, _, _, _, _, _, _, _, _, _, _, rfl⟩
  | _ => cases ht
theorem RepGS.formF {S : Nat → Prop} {w : World} {g : GS} {cs : List Value} (h : RepGS S w g cs) (ht : g.tag = 5) : ∃ r' b n s p0 p1 p2 q0 q1 q2 r x y z, cs = [.string r', .bool b, .string n, .string s, .slice p0 p1 p2, .slice q0 q1 q2, .string r, .slice x y z] := by
  cases h with
  | fld h1 ht' he hD hd =>
    obtain ⟨_, _, _, _, _, _, _, _, _, _, e⟩ := he.formR ht'
    simp only [List.cons.injEq, and_true] at e
    obtain ⟨rfl, rfl, rfl, rfl, rfl, rfl⟩ := e
    exact ⟨_, _, _, _, _, _, _, _, _, _, _, _, _, _, rfl⟩
  | _ => cases ht
theorem cells8 {w : World} {b o : Nat} {c0 c1 c2 c3 c4 c5 c6 c7 : Value} (h : cellsAt w b o [c0, c1, c2, c3, c4, c5, c6, c7]) :
    w.cell? ⟨b, o, none⟩ = some c0 ∧ w.cell? ⟨b, o + 1, none⟩ = some c1 ∧ w.cell? ⟨b, o + 2, none⟩ = some c2 ∧ w.cell? ⟨b, o + 3, none⟩ = some c3 ∧ w.cell? ⟨b, o + 4, none⟩ = some c4 ∧ w.cell? ⟨b, o + 5, none⟩ = some c5 ∧ w.cell? ⟨b, o + 6, none⟩ = some c6 ∧ w.cell? ⟨b, o + 7, none⟩ = some c7 :=
  ⟨by simpa using h 0 c0 rfl, h 1 _ rfl, h 2 _ rfl, h 3 _ rfl, h 4 _ rfl, h 5 _ rfl, h 6 _ rfl, h 7 _ rfl⟩

set_option maxRecDepth 100000 in
set_option maxHeartbeats 4000000 in
theorem toAtom_of (sc : ByteArray) (ls ms : List GS) (ihl : ∀ g, ls[0]? = some g → ToOK 74 3 g) (ihm : ∀ g, ms[0]? = some g → ToOK 126 4 g) : ToOK 106 2 (.atom sc ls ms) := by
  intro _ w cs hR
  cases hR with
  | @atom _ _ _ la ma lb lo lc mb mo mc h1 hL hlt hl hM hmt hm =>
  have HL := hid hL
  have HLt := hid hlt
  have HLL := hid hl
  have HM := hid hM
  have HMt := hid hmt
  have HMM := hid hm
  have HIL := hid ihl
  have HIM := hid ihm
  clear hL hlt hl hM hmt hm ihl ihm
  have hd := isEmpty_size sc
  by_cases hr : sc.size = 0
  all_goals
    simp only [hr, decide_true, decide_false] at hd
    have Hr := hid hr
    clear hr
    go_enter Try.func106, Try.ntmps106
    go_upto_region 5 with fail
  · have HB := hid (show BSt w (((w.alloc (.cells #[.string sc, .slice la ls.length lc, .slice ma ms.length mc] 53)).alloc (.cells #[.pointer none, .pointer none, .pointer none] 123)).alloc (.cells #[.pointer none, .pointer none, .pointer none] 123)) (w.heap.size + 1 + 1) (.cells #[.string sc, .slice la ls.length lc, .slice ma ms.length mc] 53) [.pointer none, .pointer none, .pointer none] 123 [.pointer none, .pointer none, .pointer none] from by
      obtain ⟨x1, x2, x3, hE⟩ := boxes3 w (.cells #[.string sc, .slice la ls.length lc, .slice ma ms.length mc] 53) (.cells #[.pointer none, .pointer none, .pointer none] 123) (.cells #[.pointer none, .pointer none, .pointer none] 123) _ (Below.refl _ _)
      exact ⟨x1, x2, x3, by omega, hE⟩)
    generalize ((w.alloc (.cells #[.string sc, .slice la ls.length lc, .slice ma ms.length mc] 53)).alloc (.cells #[.pointer none, .pointer none, .pointer none] 123)).alloc (.cells #[.pointer none, .pointer none, .pointer none] 123) = wk at *
    have HS := hid (show StrP (Keep w (w.heap.size + 1 + 1)) wk 189 sc (.pointer none) from .inl ⟨Hr.out, rfl⟩)
    cases ls with
    | nil =>
      obtain ⟨⟨z0, z1, z2⟩, -⟩ := slot3 HB.out.box
      go_upto_region 8 with fail
      have HSL := hid (SubP.nil (Keep w (w.heap.size + 1 + 1)) wk 129 3)
      clear z0 z1 z2
      cases ms with
      | nil =>
        obtain ⟨⟨z0, z1, z2⟩, -⟩ := slot3 HB.out.box
        go_upto_region 11 with fail
        have HSM := hid (SubP.nil (Keep w (w.heap.size + 1 + 1)) wk 195 4)
        clear z0 z1 z2
        obtain ⟨⟨y0, y1, y2⟩, -⟩ := slot3 HB.out.out
        obtain ⟨-, v8, v9, v10⟩ := slot3 HB.out.res
        obtain ⟨⟨v0, v1, v2⟩, -⟩ := slot3 HB.out.res
        go_wp2_with fail
        have q0 := HB.out.fin rfl
        have qS := hid (HS.out.mono (S' := fun b => w.heap.size ≤ b) (keep_res 0 [.pointer none, .pointer none, .pointer none]) (fun b hb _ => by have := hb.1; omega))
        have qL := hid (HSL.out.mono (S' := fun b => w.heap.size ≤ b) (keep_res 0 [.pointer none, .pointer none, .pointer none]) (fun b hb _ => by have := hb.1; omega))
        have qM := hid (HSM.out.mono (S' := fun b => w.heap.size ≤ b) (keep_res 0 [.pointer none, .pointer none, .pointer none]) (fun b hb _ => by have := hb.1; omega))
        obtain ⟨q2, qE⟩ := q0
        have QE := hid qE
        clear qE
        change bodyPost _ _ _ _ _ (setL wk (w.heap.size + 1) 0 [.pointer none, .pointer none, .pointer none])
        generalize setL wk (w.heap.size + 1) 0 [.pointer none, .pointer none, .pointer none] = WF at *
        obtain ⟨⟨o0, o1, o2⟩, -⟩ := slot3 q2
        obtain ⟨b3, l3, e3, e4, e5⟩ := qL.out
        obtain ⟨b5, l5, e6, e7, e8⟩ := qM.out
        refine bodyPost_ret (v := .agg #[.pointer none, .pointer none, .pointer none]) (by simp [results, Try.results106, go_sem, o0, o1, o2]) rfl ?_
        exact ⟨[_, _, _], rfl, .atom h1 qS.out e3 e4 e5 e6 e7 e8, QE.out⟩
      | cons g ms =>
        obtain ⟨cs, hc1, hc2⟩ := HM.out.2.2 0 (by simp)
        have hg := HMM.out 0 g cs rfl hc1 hc2
        have Hg := hid (HMt.out g (by simp))
        obtain ⟨d0, d1, d2, d3, d4, d5, d6, d7, d8, d9, d10, d11, d12, d13, rfl⟩ := hg.formM Hg.out
        obtain ⟨ha, -⟩ := HM.out.2.1 (by simp)
        subst ha
        obtain ⟨e0, e1, e2, e3, e4, e5, e6, e7⟩ := cells8 (cellsAt_ext HB.out.ext hc2)
        simp only [Nat.zero_mul, Nat.add_zero] at e0 e1 e2 e3 e4 e5 e6 e7
        have HRg := hid (hg.ext HB.out.ext)
        have Hi := hid (HIM.out g rfl)
        have hlen : (0 : Int) < ((ms.length + 1 : Nat) : Int) := by omega
        clear hg hc1 hc2
        obtain ⟨⟨z0, z1, z2⟩, -⟩ := slot3 HB.out.box
        go_upto_region 11 with (go_at_call 126; refine (Hi.out Hg.out _ _ HRg.out).mono ?_; rintro e w9 ⟨cs7, rfl, hT, hE⟩; obtain ⟨r0, r1, r2, r3, r4, r5, r6, r7, r8, rfl⟩ := hT.formM Hg.out; have HT7 := hid hT; have HE7 := hid hE; have HB7 := hid (HB.out.later hE); (obtain ⟨⟨y0, y1, y2⟩, y3, y4, y5⟩ := slot3 (HB7.out.later ((Ext.refl w9).alloc (.cells #[.slice r0 r1 r2, .slice none 0 0, .pointer r3, .pointer r4, .pointer r5, .pointer r6, .pointer r7, .bool false, .string r8] 195))).out); (have u7 := fun o => slot3 (HB7.out.later ((Ext.refl w9).alloc o)).out); clear hT hE)
        have hlt7 := HB7.out.lt
        have hlt0 := HB.out.lt
        have HB8 := hid ((HB7.out.later ((Ext.refl w9).alloc (.cells #[.slice r0 r1 r2, .slice none 0 0, .pointer r3, .pointer r4, .pointer r5, .pointer r6, .pointer r7, .bool false, .string r8] 195))).set [.pointer none, .pointer none] [.pointer none] [.pointer (some ⟨w9.heap.size, 0, none⟩)] (by simp))
        have HS8 := hid ((HS.out.mono (S' := Keep w (w.heap.size + 1 + 1)) ((HE7.out.trans ((Ext.refl w9).alloc (.cells #[.slice r0 r1 r2, .slice none 0 0, .pointer r3, .pointer r4, .pointer r5, .pointer r6, .pointer r7, .bool false, .string r8] 195))).same _) (fun b hb _ => hb)).mono (S' := Keep w (w.heap.size + 1 + 1)) (keep_set 2 [.pointer (some ⟨w9.heap.size, 0, none⟩)]) (fun b hb _ => hb))
        have Q1 : Keep w (w.heap.size + 1 + 1) w9.heap.size := ⟨by omega, by omega⟩
        have Q2 := (setL_other (W := w9.alloc (.cells #[.slice r0 r1 r2, .slice none 0 0, .pointer r3, .pointer r4, .pointer r5, .pointer r6, .pointer r7, .bool false, .string r8] 195)) (b := w.heap.size + 1 + 1) (i := w9.heap.size) (o := 2) (by omega) [.pointer (some ⟨w9.heap.size, 0, none⟩)]).trans (heap_alloc_new w9 _)
        have Q3 := ((HT7.out.mono (S' := Keep w (w.heap.size + 1 + 1)) (((Ext.refl w9).alloc (.cells #[.slice r0 r1 r2, .slice none 0 0, .pointer r3, .pointer r4, .pointer r5, .pointer r6, .pointer r7, .bool false, .string r8] 195)).same _) (fun b hb _ => ⟨by omega, by omega⟩)).mono (S' := Keep w (w.heap.size + 1 + 1)) (keep_set 2 [.pointer (some ⟨w9.heap.size, 0, none⟩)]) (fun b hb _ => hb))
        have HL8 := hid ((HSL.out.mono (S' := Keep w (w.heap.size + 1 + 1)) ((HE7.out.trans ((Ext.refl w9).alloc (.cells #[.slice r0 r1 r2, .slice none 0 0, .pointer r3, .pointer r4, .pointer r5, .pointer r6, .pointer r7, .bool false, .string r8] 195))).same _) (fun b hb _ => hb)).mono (S' := Keep w (w.heap.size + 1 + 1)) (keep_set 2 [.pointer (some ⟨w9.heap.size, 0, none⟩)]) (fun b hb _ => hb))
        change Code.wp _ _ _ _ (setL (w9.alloc (.cells #[.slice r0 r1 r2, .slice none 0 0, .pointer r3, .pointer r4, .pointer r5, .pointer r6, .pointer r7, .bool false, .string r8] 195)) (w.heap.size + 1 + 1) 2 [.pointer (some ⟨w9.heap.size, 0, none⟩)])
        change Hid (BSt w (setL (w9.alloc (.cells #[.slice r0 r1 r2, .slice none 0 0, .pointer r3, .pointer r4, .pointer r5, .pointer r6, .pointer r7, .bool false, .string r8] 195)) (w.heap.size + 1 + 1) 2 [.pointer (some ⟨w9.heap.size, 0, none⟩)]) (w.heap.size + 1 + 1) _ _ _ [.pointer none, .pointer none, .pointer (some ⟨w9.heap.size, 0, none⟩)]) at HB8
        clear HB HS HE7 HT7 HB7 e0 e1 e2 e3 e4 e5 e6 e7 z0 z1 z2 y0 y1 y2 y3 y4 y5 u7 hlt7 hlt0 HSL
        generalize (setL (w9.alloc (.cells #[.slice r0 r1 r2, .slice none 0 0, .pointer r3, .pointer r4, .pointer r5, .pointer r6, .pointer r7, .bool false, .string r8] 195)) (w.heap.size + 1 + 1) 2 [.pointer (some ⟨w9.heap.size, 0, none⟩)]) = wk at *
        have HB := HB8
        have HS := HS8
        have HSL := HL8
        clear HB8 HS8 HL8
        have HSM := hid (SubP.cons (T := 195) (tag := 4) (ls := ms) Q1 Q2 Q3)
        clear Q1 Q2 Q3
        obtain ⟨⟨y0, y1, y2⟩, -⟩ := slot3 HB.out.out
        obtain ⟨-, v8, v9, v10⟩ := slot3 HB.out.res
        obtain ⟨⟨v0, v1, v2⟩, -⟩ := slot3 HB.out.res
        go_wp2_with fail
        have q0 := HB.out.fin rfl
        have qS := hid (HS.out.mono (S' := fun b => w.heap.size ≤ b) (keep_res 0 [.pointer none, .pointer none, .pointer (some ⟨w9.heap.size, 0, none⟩)]) (fun b hb _ => by have := hb.1; omega))
        have qL := hid (HSL.out.mono (S' := fun b => w.heap.size ≤ b) (keep_res 0 [.pointer none, .pointer none, .pointer (some ⟨w9.heap.size, 0, none⟩)]) (fun b hb _ => by have := hb.1; omega))
        have qM := hid (HSM.out.mono (S' := fun b => w.heap.size ≤ b) (keep_res 0 [.pointer none, .pointer none, .pointer (some ⟨w9.heap.size, 0, none⟩)]) (fun b hb _ => by have := hb.1; omega))
        obtain ⟨q2, qE⟩ := q0
        have QE := hid qE
        clear qE
        change bodyPost _ _ _ _ _ (setL wk (w.heap.size + 1) 0 [.pointer none, .pointer none, .pointer (some ⟨w9.heap.size, 0, none⟩)])
        generalize setL wk (w.heap.size + 1) 0 [.pointer none, .pointer none, .pointer (some ⟨w9.heap.size, 0, none⟩)] = WF at *
        obtain ⟨⟨o0, o1, o2⟩, -⟩ := slot3 q2
        obtain ⟨b3, l3, e3, e4, e5⟩ := qL.out
        obtain ⟨b5, l5, e6, e7, e8⟩ := qM.out
        refine bodyPost_ret (v := .agg #[.pointer none, .pointer none, .pointer (some ⟨w9.heap.size, 0, none⟩)]) (by simp [results, Try.results106, go_sem, o0, o1, o2]) rfl ?_
        exact ⟨[_, _, _], rfl, .atom h1 qS.out e3 e4 e5 e6 e7 e8, QE.out⟩
    | cons g ls =>
      obtain ⟨cs, hc1, hc2⟩ := HL.out.2.2 0 (by simp)
      have hg := HLL.out 0 g cs rfl hc1 hc2
      have Hg := hid (HLt.out g (by simp))
      obtain ⟨d0, d1, d2, d3, d4, d5, d6, d7, d8, d9, d10, d11, d12, d13, rfl⟩ := hg.formL Hg.out
      obtain ⟨ha, -⟩ := HL.out.2.1 (by simp)
      subst ha
      obtain ⟨e0, e1, e2, e3, e4, e5, e6, e7⟩ := cells8 (cellsAt_ext HB.out.ext hc2)
      simp only [Nat.zero_mul, Nat.add_zero] at e0 e1 e2 e3 e4 e5 e6 e7
      have HRg := hid (hg.ext HB.out.ext)
      have Hi := hid (HIL.out g rfl)
      have hlen : (0 : Int) < ((ls.length + 1 : Nat) : Int) := by omega
      clear hg hc1 hc2
      obtain ⟨⟨z0, z1, z2⟩, -⟩ := slot3 HB.out.box
      go_upto_region 8 with (go_at_call 74; refine (Hi.out Hg.out _ _ HRg.out).mono ?_; rintro e w7 ⟨cs7, rfl, hT, hE⟩; obtain ⟨r0, r1, r2, r3, r4, r5, r6, r7, r8, rfl⟩ := hT.formL Hg.out; have HT7 := hid hT; have HE7 := hid hE; have HB7 := hid (HB.out.later hE); (obtain ⟨⟨y0, y1, y2⟩, y3, y4, y5⟩ := slot3 (HB7.out.later ((Ext.refl w7).alloc (.cells #[.pointer r0, .pointer r1, .pointer r2, .pointer r3, .pointer r4, .bool false, .string r5, .slice r6 r7 r8] 129))).out); (have u7 := fun o => slot3 (HB7.out.later ((Ext.refl w7).alloc o)).out); clear hT hE)
      have hlt7 := HB7.out.lt
      have hlt0 := HB.out.lt
      have HB8 := hid ((HB7.out.later ((Ext.refl w7).alloc (.cells #[.pointer r0, .pointer r1, .pointer r2, .pointer r3, .pointer r4, .bool false, .string r5, .slice r6 r7 r8] 129))).set [.pointer none] [.pointer none, .pointer none] [.pointer (some ⟨w7.heap.size, 0, none⟩)] (by simp))
      have HS8 := hid ((HS.out.mono (S' := Keep w (w.heap.size + 1 + 1)) ((HE7.out.trans ((Ext.refl w7).alloc (.cells #[.pointer r0, .pointer r1, .pointer r2, .pointer r3, .pointer r4, .bool false, .string r5, .slice r6 r7 r8] 129))).same _) (fun b hb _ => hb)).mono (S' := Keep w (w.heap.size + 1 + 1)) (keep_set 1 [.pointer (some ⟨w7.heap.size, 0, none⟩)]) (fun b hb _ => hb))
      have Q1 : Keep w (w.heap.size + 1 + 1) w7.heap.size := ⟨by omega, by omega⟩
      have Q2 := (setL_other (W := w7.alloc (.cells #[.pointer r0, .pointer r1, .pointer r2, .pointer r3, .pointer r4, .bool false, .string r5, .slice r6 r7 r8] 129)) (b := w.heap.size + 1 + 1) (i := w7.heap.size) (o := 1) (by omega) [.pointer (some ⟨w7.heap.size, 0, none⟩)]).trans (heap_alloc_new w7 _)
      have Q3 := ((HT7.out.mono (S' := Keep w (w.heap.size + 1 + 1)) (((Ext.refl w7).alloc (.cells #[.pointer r0, .pointer r1, .pointer r2, .pointer r3, .pointer r4, .bool false, .string r5, .slice r6 r7 r8] 129)).same _) (fun b hb _ => ⟨by omega, by omega⟩)).mono (S' := Keep w (w.heap.size + 1 + 1)) (keep_set 1 [.pointer (some ⟨w7.heap.size, 0, none⟩)]) (fun b hb _ => hb))
      change Code.wp _ _ _ _ (setL (w7.alloc (.cells #[.pointer r0, .pointer r1, .pointer r2, .pointer r3, .pointer r4, .bool false, .string r5, .slice r6 r7 r8] 129)) (w.heap.size + 1 + 1) 1 [.pointer (some ⟨w7.heap.size, 0, none⟩)])
      change Hid (BSt w (setL (w7.alloc (.cells #[.pointer r0, .pointer r1, .pointer r2, .pointer r3, .pointer r4, .bool false, .string r5, .slice r6 r7 r8] 129)) (w.heap.size + 1 + 1) 1 [.pointer (some ⟨w7.heap.size, 0, none⟩)]) (w.heap.size + 1 + 1) _ _ _ [.pointer none, .pointer (some ⟨w7.heap.size, 0, none⟩), .pointer none]) at HB8
      clear HB HS HE7 HT7 HB7 e0 e1 e2 e3 e4 e5 e6 e7 z0 z1 z2 y0 y1 y2 y3 y4 y5 u7 hlt7 hlt0
      generalize (setL (w7.alloc (.cells #[.pointer r0, .pointer r1, .pointer r2, .pointer r3, .pointer r4, .bool false, .string r5, .slice r6 r7 r8] 129)) (w.heap.size + 1 + 1) 1 [.pointer (some ⟨w7.heap.size, 0, none⟩)]) = wk at *
      have HB := HB8
      have HS := HS8
      clear HB8 HS8
      have HSL := hid (SubP.cons (T := 129) (tag := 3) (ls := ls) Q1 Q2 Q3)
      clear Q1 Q2 Q3 Hg Hi HRg hlen
      cases ms with
      | nil =>
        obtain ⟨⟨z0, z1, z2⟩, -⟩ := slot3 HB.out.box
        go_upto_region 11 with fail
        have HSM := hid (SubP.nil (Keep w (w.heap.size + 1 + 1)) wk 195 4)
        clear z0 z1 z2
        obtain ⟨⟨y0, y1, y2⟩, -⟩ := slot3 HB.out.out
        obtain ⟨-, v8, v9, v10⟩ := slot3 HB.out.res
        obtain ⟨⟨v0, v1, v2⟩, -⟩ := slot3 HB.out.res
        go_wp2_with fail
        have q0 := HB.out.fin rfl
        have qS := hid (HS.out.mono (S' := fun b => w.heap.size ≤ b) (keep_res 0 [.pointer none, .pointer (some ⟨w7.heap.size, 0, none⟩), .pointer none]) (fun b hb _ => by have := hb.1; omega))
        have qL := hid (HSL.out.mono (S' := fun b => w.heap.size ≤ b) (keep_res 0 [.pointer none, .pointer (some ⟨w7.heap.size, 0, none⟩), .pointer none]) (fun b hb _ => by have := hb.1; omega))
        have qM := hid (HSM.out.mono (S' := fun b => w.heap.size ≤ b) (keep_res 0 [.pointer none, .pointer (some ⟨w7.heap.size, 0, none⟩), .pointer none]) (fun b hb _ => by have := hb.1; omega))
        obtain ⟨q2, qE⟩ := q0
        have QE := hid qE
        clear qE
        change bodyPost _ _ _ _ _ (setL wk (w.heap.size + 1) 0 [.pointer none, .pointer (some ⟨w7.heap.size, 0, none⟩), .pointer none])
        generalize setL wk (w.heap.size + 1) 0 [.pointer none, .pointer (some ⟨w7.heap.size, 0, none⟩), .pointer none] = WF at *
        obtain ⟨⟨o0, o1, o2⟩, -⟩ := slot3 q2
        obtain ⟨b3, l3, e3, e4, e5⟩ := qL.out
        obtain ⟨b5, l5, e6, e7, e8⟩ := qM.out
        refine bodyPost_ret (v := .agg #[.pointer none, .pointer (some ⟨w7.heap.size, 0, none⟩), .pointer none]) (by simp [results, Try.results106, go_sem, o0, o1, o2]) rfl ?_
        exact ⟨[_, _, _], rfl, .atom h1 qS.out e3 e4 e5 e6 e7 e8, QE.out⟩
      | cons g ms =>
        obtain ⟨cs, hc1, hc2⟩ := HM.out.2.2 0 (by simp)
        have hg := HMM.out 0 g cs rfl hc1 hc2
        have Hg := hid (HMt.out g (by simp))
        obtain ⟨d0, d1, d2, d3, d4, d5, d6, d7, d8, d9, d10, d11, d12, d13, rfl⟩ := hg.formM Hg.out
        obtain ⟨ha, -⟩ := HM.out.2.1 (by simp)
        subst ha
        obtain ⟨e0, e1, e2, e3, e4, e5, e6, e7⟩ := cells8 (cellsAt_ext HB.out.ext hc2)
        simp only [Nat.zero_mul, Nat.add_zero] at e0 e1 e2 e3 e4 e5 e6 e7
        have HRg := hid (hg.ext HB.out.ext)
        have Hi := hid (HIM.out g rfl)
        have hlen : (0 : Int) < ((ms.length + 1 : Nat) : Int) := by omega
        clear hg hc1 hc2
        obtain ⟨⟨z0, z1, z2⟩, -⟩ := slot3 HB.out.box
        go_upto_region 11 with (go_at_call 126; refine (Hi.out Hg.out _ _ HRg.out).mono ?_; rintro e w9 ⟨cs7, rfl, hT, hE⟩; obtain ⟨r0, r1, r2, r3, r4, r5, r6, r7, r8, rfl⟩ := hT.formM Hg.out; have HT7 := hid hT; have HE7 := hid hE; have HB7 := hid (HB.out.later hE); (obtain ⟨⟨y0, y1, y2⟩, y3, y4, y5⟩ := slot3 (HB7.out.later ((Ext.refl w9).alloc (.cells #[.slice r0 r1 r2, .slice none 0 0, .pointer r3, .pointer r4, .pointer r5, .pointer r6, .pointer r7, .bool false, .string r8] 195))).out); (have u7 := fun o => slot3 (HB7.out.later ((Ext.refl w9).alloc o)).out); clear hT hE)
        have hlt7 := HB7.out.lt
        have hlt0 := HB.out.lt
        have HB8 := hid ((HB7.out.later ((Ext.refl w9).alloc (.cells #[.slice r0 r1 r2, .slice none 0 0, .pointer r3, .pointer r4, .pointer r5, .pointer r6, .pointer r7, .bool false, .string r8] 195))).set [.pointer none, .pointer (some ⟨w7.heap.size, 0, none⟩)] [.pointer none] [.pointer (some ⟨w9.heap.size, 0, none⟩)] (by simp))
        have HS8 := hid ((HS.out.mono (S' := Keep w (w.heap.size + 1 + 1)) ((HE7.out.trans ((Ext.refl w9).alloc (.cells #[.slice r0 r1 r2, .slice none 0 0, .pointer r3, .pointer r4, .pointer r5, .pointer r6, .pointer r7, .bool false, .string r8] 195))).same _) (fun b hb _ => hb)).mono (S' := Keep w (w.heap.size + 1 + 1)) (keep_set 2 [.pointer (some ⟨w9.heap.size, 0, none⟩)]) (fun b hb _ => hb))
        have Q1 : Keep w (w.heap.size + 1 + 1) w9.heap.size := ⟨by omega, by omega⟩
        have Q2 := (setL_other (W := w9.alloc (.cells #[.slice r0 r1 r2, .slice none 0 0, .pointer r3, .pointer r4, .pointer r5, .pointer r6, .pointer r7, .bool false, .string r8] 195)) (b := w.heap.size + 1 + 1) (i := w9.heap.size) (o := 2) (by omega) [.pointer (some ⟨w9.heap.size, 0, none⟩)]).trans (heap_alloc_new w9 _)
        have Q3 := ((HT7.out.mono (S' := Keep w (w.heap.size + 1 + 1)) (((Ext.refl w9).alloc (.cells #[.slice r0 r1 r2, .slice none 0 0, .pointer r3, .pointer r4, .pointer r5, .pointer r6, .pointer r7, .bool false, .string r8] 195)).same _) (fun b hb _ => ⟨by omega, by omega⟩)).mono (S' := Keep w (w.heap.size + 1 + 1)) (keep_set 2 [.pointer (some ⟨w9.heap.size, 0, none⟩)]) (fun b hb _ => hb))
        have HL8 := hid ((HSL.out.mono (S' := Keep w (w.heap.size + 1 + 1)) ((HE7.out.trans ((Ext.refl w9).alloc (.cells #[.slice r0 r1 r2, .slice none 0 0, .pointer r3, .pointer r4, .pointer r5, .pointer r6, .pointer r7, .bool false, .string r8] 195))).same _) (fun b hb _ => hb)).mono (S' := Keep w (w.heap.size + 1 + 1)) (keep_set 2 [.pointer (some ⟨w9.heap.size, 0, none⟩)]) (fun b hb _ => hb))
        change Code.wp _ _ _ _ (setL (w9.alloc (.cells #[.slice r0 r1 r2, .slice none 0 0, .pointer r3, .pointer r4, .pointer r5, .pointer r6, .pointer r7, .bool false, .string r8] 195)) (w.heap.size + 1 + 1) 2 [.pointer (some ⟨w9.heap.size, 0, none⟩)])
        change Hid (BSt w (setL (w9.alloc (.cells #[.slice r0 r1 r2, .slice none 0 0, .pointer r3, .pointer r4, .pointer r5, .pointer r6, .pointer r7, .bool false, .string r8] 195)) (w.heap.size + 1 + 1) 2 [.pointer (some ⟨w9.heap.size, 0, none⟩)]) (w.heap.size + 1 + 1) _ _ _ [.pointer none, .pointer (some ⟨w7.heap.size, 0, none⟩), .pointer (some ⟨w9.heap.size, 0, none⟩)]) at HB8
        clear HB HS HE7 HT7 HB7 e0 e1 e2 e3 e4 e5 e6 e7 z0 z1 z2 y0 y1 y2 y3 y4 y5 u7 hlt7 hlt0 HSL
        generalize (setL (w9.alloc (.cells #[.slice r0 r1 r2, .slice none 0 0, .pointer r3, .pointer r4, .pointer r5, .pointer r6, .pointer r7, .bool false, .string r8] 195)) (w.heap.size + 1 + 1) 2 [.pointer (some ⟨w9.heap.size, 0, none⟩)]) = wk at *
        have HB := HB8
        have HS := HS8
        have HSL := HL8
        clear HB8 HS8 HL8
        have HSM := hid (SubP.cons (T := 195) (tag := 4) (ls := ms) Q1 Q2 Q3)
        clear Q1 Q2 Q3
        obtain ⟨⟨y0, y1, y2⟩, -⟩ := slot3 HB.out.out
        obtain ⟨-, v8, v9, v10⟩ := slot3 HB.out.res
        obtain ⟨⟨v0, v1, v2⟩, -⟩ := slot3 HB.out.res
        go_wp2_with fail
        have q0 := HB.out.fin rfl
        have qS := hid (HS.out.mono (S' := fun b => w.heap.size ≤ b) (keep_res 0 [.pointer none, .pointer (some ⟨w7.heap.size, 0, none⟩), .pointer (some ⟨w9.heap.size, 0, none⟩)]) (fun b hb _ => by have := hb.1; omega))
        have qL := hid (HSL.out.mono (S' := fun b => w.heap.size ≤ b) (keep_res 0 [.pointer none, .pointer (some ⟨w7.heap.size, 0, none⟩), .pointer (some ⟨w9.heap.size, 0, none⟩)]) (fun b hb _ => by have := hb.1; omega))
        have qM := hid (HSM.out.mono (S' := fun b => w.heap.size ≤ b) (keep_res 0 [.pointer none, .pointer (some ⟨w7.heap.size, 0, none⟩), .pointer (some ⟨w9.heap.size, 0, none⟩)]) (fun b hb _ => by have := hb.1; omega))
        obtain ⟨q2, qE⟩ := q0
        have QE := hid qE
        clear qE
        change bodyPost _ _ _ _ _ (setL wk (w.heap.size + 1) 0 [.pointer none, .pointer (some ⟨w7.heap.size, 0, none⟩), .pointer (some ⟨w9.heap.size, 0, none⟩)])
        generalize setL wk (w.heap.size + 1) 0 [.pointer none, .pointer (some ⟨w7.heap.size, 0, none⟩), .pointer (some ⟨w9.heap.size, 0, none⟩)] = WF at *
        obtain ⟨⟨o0, o1, o2⟩, -⟩ := slot3 q2
        obtain ⟨b3, l3, e3, e4, e5⟩ := qL.out
        obtain ⟨b5, l5, e6, e7, e8⟩ := qM.out
        refine bodyPost_ret (v := .agg #[.pointer none, .pointer (some ⟨w7.heap.size, 0, none⟩), .pointer (some ⟨w9.heap.size, 0, none⟩)]) (by simp [results, Try.results106, go_sem, o0, o1, o2]) rfl ?_
        exact ⟨[_, _, _], rfl, .atom h1 qS.out e3 e4 e5 e6 e7 e8, QE.out⟩
  · have HB := hid (show BSt w ((((w.alloc (.cells #[.string sc, .slice la ls.length lc, .slice ma ms.length mc] 53)).alloc (.cells #[.pointer none, .pointer none, .pointer none] 123)).alloc (.cells #[.pointer (some ⟨w.heap.size + 1 + 1 + 1, 0, none⟩), .pointer none, .pointer none] 123)).alloc (.cells #[.string sc] 189)) (w.heap.size + 1 + 1) (.cells #[.string sc, .slice la ls.length lc, .slice ma ms.length mc] 53) [.pointer none, .pointer none, .pointer none] 123 [.pointer (some ⟨w.heap.size + 1 + 1 + 1, 0, none⟩), .pointer none, .pointer none] from by
      obtain ⟨x1, x2, x3, hE⟩ := boxes3 w (.cells #[.string sc, .slice la ls.length lc, .slice ma ms.length mc] 53) (.cells #[.pointer none, .pointer none, .pointer none] 123) (.cells #[.pointer (some ⟨w.heap.size + 1 + 1 + 1, 0, none⟩), .pointer none, .pointer none] 123) _ (Below.refl _ _)
      exact BSt.later ⟨x1, x2, x3, by omega, hE⟩ ((Ext.refl _).alloc _))
    have HS := hid (show StrP (Keep w (w.heap.size + 1 + 1)) ((((w.alloc (.cells #[.string sc, .slice la ls.length lc, .slice ma ms.length mc] 53)).alloc (.cells #[.pointer none, .pointer none, .pointer none] 123)).alloc (.cells #[.pointer (some ⟨w.heap.size + 1 + 1 + 1, 0, none⟩), .pointer none, .pointer none] 123)).alloc (.cells #[.string sc] 189)) 189 sc (.pointer (some ⟨w.heap.size + 1 + 1 + 1, 0, none⟩)) from .inr ⟨Hr.out, _, rfl, ⟨by omega, by omega⟩, by have := heap_alloc_new (((w.alloc (.cells #[.string sc, .slice la ls.length lc, .slice ma ms.length mc] 53)).alloc (.cells #[.pointer none, .pointer none, .pointer none] 123)).alloc (.cells #[.pointer (some ⟨w.heap.size + 1 + 1 + 1, 0, none⟩), .pointer none, .pointer none] 123)) (.cells #[.string sc] 189); simpa using this⟩)
    generalize (((w.alloc (.cells #[.string sc, .slice la ls.length lc, .slice ma ms.length mc] 53)).alloc (.cells #[.pointer none, .pointer none, .pointer none] 123)).alloc (.cells #[.pointer (some ⟨w.heap.size + 1 + 1 + 1, 0, none⟩), .pointer none, .pointer none] 123)).alloc (.cells #[.string sc] 189) = wk at *
    cases ls with
    | nil =>
      obtain ⟨⟨z0, z1, z2⟩, -⟩ := slot3 HB.out.box
      go_upto_region 8 with fail
      have HSL := hid (SubP.nil (Keep w (w.heap.size + 1 + 1)) wk 129 3)
      clear z0 z1 z2
      cases ms with
      | nil =>
        obtain ⟨⟨z0, z1, z2⟩, -⟩ := slot3 HB.out.box
        go_upto_region 11 with fail
        have HSM := hid (SubP.nil (Keep w (w.heap.size + 1 + 1)) wk 195 4)
        clear z0 z1 z2
        obtain ⟨⟨y0, y1, y2⟩, -⟩ := slot3 HB.out.out
        obtain ⟨-, v8, v9, v10⟩ := slot3 HB.out.res
        obtain ⟨⟨v0, v1, v2⟩, -⟩ := slot3 HB.out.res
        go_wp2_with fail
        have q0 := HB.out.fin rfl
        have qS := hid (HS.out.mono (S' := fun b => w.heap.size ≤ b) (keep_res 0 [.pointer (some ⟨w.heap.size + 1 + 1 + 1, 0, none⟩), .pointer none, .pointer none]) (fun b hb _ => by have := hb.1; omega))
        have qL := hid (HSL.out.mono (S' := fun b => w.heap.size ≤ b) (keep_res 0 [.pointer (some ⟨w.heap.size + 1 + 1 + 1, 0, none⟩), .pointer none, .pointer none]) (fun b hb _ => by have := hb.1; omega))
        have qM := hid (HSM.out.mono (S' := fun b => w.heap.size ≤ b) (keep_res 0 [.pointer (some ⟨w.heap.size + 1 + 1 + 1, 0, none⟩), .pointer none, .pointer none]) (fun b hb _ => by have := hb.1; omega))
        obtain ⟨q2, qE⟩ := q0
        have QE := hid qE
        clear qE
        change bodyPost _ _ _ _ _ (setL wk (w.heap.size + 1) 0 [.pointer (some ⟨w.heap.size + 1 + 1 + 1, 0, none⟩), .pointer none, .pointer none])
        generalize setL wk (w.heap.size + 1) 0 [.pointer (some ⟨w.heap.size + 1 + 1 + 1, 0, none⟩), .pointer none, .pointer none] = WF at *
        obtain ⟨⟨o0, o1, o2⟩, -⟩ := slot3 q2
        obtain ⟨b3, l3, e3, e4, e5⟩ := qL.out
        obtain ⟨b5, l5, e6, e7, e8⟩ := qM.out
        refine bodyPost_ret (v := .agg #[.pointer (some ⟨w.heap.size + 1 + 1 + 1, 0, none⟩), .pointer none, .pointer none]) (by simp [results, Try.results106, go_sem, o0, o1, o2]) rfl ?_
        exact ⟨[_, _, _], rfl, .atom h1 qS.out e3 e4 e5 e6 e7 e8, QE.out⟩
      | cons g ms =>
        obtain ⟨cs, hc1, hc2⟩ := HM.out.2.2 0 (by simp)
        have hg := HMM.out 0 g cs rfl hc1 hc2
        have Hg := hid (HMt.out g (by simp))
        obtain ⟨d0, d1, d2, d3, d4, d5, d6, d7, d8, d9, d10, d11, d12, d13, rfl⟩ := hg.formM Hg.out
        obtain ⟨ha, -⟩ := HM.out.2.1 (by simp)
        subst ha
        obtain ⟨e0, e1, e2, e3, e4, e5, e6, e7⟩ := cells8 (cellsAt_ext HB.out.ext hc2)
        simp only [Nat.zero_mul, Nat.add_zero] at e0 e1 e2 e3 e4 e5 e6 e7
        have HRg := hid (hg.ext HB.out.ext)
        have Hi := hid (HIM.out g rfl)
        have hlen : (0 : Int) < ((ms.length + 1 : Nat) : Int) := by omega
        clear hg hc1 hc2
        obtain ⟨⟨z0, z1, z2⟩, -⟩ := slot3 HB.out.box
        go_upto_region 11 with (go_at_call 126; refine (Hi.out Hg.out _ _ HRg.out).mono ?_; rintro e w9 ⟨cs7, rfl, hT, hE⟩; obtain ⟨r0, r1, r2, r3, r4, r5, r6, r7, r8, rfl⟩ := hT.formM Hg.out; have HT7 := hid hT; have HE7 := hid hE; have HB7 := hid (HB.out.later hE); (obtain ⟨⟨y0, y1, y2⟩, y3, y4, y5⟩ := slot3 (HB7.out.later ((Ext.refl w9).alloc (.cells #[.slice r0 r1 r2, .slice none 0 0, .pointer r3, .pointer r4, .pointer r5, .pointer r6, .pointer r7, .bool false, .string r8] 195))).out); (have u7 := fun o => slot3 (HB7.out.later ((Ext.refl w9).alloc o)).out); clear hT hE)
        have hlt7 := HB7.out.lt
        have hlt0 := HB.out.lt
        have HB8 := hid ((HB7.out.later ((Ext.refl w9).alloc (.cells #[.slice r0 r1 r2, .slice none 0 0, .pointer r3, .pointer r4, .pointer r5, .pointer r6, .pointer r7, .bool false, .string r8] 195))).set [.pointer (some ⟨w.heap.size + 1 + 1 + 1, 0, none⟩), .pointer none] [.pointer none] [.pointer (some ⟨w9.heap.size, 0, none⟩)] (by simp))
        have HS8 := hid ((HS.out.mono (S' := Keep w (w.heap.size + 1 + 1)) ((HE7.out.trans ((Ext.refl w9).alloc (.cells #[.slice r0 r1 r2, .slice none 0 0, .pointer r3, .pointer r4, .pointer r5, .pointer r6, .pointer r7, .bool false, .string r8] 195))).same _) (fun b hb _ => hb)).mono (S' := Keep w (w.heap.size + 1 + 1)) (keep_set 2 [.pointer (some ⟨w9.heap.size, 0, none⟩)]) (fun b hb _ => hb))
        have Q1 : Keep w (w.heap.size + 1 + 1) w9.heap.size := ⟨by omega, by omega⟩
        have Q2 := (setL_other (W := w9.alloc (.cells #[.slice r0 r1 r2, .slice none 0 0, .pointer r3, .pointer r4, .pointer r5, .pointer r6, .pointer r7, .bool false, .string r8] 195)) (b := w.heap.size + 1 + 1) (i := w9.heap.size) (o := 2) (by omega) [.pointer (some ⟨w9.heap.size, 0, none⟩)]).trans (heap_alloc_new w9 _)
        have Q3 := ((HT7.out.mono (S' := Keep w (w.heap.size + 1 + 1)) (((Ext.refl w9).alloc (.cells #[.slice r0 r1 r2, .slice none 0 0, .pointer r3, .pointer r4, .pointer r5, .pointer r6, .pointer r7, .bool false, .string r8] 195)).same _) (fun b hb _ => ⟨by omega, by omega⟩)).mono (S' := Keep w (w.heap.size + 1 + 1)) (keep_set 2 [.pointer (some ⟨w9.heap.size, 0, none⟩)]) (fun b hb _ => hb))
        have HL8 := hid ((HSL.out.mono (S' := Keep w (w.heap.size + 1 + 1)) ((HE7.out.trans ((Ext.refl w9).alloc (.cells #[.slice r0 r1 r2, .slice none 0 0, .pointer r3, .pointer r4, .pointer r5, .pointer r6, .pointer r7, .bool false, .string r8] 195))).same _) (fun b hb _ => hb)).mono (S' := Keep w (w.heap.size + 1 + 1)) (keep_set 2 [.pointer (some ⟨w9.heap.size, 0, none⟩)]) (fun b hb _ => hb))
        change Code.wp _ _ _ _ (setL (w9.alloc (.cells #[.slice r0 r1 r2, .slice none 0 0, .pointer r3, .pointer r4, .pointer r5, .pointer r6, .pointer r7, .bool false, .string r8] 195)) (w.heap.size + 1 + 1) 2 [.pointer (some ⟨w9.heap.size, 0, none⟩)])
        change Hid (BSt w (setL (w9.alloc (.cells #[.slice r0 r1 r2, .slice none 0 0, .pointer r3, .pointer r4, .pointer r5, .pointer r6, .pointer r7, .bool false, .string r8] 195)) (w.heap.size + 1 + 1) 2 [.pointer (some ⟨w9.heap.size, 0, none⟩)]) (w.heap.size + 1 + 1) _ _ _ [.pointer (some ⟨w.heap.size + 1 + 1 + 1, 0, none⟩), .pointer none, .pointer (some ⟨w9.heap.size, 0, none⟩)]) at HB8
        clear HB HS HE7 HT7 HB7 e0 e1 e2 e3 e4 e5 e6 e7 z0 z1 z2 y0 y1 y2 y3 y4 y5 u7 hlt7 hlt0 HSL
        generalize (setL (w9.alloc (.cells #[.slice r0 r1 r2, .slice none 0 0, .pointer r3, .pointer r4, .pointer r5, .pointer r6, .pointer r7, .bool false, .string r8] 195)) (w.heap.size + 1 + 1) 2 [.pointer (some ⟨w9.heap.size, 0, none⟩)]) = wk at *
        have HB := HB8
        have HS := HS8
        have HSL := HL8
        clear HB8 HS8 HL8
        have HSM := hid (SubP.cons (T := 195) (tag := 4) (ls := ms) Q1 Q2 Q3)
        clear Q1 Q2 Q3
        obtain ⟨⟨y0, y1, y2⟩, -⟩ := slot3 HB.out.out
        obtain ⟨-, v8, v9, v10⟩ := slot3 HB.out.res
        obtain ⟨⟨v0, v1, v2⟩, -⟩ := slot3 HB.out.res
        go_wp2_with fail
        have q0 := HB.out.fin rfl
        have qS := hid (HS.out.mono (S' := fun b => w.heap.size ≤ b) (keep_res 0 [.pointer (some ⟨w.heap.size + 1 + 1 + 1, 0, none⟩), .pointer none, .pointer (some ⟨w9.heap.size, 0, none⟩)]) (fun b hb _ => by have := hb.1; omega))
        have qL := hid (HSL.out.mono (S' := fun b => w.heap.size ≤ b) (keep_res 0 [.pointer (some ⟨w.heap.size + 1 + 1 + 1, 0, none⟩), .pointer none, .pointer (some ⟨w9.heap.size, 0, none⟩)]) (fun b hb _ => by have := hb.1; omega))
        have qM := hid (HSM.out.mono (S' := fun b => w.heap.size ≤ b) (keep_res 0 [.pointer (some ⟨w.heap.size + 1 + 1 + 1, 0, none⟩), .pointer none, .pointer (some ⟨w9.heap.size, 0, none⟩)]) (fun b hb _ => by have := hb.1; omega))
        obtain ⟨q2, qE⟩ := q0
        have QE := hid qE
        clear qE
        change bodyPost _ _ _ _ _ (setL wk (w.heap.size + 1) 0 [.pointer (some ⟨w.heap.size + 1 + 1 + 1, 0, none⟩), .pointer none, .pointer (some ⟨w9.heap.size, 0, none⟩)])
        generalize setL wk (w.heap.size + 1) 0 [.pointer (some ⟨w.heap.size + 1 + 1 + 1, 0, none⟩), .pointer none, .pointer (some ⟨w9.heap.size, 0, none⟩)] = WF at *
        obtain ⟨⟨o0, o1, o2⟩, -⟩ := slot3 q2
        obtain ⟨b3, l3, e3, e4, e5⟩ := qL.out
        obtain ⟨b5, l5, e6, e7, e8⟩ := qM.out
        refine bodyPost_ret (v := .agg #[.pointer (some ⟨w.heap.size + 1 + 1 + 1, 0, none⟩), .pointer none, .pointer (some ⟨w9.heap.size, 0, none⟩)]) (by simp [results, Try.results106, go_sem, o0, o1, o2]) rfl ?_
        exact ⟨[_, _, _], rfl, .atom h1 qS.out e3 e4 e5 e6 e7 e8, QE.out⟩
    | cons g ls =>
      obtain ⟨cs, hc1, hc2⟩ := HL.out.2.2 0 (by simp)
      have hg := HLL.out 0 g cs rfl hc1 hc2
      have Hg := hid (HLt.out g (by simp))
      obtain ⟨d0, d1, d2, d3, d4, d5, d6, d7, d8, d9, d10, d11, d12, d13, rfl⟩ := hg.formL Hg.out
      obtain ⟨ha, -⟩ := HL.out.2.1 (by simp)
      subst ha
      obtain ⟨e0, e1, e2, e3, e4, e5, e6, e7⟩ := cells8 (cellsAt_ext HB.out.ext hc2)
      simp only [Nat.zero_mul, Nat.add_zero] at e0 e1 e2 e3 e4 e5 e6 e7
      have HRg := hid (hg.ext HB.out.ext)
      have Hi := hid (HIL.out g rfl)
      have hlen : (0 : Int) < ((ls.length + 1 : Nat) : Int) := by omega
      clear hg hc1 hc2
      obtain ⟨⟨z0, z1, z2⟩, -⟩ := slot3 HB.out.box
      go_upto_region 8 with (go_at_call 74; refine (Hi.out Hg.out _ _ HRg.out).mono ?_; rintro e w7 ⟨cs7, rfl, hT, hE⟩; obtain ⟨r0, r1, r2, r3, r4, r5, r6, r7, r8, rfl⟩ := hT.formL Hg.out; have HT7 := hid hT; have HE7 := hid hE; have HB7 := hid (HB.out.later hE); (obtain ⟨⟨y0, y1, y2⟩, y3, y4, y5⟩ := slot3 (HB7.out.later ((Ext.refl w7).alloc (.cells #[.pointer r0, .pointer r1, .pointer r2, .pointer r3, .pointer r4, .bool false, .string r5, .slice r6 r7 r8] 129))).out); (have u7 := fun o => slot3 (HB7.out.later ((Ext.refl w7).alloc o)).out); clear hT hE)
      have hlt7 := HB7.out.lt
      have hlt0 := HB.out.lt
      have HB8 := hid ((HB7.out.later ((Ext.refl w7).alloc (.cells #[.pointer r0, .pointer r1, .pointer r2, .pointer r3, .pointer r4, .bool false, .string r5, .slice r6 r7 r8] 129))).set [.pointer (some ⟨w.heap.size + 1 + 1 + 1, 0, none⟩)] [.pointer none, .pointer none] [.pointer (some ⟨w7.heap.size, 0, none⟩)] (by simp))
      have HS8 := hid ((HS.out.mono (S' := Keep w (w.heap.size + 1 + 1)) ((HE7.out.trans ((Ext.refl w7).alloc (.cells #[.pointer r0, .pointer r1, .pointer r2, .pointer r3, .pointer r4, .bool false, .string r5, .slice r6 r7 r8] 129))).same _) (fun b hb _ => hb)).mono (S' := Keep w (w.heap.size + 1 + 1)) (keep_set 1 [.pointer (some ⟨w7.heap.size, 0, none⟩)]) (fun b hb _ => hb))
      have Q1 : Keep w (w.heap.size + 1 + 1) w7.heap.size := ⟨by omega, by omega⟩
      have Q2 := (setL_other (W := w7.alloc (.cells #[.pointer r0, .pointer r1, .pointer r2, .pointer r3, .pointer r4, .bool false, .string r5, .slice r6 r7 r8] 129)) (b := w.heap.size + 1 + 1) (i := w7.heap.size) (o := 1) (by omega) [.pointer (some ⟨w7.heap.size, 0, none⟩)]).trans (heap_alloc_new w7 _)
      have Q3 := ((HT7.out.mono (S' := Keep w (w.heap.size + 1 + 1)) (((Ext.refl w7).alloc (.cells #[.pointer r0, .pointer r1, .pointer r2, .pointer r3, .pointer r4, .bool false, .string r5, .slice r6 r7 r8] 129)).same _) (fun b hb _ => ⟨by omega, by omega⟩)).mono (S' := Keep w (w.heap.size + 1 + 1)) (keep_set 1 [.pointer (some ⟨w7.heap.size, 0, none⟩)]) (fun b hb _ => hb))
      change Code.wp _ _ _ _ (setL (w7.alloc (.cells #[.pointer r0, .pointer r1, .pointer r2, .pointer r3, .pointer r4, .bool false, .string r5, .slice r6 r7 r8] 129)) (w.heap.size + 1 + 1) 1 [.pointer (some ⟨w7.heap.size, 0, none⟩)])
      change Hid (BSt w (setL (w7.alloc (.cells #[.pointer r0, .pointer r1, .pointer r2, .pointer r3, .pointer r4, .bool false, .string r5, .slice r6 r7 r8] 129)) (w.heap.size + 1 + 1) 1 [.pointer (some ⟨w7.heap.size, 0, none⟩)]) (w.heap.size + 1 + 1) _ _ _ [.pointer (some ⟨w.heap.size + 1 + 1 + 1, 0, none⟩), .pointer (some ⟨w7.heap.size, 0, none⟩), .pointer none]) at HB8
      clear HB HS HE7 HT7 HB7 e0 e1 e2 e3 e4 e5 e6 e7 z0 z1 z2 y0 y1 y2 y3 y4 y5 u7 hlt7 hlt0
      generalize (setL (w7.alloc (.cells #[.pointer r0, .pointer r1, .pointer r2, .pointer r3, .pointer r4, .bool false, .string r5, .slice r6 r7 r8] 129)) (w.heap.size + 1 + 1) 1 [.pointer (some ⟨w7.heap.size, 0, none⟩)]) = wk at *
      have HB := HB8
      have HS := HS8
      clear HB8 HS8
      have HSL := hid (SubP.cons (T := 129) (tag := 3) (ls := ls) Q1 Q2 Q3)
      clear Q1 Q2 Q3 Hg Hi HRg hlen
      cases ms with
      | nil =>
        obtain ⟨⟨z0, z1, z2⟩, -⟩ := slot3 HB.out.box
        go_upto_region 11 with fail
        have HSM := hid (SubP.nil (Keep w (w.heap.size + 1 + 1)) wk 195 4)
        clear z0 z1 z2
        obtain ⟨⟨y0, y1, y2⟩, -⟩ := slot3 HB.out.out
        obtain ⟨-, v8, v9, v10⟩ := slot3 HB.out.res
        obtain ⟨⟨v0, v1, v2⟩, -⟩ := slot3 HB.out.res
        go_wp2_with fail
        have q0 := HB.out.fin rfl
        have qS := hid (HS.out.mono (S' := fun b => w.heap.size ≤ b) (keep_res 0 [.pointer (some ⟨w.heap.size + 1 + 1 + 1, 0, none⟩), .pointer (some ⟨w7.heap.size, 0, none⟩), .pointer none]) (fun b hb _ => by have := hb.1; omega))
        have qL := hid (HSL.out.mono (S' := fun b => w.heap.size ≤ b) (keep_res 0 [.pointer (some ⟨w.heap.size + 1 + 1 + 1, 0, none⟩), .pointer (some ⟨w7.heap.size, 0, none⟩), .pointer none]) (fun b hb _ => by have := hb.1; omega))
        have qM := hid (HSM.out.mono (S' := fun b => w.heap.size ≤ b) (keep_res 0 [.pointer (some ⟨w.heap.size + 1 + 1 + 1, 0, none⟩), .pointer (some ⟨w7.heap.size, 0, none⟩), .pointer none]) (fun b hb _ => by have := hb.1; omega))
        obtain ⟨q2, qE⟩ := q0
        have QE := hid qE
        clear qE
        change bodyPost _ _ _ _ _ (setL wk (w.heap.size + 1) 0 [.pointer (some ⟨w.heap.size + 1 + 1 + 1, 0, none⟩), .pointer (some ⟨w7.heap.size, 0, none⟩), .pointer none])
        generalize setL wk (w.heap.size + 1) 0 [.pointer (some ⟨w.heap.size + 1 + 1 + 1, 0, none⟩), .pointer (some ⟨w7.heap.size, 0, none⟩), .pointer none] = WF at *
        obtain ⟨⟨o0, o1, o2⟩, -⟩ := slot3 q2
        obtain ⟨b3, l3, e3, e4, e5⟩ := qL.out
        obtain ⟨b5, l5, e6, e7, e8⟩ := qM.out
        refine bodyPost_ret (v := .agg #[.pointer (some ⟨w.heap.size + 1 + 1 + 1, 0, none⟩), .pointer (some ⟨w7.heap.size, 0, none⟩), .pointer none]) (by simp [results, Try.results106, go_sem, o0, o1, o2]) rfl ?_
        exact ⟨[_, _, _], rfl, .atom h1 qS.out e3 e4 e5 e6 e7 e8, QE.out⟩
      | cons g ms =>
        obtain ⟨cs, hc1, hc2⟩ := HM.out.2.2 0 (by simp)
        have hg := HMM.out 0 g cs rfl hc1 hc2
        have Hg := hid (HMt.out g (by simp))
        obtain ⟨d0, d1, d2, d3, d4, d5, d6, d7, d8, d9, d10, d11, d12, d13, rfl⟩ := hg.formM Hg.out
        obtain ⟨ha, -⟩ := HM.out.2.1 (by simp)
        subst ha
        obtain ⟨e0, e1, e2, e3, e4, e5, e6, e7⟩ := cells8 (cellsAt_ext HB.out.ext hc2)
        simp only [Nat.zero_mul, Nat.add_zero] at e0 e1 e2 e3 e4 e5 e6 e7
        have HRg := hid (hg.ext HB.out.ext)
        have Hi := hid (HIM.out g rfl)
        have hlen : (0 : Int) < ((ms.length + 1 : Nat) : Int) := by omega
        clear hg hc1 hc2
        obtain ⟨⟨z0, z1, z2⟩, -⟩ := slot3 HB.out.box
        go_upto_region 11 with (go_at_call 126; refine (Hi.out Hg.out _ _ HRg.out).mono ?_; rintro e w9 ⟨cs7, rfl, hT, hE⟩; obtain ⟨r0, r1, r2, r3, r4, r5, r6, r7, r8, rfl⟩ := hT.formM Hg.out; have HT7 := hid hT; have HE7 := hid hE; have HB7 := hid (HB.out.later hE); (obtain ⟨⟨y0, y1, y2⟩, y3, y4, y5⟩ := slot3 (HB7.out.later ((Ext.refl w9).alloc (.cells #[.slice r0 r1 r2, .slice none 0 0, .pointer r3, .pointer r4, .pointer r5, .pointer r6, .pointer r7, .bool false, .string r8] 195))).out); (have u7 := fun o => slot3 (HB7.out.later ((Ext.refl w9).alloc o)).out); clear hT hE)
        have hlt7 := HB7.out.lt
        have hlt0 := HB.out.lt
        have HB8 := hid ((HB7.out.later ((Ext.refl w9).alloc (.cells #[.slice r0 r1 r2, .slice none 0 0, .pointer r3, .pointer r4, .pointer r5, .pointer r6, .pointer r7, .bool false, .string r8] 195))).set [.pointer (some ⟨w.heap.size + 1 + 1 + 1, 0, none⟩), .pointer (some ⟨w7.heap.size, 0, none⟩)] [.pointer none] [.pointer (some ⟨w9.heap.size, 0, none⟩)] (by simp))
        have HS8 := hid ((HS.out.mono (S' := Keep w (w.heap.size + 1 + 1)) ((HE7.out.trans ((Ext.refl w9).alloc (.cells #[.slice r0 r1 r2, .slice none 0 0, .pointer r3, .pointer r4, .pointer r5, .pointer r6, .pointer r7, .bool false, .string r8] 195))).same _) (fun b hb _ => hb)).mono (S' := Keep w (w.heap.size + 1 + 1)) (keep_set 2 [.pointer (some ⟨w9.heap.size, 0, none⟩)]) (fun b hb _ => hb))
        have Q1 : Keep w (w.heap.size + 1 + 1) w9.heap.size := ⟨by omega, by omega⟩
        have Q2 := (setL_other (W := w9.alloc (.cells #[.slice r0 r1 r2, .slice none 0 0, .pointer r3, .pointer r4, .pointer r5, .pointer r6, .pointer r7, .bool false, .string r8] 195)) (b := w.heap.size + 1 + 1) (i := w9.heap.size) (o := 2) (by omega) [.pointer (some ⟨w9.heap.size, 0, none⟩)]).trans (heap_alloc_new w9 _)
        have Q3 := ((HT7.out.mono (S' := Keep w (w.heap.size + 1 + 1)) (((Ext.refl w9).alloc (.cells #[.slice r0 r1 r2, .slice none 0 0, .pointer r3, .pointer r4, .pointer r5, .pointer r6, .pointer r7, .bool false, .string r8] 195)).same _) (fun b hb _ => ⟨by omega, by omega⟩)).mono (S' := Keep w (w.heap.size + 1 + 1)) (keep_set 2 [.pointer (some ⟨w9.heap.size, 0, none⟩)]) (fun b hb _ => hb))
        have HL8 := hid ((HSL.out.mono (S' := Keep w (w.heap.size + 1 + 1)) ((HE7.out.trans ((Ext.refl w9).alloc (.cells #[.slice r0 r1 r2, .slice none 0 0, .pointer r3, .pointer r4, .pointer r5, .pointer r6, .pointer r7, .bool false, .string r8] 195))).same _) (fun b hb _ => hb)).mono (S' := Keep w (w.heap.size + 1 + 1)) (keep_set 2 [.pointer (some ⟨w9.heap.size, 0, none⟩)]) (fun b hb _ => hb))
        change Code.wp _ _ _ _ (setL (w9.alloc (.cells #[.slice r0 r1 r2, .slice none 0 0, .pointer r3, .pointer r4, .pointer r5, .pointer r6, .pointer r7, .bool false, .string r8] 195)) (w.heap.size + 1 + 1) 2 [.pointer (some ⟨w9.heap.size, 0, none⟩)])
        change Hid (BSt w (setL (w9.alloc (.cells #[.slice r0 r1 r2, .slice none 0 0, .pointer r3, .pointer r4, .pointer r5, .pointer r6, .pointer r7, .bool false, .string r8] 195)) (w.heap.size + 1 + 1) 2 [.pointer (some ⟨w9.heap.size, 0, none⟩)]) (w.heap.size + 1 + 1) _ _ _ [.pointer (some ⟨w.heap.size + 1 + 1 + 1, 0, none⟩), .pointer (some ⟨w7.heap.size, 0, none⟩), .pointer (some ⟨w9.heap.size, 0, none⟩)]) at HB8
        clear HB HS HE7 HT7 HB7 e0 e1 e2 e3 e4 e5 e6 e7 z0 z1 z2 y0 y1 y2 y3 y4 y5 u7 hlt7 hlt0 HSL
        generalize (setL (w9.alloc (.cells #[.slice r0 r1 r2, .slice none 0 0, .pointer r3, .pointer r4, .pointer r5, .pointer r6, .pointer r7, .bool false, .string r8] 195)) (w.heap.size + 1 + 1) 2 [.pointer (some ⟨w9.heap.size, 0, none⟩)]) = wk at *
        have HB := HB8
        have HS := HS8
        have HSL := HL8
        clear HB8 HS8 HL8
        have HSM := hid (SubP.cons (T := 195) (tag := 4) (ls := ms) Q1 Q2 Q3)
        clear Q1 Q2 Q3
        obtain ⟨⟨y0, y1, y2⟩, -⟩ := slot3 HB.out.out
        obtain ⟨-, v8, v9, v10⟩ := slot3 HB.out.res
        obtain ⟨⟨v0, v1, v2⟩, -⟩ := slot3 HB.out.res
        go_wp2_with fail
        have q0 := HB.out.fin rfl
        have qS := hid (HS.out.mono (S' := fun b => w.heap.size ≤ b) (keep_res 0 [.pointer (some ⟨w.heap.size + 1 + 1 + 1, 0, none⟩), .pointer (some ⟨w7.heap.size, 0, none⟩), .pointer (some ⟨w9.heap.size, 0, none⟩)]) (fun b hb _ => by have := hb.1; omega))
        have qL := hid (HSL.out.mono (S' := fun b => w.heap.size ≤ b) (keep_res 0 [.pointer (some ⟨w.heap.size + 1 + 1 + 1, 0, none⟩), .pointer (some ⟨w7.heap.size, 0, none⟩), .pointer (some ⟨w9.heap.size, 0, none⟩)]) (fun b hb _ => by have := hb.1; omega))
        have qM := hid (HSM.out.mono (S' := fun b => w.heap.size ≤ b) (keep_res 0 [.pointer (some ⟨w.heap.size + 1 + 1 + 1, 0, none⟩), .pointer (some ⟨w7.heap.size, 0, none⟩), .pointer (some ⟨w9.heap.size, 0, none⟩)]) (fun b hb _ => by have := hb.1; omega))
        obtain ⟨q2, qE⟩ := q0
        have QE := hid qE
        clear qE
        change bodyPost _ _ _ _ _ (setL wk (w.heap.size + 1) 0 [.pointer (some ⟨w.heap.size + 1 + 1 + 1, 0, none⟩), .pointer (some ⟨w7.heap.size, 0, none⟩), .pointer (some ⟨w9.heap.size, 0, none⟩)])
        generalize setL wk (w.heap.size + 1) 0 [.pointer (some ⟨w.heap.size + 1 + 1 + 1, 0, none⟩), .pointer (some ⟨w7.heap.size, 0, none⟩), .pointer (some ⟨w9.heap.size, 0, none⟩)] = WF at *
        obtain ⟨⟨o0, o1, o2⟩, -⟩ := slot3 q2
        obtain ⟨b3, l3, e3, e4, e5⟩ := qL.out
        obtain ⟨b5, l5, e6, e7, e8⟩ := qM.out
        refine bodyPost_ret (v := .agg #[.pointer (some ⟨w.heap.size + 1 + 1 + 1, 0, none⟩), .pointer (some ⟨w7.heap.size, 0, none⟩), .pointer (some ⟨w9.heap.size, 0, none⟩)]) (by simp [results, Try.results106, go_sem, o0, o1, o2]) rfl ?_
        exact ⟨[_, _, _], rfl, .atom h1 qS.out e3 e4 e5 e6 e7 e8, QE.out⟩
end Go.Proofs.Ytempfaefopfobaa
