/- AlikeB: sameAtom of types that are written alike, at whatever depth. -/
import Derived.Test.YtempfaefopfobaaAlikeA

set_option maxRecDepth 100000
namespace Go.Proofs.Ytempfaefopfobaa
open Go.ChangeShapes Go.WideShapes Go.ChangeAt Go.RowKit
set_option linter.unusedVariables false
set_option linter.unusedSimpArgs false

theorem one_if {n m : Nat} (h : m = min 1 n) : (if m = 0 then 0 else 1) = (if n = 0 then 0 else 1) := by
  subst h
  by_cases h0 : n = 0
  · subst h0; rfl
  · rw [if_neg h0, if_neg (by omega)]
set_option maxHeartbeats 2000000 in
theorem atomsAlike_of (sc : ByteArray) (ls ms ls' ms' : List GS) (k1 : ls'.length = min 1 ls.length) (k2 : ms'.length = min 1 ms.length) (k3 : ∀ x y, ls'[0]? = some x → ls[0]? = some y → Lk x y) (k4 : ∀ x y, ms'[0]? = some x → ms[0]? = some y → Lk x y)
    (ihR : ∀ e e' rel keys, ls'[0]? = some (.lst e' rel keys) → ls[0]? = some (.lst e rel keys) → AlOK 88 e' e)
    (ihM : ∀ fs fs' e e' rel, ms'[0]? = some (.mp fs' e' rel) → ms[0]? = some (.mp fs e rel) → AlOK 88 e' e ∧ ∀ (i : Nat) (x y : GS), fs'[i]? = some x → fs[i]? = some y → AlOK 89 x y) :
    AlOK 42 (.atom sc ls' ms') (.atom sc ls ms) := by
  intro w cx cy hX hY
  cases hX with
  | @atom _ _ _ la ma lb lo lc mb mo mc hx1 xL xlt xl xM xmt xm =>
  cases hY with
  | @atom _ _ _ xa ya xb xo xc yb yo yc hy1 yL ylt yl yM ymt ym =>
  have e1 := one_if k1
  have e2 := one_if k2
  have h1 := fun W => firstList_any sc la ls'.length lc (.slice ma ms'.length mc) W xL.1 (fun h => ⟨_, (xL.2.1 h).1⟩)
  have h2 := fun W => firstList_any sc xa ls.length xc (.slice ya ms.length yc) W yL.1 (fun h => ⟨_, (yL.2.1 h).1⟩)
  have h3 := fun W => firstMap_any sc ma ms'.length mc (.slice la ls'.length lc) W xM.1 (fun h => ⟨_, (xM.2.1 h).1⟩)
  have h4 := fun W => firstMap_any sc ya ms.length yc (.slice xa ls.length xc) W yM.1 (fun h => ⟨_, (yM.2.1 h).1⟩)
  rw [e1] at h1
  rw [e2] at h3
  refine atomsAlike_any w sc la ma xa ya ls'.length lc ms'.length mc ls.length xc ms.length yc _ _ h1 h2 h3 h4 (by split <;> omega) (by split <;> omega) (fun k hk => ?_) (fun k hk => ?_)
  · have hpos : 0 < ls.length := by
      by_cases h0 : ls.length = 0
      · rw [if_pos h0] at hk; omega
      · omega
    obtain rfl : k = 0 := by
      rw [if_neg (by omega)] at hk; omega
    obtain ⟨x0, hx0⟩ : ∃ x0, ls'[0]? = some x0 := ⟨_, List.getElem?_eq_getElem (by omega)⟩
    obtain ⟨y0, hy0⟩ : ∃ y0, ls[0]? = some y0 := ⟨_, List.getElem?_eq_getElem (by omega)⟩
    have hlk := k3 x0 y0 hx0 hy0
    have htx := xlt x0 (List.mem_of_getElem? hx0)
    have hty := ylt y0 (List.mem_of_getElem? hy0)
    obtain ⟨cs, cl, cc⟩ := xL.2.2 0 (by omega)
    obtain ⟨ds, dl, dc⟩ := yL.2.2 0 hpos
    have rx := xl 0 x0 cs hx0 cl cc
    have ry := yl 0 y0 ds hy0 dl dc
    obtain ⟨a1, a2, a3, a4, a5, a6, a7, a8, a9, a10, a11, a12, a13, a14, rfl⟩ := rx.formL htx
    obtain ⟨b1, b2, b3, b4, b5, b6, b7, b8, b9, b10, b11, b12, b13, b14, rfl⟩ := ry.formL hty
    cases hlk with
    | lst e e' rel keys hle =>
      have hra := ihR e e' rel keys hx0 hy0
      cases rx with
      | lst r1 rt re rk =>
      cases ry with
      | lst s1 st se sk =>
      refine ⟨lb, lo, xb, xo, _, a1, a2, a3, a4, a5, a6, a7, a8, a9, a10, a12, a13, a14, b1, b2, b3, b4, b5, b6, b7, b8, b9, b10, b12, b13, b14, (xL.2.1 (by omega)).1, (yL.2.1 hpos).1, cc, dc, fun W hW => ?_, fun W hW => hra W _ _ (re.ext hW) (se.ext hW)⟩
      have := sameStrings_any _ _ keys keys W (rk.ext hW) (sk.ext hW)
      rwa [decide_eq_true rfl] at this
    | _ => cases htx
  · have hpos : 0 < ms.length := by
      by_cases h0 : ms.length = 0
      · rw [if_pos h0] at hk; omega
      · omega
    obtain rfl : k = 0 := by
      rw [if_neg (by omega)] at hk; omega
    obtain ⟨x0, hx0⟩ : ∃ x0, ms'[0]? = some x0 := ⟨_, List.getElem?_eq_getElem (by omega)⟩
    obtain ⟨y0, hy0⟩ : ∃ y0, ms[0]? = some y0 := ⟨_, List.getElem?_eq_getElem (by omega)⟩
    have hlk := k4 x0 y0 hx0 hy0
    have htx := xmt x0 (List.mem_of_getElem? hx0)
    have hty := ymt y0 (List.mem_of_getElem? hy0)
    obtain ⟨cs, cl, cc⟩ := xM.2.2 0 (by omega)
    obtain ⟨ds, dl, dc⟩ := yM.2.2 0 hpos
    have rx := xm 0 x0 cs hx0 cl cc
    have ry := ym 0 y0 ds hy0 dl dc
    cases hlk with
    | mp fs fs' e e' rel f1 f2 f3 =>
      obtain ⟨hra, hfa⟩ := ihM fs fs' e e' rel hx0 hy0
      cases rx with
      | @mp _ _ _ fa fb fo fc c0 c1 c2 c3 c4 c5 r1 rt re rb rF rft rf =>
      cases ry with
      | @mp _ _ _ ga gb go gc d0 d1 d2 d3 d4 d5 s1 st se sb sF sft sf =>
      obtain ⟨a1, a2, a3, a4, a5, a6, a7, a8, a9, a10, eq⟩ := re.formR rt
      simp only [List.cons.injEq, and_true] at eq
      obtain ⟨rfl, rfl, rfl, rfl, rfl, rfl⟩ := eq
      obtain ⟨b1, b2, b3, b4, b5, b6, b7, b8, b9, b10, eq⟩ := se.formR st
      simp only [List.cons.injEq, and_true] at eq
      obtain ⟨rfl, rfl, rfl, rfl, rfl, rfl⟩ := eq
      rw [f1] at cc
      refine ⟨mb, mo, yb, yo, _, fs.length, a1, a2, a3, a4, a5, a6, a7, a8, a9, a10, fa, fc, b1, b2, b3, b4, b5, b6, b7, b8, b9, b10, ga, gc, (xM.2.1 (by omega)).1, (yM.2.1 hpos).1, cc, dc, sb, fun W hW => hra W _ _ (re.ext hW) (se.ext hW), fun j hj => ?_⟩
      obtain ⟨x1, hx1'⟩ : ∃ x1, fs'[j]? = some x1 := ⟨_, List.getElem?_eq_getElem (by omega)⟩
      obtain ⟨y1, hy1'⟩ : ∃ y1, fs[j]? = some y1 := ⟨_, List.getElem?_eq_getElem hj⟩
      obtain ⟨us, ul, uc⟩ := rF.2.2 j (by omega)
      obtain ⟨vs, vl, vc⟩ := sF.2.2 j hj
      have ru := rf j x1 us hx1' ul uc
      have rv := sf j y1 vs hy1' vl vc
      match us, vs, ul, vl with
      | [u0, u1, u2, u3, u4, u5, u6, u7], [v0, v1, v2, v3, v4, v5, v6, v7], _, _ =>
      exact ⟨fb, fo, gb, go, u0, u1, u2, u3, u4, u5, u6, u7, v0, v1, v2, v3, v4, v5, v6, v7, (rF.2.1 (by omega)).1, (sF.2.1 (by omega)).1, uc, vc, fun W hW => hfa j x1 y1 hx1' hy1' W _ _ (ru.ext hW) (rv.ext hW)⟩
    | _ => cases htx
theorem alike_ok : ∀ (N : Nat) (x y : GS), SizeOf.sizeOf x ≤ N → Lk x y → WfG x → WfG y → (x.tag = 1 → AlOK 88 x y) ∧ (x.tag = 2 → AlOK 42 x y) ∧ (x.tag = 5 → AlOK 89 x y) := by
  intro N
  induction N with
  | zero => intro x y h; cases x <;> simp at h
  | succ N ih =>
    intro x y h hlk hwx hwy
    have hl : ∀ {l : List GS} {i : Nat} {x : GS}, l[i]? = some x → SizeOf.sizeOf l ≤ N → SizeOf.sizeOf x < N := fun h1 h2 => Nat.lt_of_lt_of_le (sizeOf_of_getElem? h1) h2
    have hk := hlk
    cases hlk with
    | refN name rel a a' => exact ⟨fun _ => refsAlike_N name name rel a a', fun h => by simp [GS.tag] at h, fun h => by simp [GS.tag] at h⟩
    | refA name name' rel a a' hla =>
      cases hwx with
      | ref _ _ _ _ t1 w1 =>
      cases hwy with
      | ref _ _ _ _ t2 w2 => exact ⟨fun _ => refsAlike_A name name' rel a a' t1 t2 ((ih a' a (by simp at h; omega) hla w1 w2).2.1 t1), fun h => by simp [GS.tag] at h, fun h => by simp [GS.tag] at h⟩
    | atom sc ls ms ls' ms' k1 k2 k3 k4 =>
      cases hwx with
      | atom _ _ _ a1 a2 a3 a4 =>
      cases hwy with
      | atom _ _ _ b1 b2 b3 b4 =>
      refine ⟨fun h => by simp [GS.tag] at h, fun _ => atomsAlike_of sc ls ms ls' ms' k1 k2 k3 k4 (fun e e' rel keys hx hy => ?_) (fun fs fs' e e' rel hx hy => ?_), fun h => by simp [GS.tag] at h⟩
      · have hs := hl hx (by simp at h; omega)
        have h3 := k3 _ _ hx hy
        have wx := a2 _ (List.mem_of_getElem? hx)
        have wy := b2 _ (List.mem_of_getElem? hy)
        cases h3 with
        | lst _ _ _ _ hle =>
        cases wx with
        | lst _ _ _ t1 w1 =>
        cases wy with
        | lst _ _ _ t2 w2 => exact (ih e' e (by simp at hs; omega) hle w1 w2).1 t1
      · have hs := hl hx (by simp at h; omega)
        have h3 := k4 _ _ hx hy
        have wx := a4 _ (List.mem_of_getElem? hx)
        have wy := b4 _ (List.mem_of_getElem? hy)
        cases h3 with
        | mp _ _ _ _ _ f1 f2 hle =>
        cases wx with
        | mp _ _ _ m1 m2 t1 w1 =>
        cases wy with
        | mp _ _ _ n1 n2 t2 w2 =>
        refine ⟨(ih e' e (by simp at hs; omega) hle w1 w2).1 t1, fun i x y hxi hyi => ?_⟩
        have hs2 := sizeOf_of_getElem? hxi
        exact (ih x y (by simp at hs; omega) (f2 i x y hxi hyi) (m2 x (List.mem_of_getElem? hxi)) (n2 y (List.mem_of_getElem? hyi))).2.2 (m1 x (List.mem_of_getElem? hxi))
    | lst e e' rel keys hle => exact ⟨fun h => by simp [GS.tag] at h, fun h => by simp [GS.tag] at h, fun h => by simp [GS.tag] at h⟩
    | mp fs fs' e e' rel f1 f2 hle => exact ⟨fun h => by simp [GS.tag] at h, fun h => by simp [GS.tag] at h, fun h => by simp [GS.tag] at h⟩
    | fld name t t' ds ds' h1 h2 hlt =>
      cases hwx with
      | fld _ _ _ t1 w1 =>
      cases hwy with
      | fld _ _ _ t2 w2 => exact ⟨fun h => by simp [GS.tag] at h, fun h => by simp [GS.tag] at h, fun _ => fieldsAlike_of name t t' ds ds' h1 h2 ((ih t' t (by simp at h; omega) hlt w1 w2).1 t1)⟩
set_option maxHeartbeats 1000000 in
theorem sameAtom_any (x y : GS) (hlk : Lk x y) (htx : x.tag = 2) (hty : y.tag = 2) (w : World) (cx cy : List Value) (hX : RepGS Any w x cx) (hY : RepGS Any w y cy) :
    Calls Try.prog 39 #[.agg cx.toArray, .agg cy.toArray] w fun e w' => e = .returned (.bool true) ∧ Ext w w' := by
  have HC := hid ((alike_ok _ x y (Nat.le_refl _) hlk hX.wf hY.wf).2.1 htx)
  obtain ⟨s, p0, p1, p2, q0, q1, q2, rfl⟩ := hX.formA htx
  obtain ⟨s', p0', p1', p2', q0', q1', q2', rfl⟩ := hY.formA hty
  have HX := hid hX
  have HY := hid hY
  clear hX hY hlk
  have HE := hid (((Ext.refl w).alloc (.cells #[.string s, .slice p0 p1 p2, .slice q0 q1 q2] 53)).alloc (.cells #[.string s', .slice p0' p1' p2', .slice q0' q1' q2'] 53))
  go_enter Try.func39, Try.ntmps39
  go_wp2_with (go_at_call 42; refine (HC.out _ _ _ (HX.out.ext HE.out) (HY.out.ext HE.out)).mono ?_; rintro e w2 ⟨rfl, hE⟩; have HE2 := hid (HE.out.trans hE); clear hE)
  go_ret
  exact ⟨rfl, HE2.out⟩
end Go.Proofs.Ytempfaefopfobaa
