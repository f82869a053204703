/- Alike: laws.refsAlike, fieldsAlike of parts that are written alike. -/
import Derived.Test.YtempfaefopfobaaLkA
import Derived.Test.YtempfaefopfobaaSame
import Derived.StillTailTactics

set_option maxRecDepth 100000
namespace Go.Proofs.Ytempfaefopfobaa
open Go.ChangeShapes Go.WideShapes Go.ChangeAt Go.RowKit
set_option linter.unusedVariables false
set_option linter.unusedSimpArgs false

/-- two parts are found alike, by the function that compares values -/
def AlOK (f : FuncId) (x y : GS) : Prop := ∀ (w : World) (cx cy : List Value), RepGS Any w x cx → RepGS Any w y cy →
  Calls Try.prog f #[.agg cx.toArray, .agg cy.toArray, .func (.func 31) #[] #[]] w fun e w' => e = .returned (.bool true) ∧ Ext w w'
theorem slot6h {W : World} {b : Nat} {c0 c1 c2 c3 c4 c5 : Value} {t : TypeId} (h : W.heap[b]? = some (.cells #[c0, c1, c2, c3, c4, c5] t)) : W.cell? ⟨b, 0, none⟩ = some c0 ∧ W.cell? ⟨b, 1, none⟩ = some c1 ∧ W.cell? ⟨b, 2, none⟩ = some c2 ∧ W.cell? ⟨b, 3, none⟩ = some c3 ∧ W.cell? ⟨b, 4, none⟩ = some c4 ∧ W.cell? ⟨b, 5, none⟩ = some c5 := (slot6 h).1
set_option maxHeartbeats 1000000 in
theorem refsAlike_N (name name' rel : ByteArray) (a a' : GS)  : AlOK 88 (.ref true name a' rel) (.ref true name a rel) := by
  intro w cx cy hX hY
  obtain ⟨ax, an, a1, a2, a3, a4, a5, a6, a7, ar, ex⟩ : ∃ ax an a1 a2 a3 a4 a5 a6 a7 ar, cx = [.bool ax, .string an, .string a1, .slice a2 a3 a4, .slice a5 a6 a7, .string ar] := by
    obtain ⟨b, n, s, p0, p1, p2, q0, q1, q2, r, e⟩ := hX.formR rfl
    exact ⟨_, _, _, _, _, _, _, _, _, _, e⟩
  obtain ⟨bx, bn, b1, b2, b3, b4, b5, b6, b7, br, ey⟩ : ∃ bx bn b1 b2 b3 b4 b5 b6 b7 br, cy = [.bool bx, .string bn, .string b1, .slice b2 b3 b4, .slice b5 b6 b7, .string br] := by
    obtain ⟨b, n, s, p0, p1, p2, q0, q1, q2, r, e⟩ := hY.formR rfl
    exact ⟨_, _, _, _, _, _, _, _, _, _, e⟩
  subst ex ey
  cases hX with
  | ref hx1 hx2 hxt hxa =>
  cases hY with
  | ref hy1 hy2 hyt hya =>
  have HX := hid hxa
  have HY := hid hya
  skip
  have HE := hid (((Ext.refl w).alloc (.cells #[.bool true, .string name, .string a1, .slice a2 a3 a4, .slice a5 a6 a7, .string rel] 55)).alloc (.cells #[.bool true, .string name, .string b1, .slice b2 b3 b4, .slice b5 b6 b7, .string rel] 55))
  have X0 := hid (first_heap w (.cells #[.bool true, .string name, .string a1, .slice a2 a3 a4, .slice a5 a6 a7, .string rel] 55) (.cells #[.bool true, .string name, .string b1, .slice b2 b3 b4, .slice b5 b6 b7, .string rel] 55))
  have X1 := hid (second_heap w (.cells #[.bool true, .string name, .string a1, .slice a2 a3 a4, .slice a5 a6 a7, .string rel] 55) (.cells #[.bool true, .string name, .string b1, .slice b2 b3 b4, .slice b5 b6 b7, .string rel] 55))
  clear hxa hya hxt hyt 
  go_enter Try.func88, Try.ntmps88
  go_upto_region 1 with fail
  generalize (w.alloc (.cells #[.bool true, .string name, .string a1, .slice a2 a3 a4, .slice a5 a6 a7, .string rel] 55)).alloc (.cells #[.bool true, .string name, .string b1, .slice b2 b3 b4, .slice b5 b6 b7, .string rel] 55) = w1 at *
  obtain ⟨x0, x1, x2, x3, x4, x5⟩ := slot6h X0.out
  obtain ⟨y0, y1, y2, y3, y4, y5⟩ := slot6h X1.out
  go_wp2_with fail
  go_ret
  exact ⟨by simp, HE.out⟩
set_option maxHeartbeats 1000000 in
theorem refsAlike_A (name name' rel : ByteArray) (a a' : GS) (ht' : a'.tag = 2) (ht : a.tag = 2) (ih : AlOK 42 a' a) : AlOK 88 (.ref false name' a' rel) (.ref false name a rel) := by
  intro w cx cy hX hY
  obtain ⟨ax, an, a1, a2, a3, a4, a5, a6, a7, ar, ex⟩ : ∃ ax an a1 a2 a3 a4 a5 a6 a7 ar, cx = [.bool ax, .string an, .string a1, .slice a2 a3 a4, .slice a5 a6 a7, .string ar] := by
    obtain ⟨b, n, s, p0, p1, p2, q0, q1, q2, r, e⟩ := hX.formR rfl
    exact ⟨_, _, _, _, _, _, _, _, _, _, e⟩
  obtain ⟨bx, bn, b1, b2, b3, b4, b5, b6, b7, br, ey⟩ : ∃ bx bn b1 b2 b3 b4 b5 b6 b7 br, cy = [.bool bx, .string bn, .string b1, .slice b2 b3 b4, .slice b5 b6 b7, .string br] := by
    obtain ⟨b, n, s, p0, p1, p2, q0, q1, q2, r, e⟩ := hY.formR rfl
    exact ⟨_, _, _, _, _, _, _, _, _, _, e⟩
  subst ex ey
  cases hX with
  | ref hx1 hx2 hxt hxa =>
  cases hY with
  | ref hy1 hy2 hyt hya =>
  have HX := hid hxa
  have HY := hid hya
  have IH := hid ih
  have HE := hid (((Ext.refl w).alloc (.cells #[.bool false, .string name', .string a1, .slice a2 a3 a4, .slice a5 a6 a7, .string rel] 55)).alloc (.cells #[.bool false, .string name, .string b1, .slice b2 b3 b4, .slice b5 b6 b7, .string rel] 55))
  have X0 := hid (first_heap w (.cells #[.bool false, .string name', .string a1, .slice a2 a3 a4, .slice a5 a6 a7, .string rel] 55) (.cells #[.bool false, .string name, .string b1, .slice b2 b3 b4, .slice b5 b6 b7, .string rel] 55))
  have X1 := hid (second_heap w (.cells #[.bool false, .string name', .string a1, .slice a2 a3 a4, .slice a5 a6 a7, .string rel] 55) (.cells #[.bool false, .string name, .string b1, .slice b2 b3 b4, .slice b5 b6 b7, .string rel] 55))
  clear hxa hya hxt hyt ih
  go_enter Try.func88, Try.ntmps88
  go_upto_region 1 with fail
  generalize (w.alloc (.cells #[.bool false, .string name', .string a1, .slice a2 a3 a4, .slice a5 a6 a7, .string rel] 55)).alloc (.cells #[.bool false, .string name, .string b1, .slice b2 b3 b4, .slice b5 b6 b7, .string rel] 55) = w1 at *
  obtain ⟨x0, x1, x2, x3, x4, x5⟩ := slot6h X0.out
  obtain ⟨y0, y1, y2, y3, y4, y5⟩ := slot6h X1.out
  go_wp2_with (go_at_call 42; refine (IH.out _ _ _ (HX.out.ext HE.out) (HY.out.ext HE.out)).mono ?_; rintro e w2 ⟨rfl, hE⟩; have HE2 := hid (HE.out.trans hE); clear hE)
  go_ret
  exact ⟨rfl, HE2.out⟩
theorem refsAlike_of (x y : GS) (h : Lk x y) (ht : x.tag = 1) (hwx : WfG x) (hwy : WfG y) (ih : ∀ n n' r r' a a' b, x = .ref b n' a' r' → y = .ref b n a r → Lk a' a → AlOK 42 a' a) : AlOK 88 x y := by
  cases h with
  | refN name rel a a' => exact refsAlike_N name name rel a a'
  | refA name name' rel a a' h =>
    cases hwx with
    | ref _ _ _ _ t1 w1 =>
    cases hwy with
    | ref _ _ _ _ t2 w2 => exact refsAlike_A name name' rel a a' t1 t2 (ih name name' rel rel a a' false rfl rfl h)
  | _ => cases ht
set_option maxHeartbeats 2000000 in
theorem fieldsAlike_d (w : World) (name a8 a1 a9 b8 b1 b9 : ByteArray) (a0 b0 : Bool) (a2 a5 b2 b5 ada bda : Option Addr) (a3 a4 a6 a7 b3 b4 b6 b7 an adc bn bdc : Nat) (va0 va1 va2 va3 va4 va5 vb0 vb1 vb2 vb3 vb4 vb5 : Value) (aB aO bB bO : Nat) (hca : cellsAt w aB aO [va0, va1, va2, va3, va4, va5]) (hcb : cellsAt w bB bO [vb0, vb1, vb2, vb3, vb4, vb5])
    (hsv : ∀ W, Ext w W → Calls Try.prog 31 #[.agg #[va0, va1, va2, va3, va4, va5], .agg #[vb0, vb1, vb2, vb3, vb4, vb5]] W fun e w' => e = .returned (.bool true) ∧ Ext W w') (hac : 1 ≤ adc) (hbc : 1 ≤ bdc)
    (hdx : ∀ W, Ext w W → Calls Try.prog 112 #[.agg #[.string name, .bool a0, .string a8, .string a1, .slice a2 a3 a4, .slice a5 a6 a7, .string a9, .slice (some ⟨aB, aO, none⟩) an adc]] W fun e w' => e = .returned (.slice (some ⟨aB, aO, none⟩) 1 adc) ∧ Ext W w') (hdy : ∀ W, Ext w W → Calls Try.prog 112 #[.agg #[.string name, .bool b0, .string b8, .string b1, .slice b2 b3 b4, .slice b5 b6 b7, .string b9, .slice (some ⟨bB, bO, none⟩) bn bdc]] W fun e w' => e = .returned (.slice (some ⟨bB, bO, none⟩) 1 bdc) ∧ Ext W w')
    (hra : ∀ W, Ext w W → Calls Try.prog 88 #[.agg #[.bool a0, .string a8, .string a1, .slice a2 a3 a4, .slice a5 a6 a7, .string a9], .agg #[.bool b0, .string b8, .string b1, .slice b2 b3 b4, .slice b5 b6 b7, .string b9], .func (.func 31) #[] #[]] W fun e w' => e = .returned (.bool true) ∧ Ext W w') :
    Calls Try.prog 89 #[.agg #[.string name, .bool a0, .string a8, .string a1, .slice a2 a3 a4, .slice a5 a6 a7, .string a9, .slice (some ⟨aB, aO, none⟩) an adc], .agg #[.string name, .bool b0, .string b8, .string b1, .slice b2 b3 b4, .slice b5 b6 b7, .string b9, .slice (some ⟨bB, bO, none⟩) bn bdc], .func (.func 31) #[] #[]] w fun e w' => e = .returned (.bool true) ∧ Ext w w' := by
  have HDX := hid hdx
  have HDY := hid hdy
  have HRA := hid hra
  have HSV := hid hsv
  have HCX := hid hca
  have HCY := hid hcb
  clear hdx hdy hra hsv hca hcb
  have HE := hid (((Ext.refl w).alloc (.cells #[.string name, .bool a0, .string a8, .string a1, .slice a2 a3 a4, .slice a5 a6 a7, .string a9, .slice (some ⟨aB, aO, none⟩) an adc] 156)).alloc (.cells #[.string name, .bool b0, .string b8, .string b1, .slice b2 b3 b4, .slice b5 b6 b7, .string b9, .slice (some ⟨bB, bO, none⟩) bn bdc] 156))
  have X0 := hid (first_heap w (.cells #[.string name, .bool a0, .string a8, .string a1, .slice a2 a3 a4, .slice a5 a6 a7, .string a9, .slice (some ⟨aB, aO, none⟩) an adc] 156) (.cells #[.string name, .bool b0, .string b8, .string b1, .slice b2 b3 b4, .slice b5 b6 b7, .string b9, .slice (some ⟨bB, bO, none⟩) bn bdc] 156))
  have X1 := hid (second_heap w (.cells #[.string name, .bool a0, .string a8, .string a1, .slice a2 a3 a4, .slice a5 a6 a7, .string a9, .slice (some ⟨aB, aO, none⟩) an adc] 156) (.cells #[.string name, .bool b0, .string b8, .string b1, .slice b2 b3 b4, .slice b5 b6 b7, .string b9, .slice (some ⟨bB, bO, none⟩) bn bdc] 156))
  go_enter Try.func89, Try.ntmps89
  go_upto_region 1 with fail
  generalize (w.alloc (.cells #[.string name, .bool a0, .string a8, .string a1, .slice a2 a3 a4, .slice a5 a6 a7, .string a9, .slice (some ⟨aB, aO, none⟩) an adc] 156)).alloc (.cells #[.string name, .bool b0, .string b8, .string b1, .slice b2 b3 b4, .slice b5 b6 b7, .string b9, .slice (some ⟨bB, bO, none⟩) bn bdc] 156) = w1 at *
  have X0d := hid (show w1.drew.heap[w.heap.size]? = some (.cells #[.string name, .bool a0, .string a8, .string a1, .slice a2 a3 a4, .slice a5 a6 a7, .string a9, .slice (some ⟨aB, aO, none⟩) an adc] 156) from (Ext.refl w1).drew.block X0.out)
  have X1d := hid (show w1.drew.heap[w.heap.size + 1]? = some (.cells #[.string name, .bool b0, .string b8, .string b1, .slice b2 b3 b4, .slice b5 b6 b7, .string b9, .slice (some ⟨bB, bO, none⟩) bn bdc] 156) from (Ext.refl w1).drew.block X1.out)
  have HEd := hid (HE.out.drew)
  have KB := hid (show ∀ w' : World, Ext w1.drew w' → (fun w' : World => w'.cell? ⟨w.heap.size, 0, none⟩ = some (.string name) ∧ w'.cell? ⟨w.heap.size, 1, none⟩ = some (.bool a0) ∧ w'.cell? ⟨w.heap.size, 2, none⟩ = some (.string a8) ∧ w'.cell? ⟨w.heap.size, 3, none⟩ = some (.string a1) ∧ w'.cell? ⟨w.heap.size, 4, none⟩ = some (.slice a2 a3 a4) ∧ w'.cell? ⟨w.heap.size, 5, none⟩ = some (.slice a5 a6 a7) ∧ w'.cell? ⟨w.heap.size, 6, none⟩ = some (.string a9) ∧ w'.cell? ⟨w.heap.size, 7, none⟩ = some (.slice (some ⟨aB, aO, none⟩) an adc) ∧ w'.cell? ⟨w.heap.size + 1, 0, none⟩ = some (.string name) ∧ w'.cell? ⟨w.heap.size + 1, 1, none⟩ = some (.bool b0) ∧ w'.cell? ⟨w.heap.size + 1, 2, none⟩ = some (.string b8) ∧ w'.cell? ⟨w.heap.size + 1, 3, none⟩ = some (.string b1) ∧ w'.cell? ⟨w.heap.size + 1, 4, none⟩ = some (.slice b2 b3 b4) ∧ w'.cell? ⟨w.heap.size + 1, 5, none⟩ = some (.slice b5 b6 b7) ∧ w'.cell? ⟨w.heap.size + 1, 6, none⟩ = some (.string b9) ∧ w'.cell? ⟨w.heap.size + 1, 7, none⟩ = some (.slice (some ⟨bB, bO, none⟩) bn bdc)) w' from fun w' h => by
    obtain ⟨⟨x0, x1, x2, x3, x4, x5, x6, x7⟩, -⟩ := slot8 (h.block X0d.out)
    obtain ⟨⟨y0, y1, y2, y3, y4, y5, y6, y7⟩, -⟩ := slot8 (h.block X1d.out)
    exact ⟨x0, x1, x2, x3, x4, x5, x6, x7, y0, y1, y2, y3, y4, y5, y6, y7⟩)
  refine wp_region_late (fun w' : World => w'.cell? ⟨w.heap.size, 0, none⟩ = some (.string name) ∧ w'.cell? ⟨w.heap.size, 1, none⟩ = some (.bool a0) ∧ w'.cell? ⟨w.heap.size, 2, none⟩ = some (.string a8) ∧ w'.cell? ⟨w.heap.size, 3, none⟩ = some (.string a1) ∧ w'.cell? ⟨w.heap.size, 4, none⟩ = some (.slice a2 a3 a4) ∧ w'.cell? ⟨w.heap.size, 5, none⟩ = some (.slice a5 a6 a7) ∧ w'.cell? ⟨w.heap.size, 6, none⟩ = some (.string a9) ∧ w'.cell? ⟨w.heap.size, 7, none⟩ = some (.slice (some ⟨aB, aO, none⟩) an adc) ∧ w'.cell? ⟨w.heap.size + 1, 0, none⟩ = some (.string name) ∧ w'.cell? ⟨w.heap.size + 1, 1, none⟩ = some (.bool b0) ∧ w'.cell? ⟨w.heap.size + 1, 2, none⟩ = some (.string b8) ∧ w'.cell? ⟨w.heap.size + 1, 3, none⟩ = some (.string b1) ∧ w'.cell? ⟨w.heap.size + 1, 4, none⟩ = some (.slice b2 b3 b4) ∧ w'.cell? ⟨w.heap.size + 1, 5, none⟩ = some (.slice b5 b6 b7) ∧ w'.cell? ⟨w.heap.size + 1, 6, none⟩ = some (.string b9) ∧ w'.cell? ⟨w.heap.size + 1, 7, none⟩ = some (.slice (some ⟨bB, bO, none⟩) bn bdc)) [] (by kernel_rfl) ?hS1 (fun hHeld => ?_)
  case hS1 => (exact KB.out _ (Ext.refl _))
  generalize w1.drew = wd at *
  change wpAnyM _ _ _ _ _ _ 6 #[false, false, false, false, false, false] _ _
  refine wpAnyM_take (i := 0) (oi := { dst := some 9, op := Go.Op.load 156 (Go.Operand.tmp 3), type := 156, pos := "schema.go:79", after := #[], guard := none }) (v := ?v2) rfl (by kernel_rfl) (fun _ _ _ h => h) (Or.inl ⟨by rfl, ?hy2⟩) (by assumption) ?rest2
  case hy2 => (intro wz hSw; (try dsimp only at hSw); go_simp; try with_reducible rfl)
  (try simp only [Act.put, List.setIfInBounds_toArray, List.set_cons_zero, List.set_cons_succ])
  refine wpAnyM_take (i := 2) (oi := { dst := some 11, op := Go.Op.load 156 (Go.Operand.tmp 4), type := 156, pos := "schema.go:79", after := #[], guard := none }) (v := ?v3) rfl (by kernel_rfl) (fun _ _ _ h => h) (Or.inl ⟨by rfl, ?hy3⟩) (by assumption) ?rest3
  case hy3 => (intro wz hSw; (try dsimp only at hSw); go_simp; try with_reducible rfl)
  (try simp only [Act.put, List.setIfInBounds_toArray, List.set_cons_zero, List.set_cons_succ])
  refine wpAnyM_ready (rs := [1]) (by kernel_rfl) (by simp) ?_
  refine AllReadyM.cons (o := { dst := some 10, op := Go.Op.call { callee := Go.Callee.value (Go.Operand.func 112), args := #[Go.Operand.tmp 9], argTypes := #[156] }, type := 27, pos := "schema.go:79", after := #[{ on := 0, ground := Go.Ground.data }], guard := none }) rfl (fun K hK => ?_) AllReadyM.nil
  refine step_call _ rfl 112 [.tmp 9] #[156] rfl (by kernel_rfl) [_] rfl (HDX.out wd (HEd.out)) ?_
  rintro en w2 ⟨rfl, hE⟩
  refine ⟨_, rfl, ?_⟩
  have E2 := hid hE
  clear hE
  refine hK.out _ _ ?hS4 (fun hHeld => ?_)
  case hS4 => (exact KB.out _ E2.out)
  clear hK K
  (try simp only [Act.put, List.setIfInBounds_toArray, List.set_cons_zero, List.set_cons_succ])
  refine wpAnyM_ready (rs := [3]) (by kernel_rfl) (by simp) ?_
  refine AllReadyM.cons (o := { dst := some 12, op := Go.Op.call { callee := Go.Callee.value (Go.Operand.func 112), args := #[Go.Operand.tmp 11], argTypes := #[156] }, type := 27, pos := "schema.go:79", after := #[{ on := 2, ground := Go.Ground.data }, { on := 1, ground := Go.Ground.chain }], guard := none }) rfl (fun K hK => ?_) AllReadyM.nil
  refine step_call _ rfl 112 [.tmp 11] #[156] rfl (by kernel_rfl) [_] rfl (HDY.out w2 (HEd.out.trans E2.out)) ?_
  rintro en w3 ⟨rfl, hE⟩
  refine ⟨_, rfl, ?_⟩
  have E3 := hid hE
  clear hE
  refine hK.out _ _ ?hS5 (fun hHeld => ?_)
  case hS5 => (exact KB.out _ (E2.out.trans E3.out))
  clear hK K
  (try simp only [Act.put, List.setIfInBounds_toArray, List.set_cons_zero, List.set_cons_succ])
  refine wpAnyM_take (i := 4) (oi := { dst := some 7, op := Go.Op.assign (Go.Operand.tmp 10), type := 27, pos := "schema.go:79", after := #[{ on := 1, ground := Go.Ground.data }, { on := 3, ground := Go.Ground.chain }, { on := 0, ground := Go.Ground.phase }, { on := 1, ground := Go.Ground.phase }, { on := 2, ground := Go.Ground.textOnly Go.Departure.lateStores }, { on := 3, ground := Go.Ground.textOnly Go.Departure.lateStoresUnsure }], guard := none }) (v := ?v6) rfl (by kernel_rfl) (fun _ _ _ h => h) (Or.inl ⟨by rfl, ?hy6⟩) (by assumption) ?rest6
  case hy6 => (intro wz hSw; (try dsimp only at hSw); go_simp; try with_reducible rfl)
  (try simp only [Act.put, List.setIfInBounds_toArray, List.set_cons_zero, List.set_cons_succ])
  refine wpAnyM_take (i := 5) (oi := { dst := some 8, op := Go.Op.assign (Go.Operand.tmp 12), type := 27, pos := "schema.go:79", after := #[{ on := 3, ground := Go.Ground.data }, { on := 4, ground := Go.Ground.chain }, { on := 0, ground := Go.Ground.phase }, { on := 1, ground := Go.Ground.phase }, { on := 2, ground := Go.Ground.phase }, { on := 3, ground := Go.Ground.phase }, { on := 4, ground := Go.Ground.phase }], guard := none }) (v := ?v7) rfl (by kernel_rfl) (fun _ _ _ h => h) (Or.inl ⟨by rfl, ?hy7⟩) (by assumption) ?rest7
  case hy7 => (intro wz hSw; (try dsimp only at hSw); go_simp; try with_reducible rfl)
  (try simp only [Act.put, List.setIfInBounds_toArray, List.set_cons_zero, List.set_cons_succ])
  refine wpAnyM_done (by kernel_rfl) ?_ _
  have HE3 := hid (HEd.out.trans (E2.out.trans E3.out))
  obtain ⟨⟨x0, x1, x2, x3, x4, x5, x6, x7⟩, -⟩ := slot8 ((E2.out.trans E3.out).block X0d.out)
  obtain ⟨⟨y0, y1, y2, y3, y4, y5, y6, y7⟩, -⟩ := slot8 ((E2.out.trans E3.out).block X1d.out)
  go_upto_region 4 with (go_at_call 88; refine (HRA.out _ HE3.out).mono ?_; rintro e w4 ⟨rfl, hE⟩; have HE4 := hid (HE3.out.trans hE); clear hE)
  obtain ⟨c0, c1, c2, c3, c4, c5⟩ := cells6 (cellsAt_ext HE4.out HCX.out)
  obtain ⟨d0, d1, d2, d3, d4, d5⟩ := cells6 (cellsAt_ext HE4.out HCY.out)
  go_still_tail 11, (by kernel_rfl)
  change wpList _ _ _ _ _ w4.drew
  have HE4d := hid (HE4.out.drew)
  go_wp2_with (go_at_call 31; refine (HSV.out _ HE4d.out).mono ?_; rintro e w5 ⟨rfl, hE⟩; have HE5 := hid (HE4d.out.trans hE); clear hE)
  go_ret
  exact ⟨rfl, HE5.out⟩
set_option maxHeartbeats 2000000 in
theorem fieldsAlike_0 (w : World) (name a8 a1 a9 b8 b1 b9 : ByteArray) (a0 b0 : Bool) (a2 a5 b2 b5 ada bda : Option Addr) (a3 a4 a6 a7 b3 b4 b6 b7 an adc bn bdc : Nat) 
    (hdx : ∀ W, Ext w W → Calls Try.prog 112 #[.agg #[.string name, .bool a0, .string a8, .string a1, .slice a2 a3 a4, .slice a5 a6 a7, .string a9, .slice ada an adc]] W fun e w' => e = .returned (.slice none 0 0) ∧ Ext W w') (hdy : ∀ W, Ext w W → Calls Try.prog 112 #[.agg #[.string name, .bool b0, .string b8, .string b1, .slice b2 b3 b4, .slice b5 b6 b7, .string b9, .slice bda bn bdc]] W fun e w' => e = .returned (.slice none 0 0) ∧ Ext W w')
    (hra : ∀ W, Ext w W → Calls Try.prog 88 #[.agg #[.bool a0, .string a8, .string a1, .slice a2 a3 a4, .slice a5 a6 a7, .string a9], .agg #[.bool b0, .string b8, .string b1, .slice b2 b3 b4, .slice b5 b6 b7, .string b9], .func (.func 31) #[] #[]] W fun e w' => e = .returned (.bool true) ∧ Ext W w') :
    Calls Try.prog 89 #[.agg #[.string name, .bool a0, .string a8, .string a1, .slice a2 a3 a4, .slice a5 a6 a7, .string a9, .slice ada an adc], .agg #[.string name, .bool b0, .string b8, .string b1, .slice b2 b3 b4, .slice b5 b6 b7, .string b9, .slice bda bn bdc], .func (.func 31) #[] #[]] w fun e w' => e = .returned (.bool true) ∧ Ext w w' := by
  have HDX := hid hdx
  have HDY := hid hdy
  have HRA := hid hra
  skip
  skip
  skip
  clear hdx hdy hra 
  have HE := hid (((Ext.refl w).alloc (.cells #[.string name, .bool a0, .string a8, .string a1, .slice a2 a3 a4, .slice a5 a6 a7, .string a9, .slice ada an adc] 156)).alloc (.cells #[.string name, .bool b0, .string b8, .string b1, .slice b2 b3 b4, .slice b5 b6 b7, .string b9, .slice bda bn bdc] 156))
  have X0 := hid (first_heap w (.cells #[.string name, .bool a0, .string a8, .string a1, .slice a2 a3 a4, .slice a5 a6 a7, .string a9, .slice ada an adc] 156) (.cells #[.string name, .bool b0, .string b8, .string b1, .slice b2 b3 b4, .slice b5 b6 b7, .string b9, .slice bda bn bdc] 156))
  have X1 := hid (second_heap w (.cells #[.string name, .bool a0, .string a8, .string a1, .slice a2 a3 a4, .slice a5 a6 a7, .string a9, .slice ada an adc] 156) (.cells #[.string name, .bool b0, .string b8, .string b1, .slice b2 b3 b4, .slice b5 b6 b7, .string b9, .slice bda bn bdc] 156))
  go_enter Try.func89, Try.ntmps89
  go_upto_region 1 with fail
  generalize (w.alloc (.cells #[.string name, .bool a0, .string a8, .string a1, .slice a2 a3 a4, .slice a5 a6 a7, .string a9, .slice ada an adc] 156)).alloc (.cells #[.string name, .bool b0, .string b8, .string b1, .slice b2 b3 b4, .slice b5 b6 b7, .string b9, .slice bda bn bdc] 156) = w1 at *
  have X0d := hid (show w1.drew.heap[w.heap.size]? = some (.cells #[.string name, .bool a0, .string a8, .string a1, .slice a2 a3 a4, .slice a5 a6 a7, .string a9, .slice ada an adc] 156) from (Ext.refl w1).drew.block X0.out)
  have X1d := hid (show w1.drew.heap[w.heap.size + 1]? = some (.cells #[.string name, .bool b0, .string b8, .string b1, .slice b2 b3 b4, .slice b5 b6 b7, .string b9, .slice bda bn bdc] 156) from (Ext.refl w1).drew.block X1.out)
  have HEd := hid (HE.out.drew)
  have KB := hid (show ∀ w' : World, Ext w1.drew w' → (fun w' : World => w'.cell? ⟨w.heap.size, 0, none⟩ = some (.string name) ∧ w'.cell? ⟨w.heap.size, 1, none⟩ = some (.bool a0) ∧ w'.cell? ⟨w.heap.size, 2, none⟩ = some (.string a8) ∧ w'.cell? ⟨w.heap.size, 3, none⟩ = some (.string a1) ∧ w'.cell? ⟨w.heap.size, 4, none⟩ = some (.slice a2 a3 a4) ∧ w'.cell? ⟨w.heap.size, 5, none⟩ = some (.slice a5 a6 a7) ∧ w'.cell? ⟨w.heap.size, 6, none⟩ = some (.string a9) ∧ w'.cell? ⟨w.heap.size, 7, none⟩ = some (.slice ada an adc) ∧ w'.cell? ⟨w.heap.size + 1, 0, none⟩ = some (.string name) ∧ w'.cell? ⟨w.heap.size + 1, 1, none⟩ = some (.bool b0) ∧ w'.cell? ⟨w.heap.size + 1, 2, none⟩ = some (.string b8) ∧ w'.cell? ⟨w.heap.size + 1, 3, none⟩ = some (.string b1) ∧ w'.cell? ⟨w.heap.size + 1, 4, none⟩ = some (.slice b2 b3 b4) ∧ w'.cell? ⟨w.heap.size + 1, 5, none⟩ = some (.slice b5 b6 b7) ∧ w'.cell? ⟨w.heap.size + 1, 6, none⟩ = some (.string b9) ∧ w'.cell? ⟨w.heap.size + 1, 7, none⟩ = some (.slice bda bn bdc)) w' from fun w' h => by
    obtain ⟨⟨x0, x1, x2, x3, x4, x5, x6, x7⟩, -⟩ := slot8 (h.block X0d.out)
    obtain ⟨⟨y0, y1, y2, y3, y4, y5, y6, y7⟩, -⟩ := slot8 (h.block X1d.out)
    exact ⟨x0, x1, x2, x3, x4, x5, x6, x7, y0, y1, y2, y3, y4, y5, y6, y7⟩)
  refine wp_region_late (fun w' : World => w'.cell? ⟨w.heap.size, 0, none⟩ = some (.string name) ∧ w'.cell? ⟨w.heap.size, 1, none⟩ = some (.bool a0) ∧ w'.cell? ⟨w.heap.size, 2, none⟩ = some (.string a8) ∧ w'.cell? ⟨w.heap.size, 3, none⟩ = some (.string a1) ∧ w'.cell? ⟨w.heap.size, 4, none⟩ = some (.slice a2 a3 a4) ∧ w'.cell? ⟨w.heap.size, 5, none⟩ = some (.slice a5 a6 a7) ∧ w'.cell? ⟨w.heap.size, 6, none⟩ = some (.string a9) ∧ w'.cell? ⟨w.heap.size, 7, none⟩ = some (.slice ada an adc) ∧ w'.cell? ⟨w.heap.size + 1, 0, none⟩ = some (.string name) ∧ w'.cell? ⟨w.heap.size + 1, 1, none⟩ = some (.bool b0) ∧ w'.cell? ⟨w.heap.size + 1, 2, none⟩ = some (.string b8) ∧ w'.cell? ⟨w.heap.size + 1, 3, none⟩ = some (.string b1) ∧ w'.cell? ⟨w.heap.size + 1, 4, none⟩ = some (.slice b2 b3 b4) ∧ w'.cell? ⟨w.heap.size + 1, 5, none⟩ = some (.slice b5 b6 b7) ∧ w'.cell? ⟨w.heap.size + 1, 6, none⟩ = some (.string b9) ∧ w'.cell? ⟨w.heap.size + 1, 7, none⟩ = some (.slice bda bn bdc)) [] (by kernel_rfl) ?hS8 (fun hHeld => ?_)
  case hS8 => (exact KB.out _ (Ext.refl _))
  generalize w1.drew = wd at *
  change wpAnyM _ _ _ _ _ _ 6 #[false, false, false, false, false, false] _ _
  refine wpAnyM_take (i := 0) (oi := { dst := some 9, op := Go.Op.load 156 (Go.Operand.tmp 3), type := 156, pos := "schema.go:79", after := #[], guard := none }) (v := ?v9) rfl (by kernel_rfl) (fun _ _ _ h => h) (Or.inl ⟨by rfl, ?hy9⟩) (by assumption) ?rest9
  case hy9 => (intro wz hSw; (try dsimp only at hSw); go_simp; try with_reducible rfl)
  (try simp only [Act.put, List.setIfInBounds_toArray, List.set_cons_zero, List.set_cons_succ])
  refine wpAnyM_take (i := 2) (oi := { dst := some 11, op := Go.Op.load 156 (Go.Operand.tmp 4), type := 156, pos := "schema.go:79", after := #[], guard := none }) (v := ?v10) rfl (by kernel_rfl) (fun _ _ _ h => h) (Or.inl ⟨by rfl, ?hy10⟩) (by assumption) ?rest10
  case hy10 => (intro wz hSw; (try dsimp only at hSw); go_simp; try with_reducible rfl)
  (try simp only [Act.put, List.setIfInBounds_toArray, List.set_cons_zero, List.set_cons_succ])
  refine wpAnyM_ready (rs := [1]) (by kernel_rfl) (by simp) ?_
  refine AllReadyM.cons (o := { dst := some 10, op := Go.Op.call { callee := Go.Callee.value (Go.Operand.func 112), args := #[Go.Operand.tmp 9], argTypes := #[156] }, type := 27, pos := "schema.go:79", after := #[{ on := 0, ground := Go.Ground.data }], guard := none }) rfl (fun K hK => ?_) AllReadyM.nil
  refine step_call _ rfl 112 [.tmp 9] #[156] rfl (by kernel_rfl) [_] rfl (HDX.out wd (HEd.out)) ?_
  rintro en w2 ⟨rfl, hE⟩
  refine ⟨_, rfl, ?_⟩
  have E2 := hid hE
  clear hE
  refine hK.out _ _ ?hS11 (fun hHeld => ?_)
  case hS11 => (exact KB.out _ E2.out)
  clear hK K
  (try simp only [Act.put, List.setIfInBounds_toArray, List.set_cons_zero, List.set_cons_succ])
  refine wpAnyM_ready (rs := [3]) (by kernel_rfl) (by simp) ?_
  refine AllReadyM.cons (o := { dst := some 12, op := Go.Op.call { callee := Go.Callee.value (Go.Operand.func 112), args := #[Go.Operand.tmp 11], argTypes := #[156] }, type := 27, pos := "schema.go:79", after := #[{ on := 2, ground := Go.Ground.data }, { on := 1, ground := Go.Ground.chain }], guard := none }) rfl (fun K hK => ?_) AllReadyM.nil
  refine step_call _ rfl 112 [.tmp 11] #[156] rfl (by kernel_rfl) [_] rfl (HDY.out w2 (HEd.out.trans E2.out)) ?_
  rintro en w3 ⟨rfl, hE⟩
  refine ⟨_, rfl, ?_⟩
  have E3 := hid hE
  clear hE
  refine hK.out _ _ ?hS12 (fun hHeld => ?_)
  case hS12 => (exact KB.out _ (E2.out.trans E3.out))
  clear hK K
  (try simp only [Act.put, List.setIfInBounds_toArray, List.set_cons_zero, List.set_cons_succ])
  refine wpAnyM_take (i := 4) (oi := { dst := some 7, op := Go.Op.assign (Go.Operand.tmp 10), type := 27, pos := "schema.go:79", after := #[{ on := 1, ground := Go.Ground.data }, { on := 3, ground := Go.Ground.chain }, { on := 0, ground := Go.Ground.phase }, { on := 1, ground := Go.Ground.phase }, { on := 2, ground := Go.Ground.textOnly Go.Departure.lateStores }, { on := 3, ground := Go.Ground.textOnly Go.Departure.lateStoresUnsure }], guard := none }) (v := ?v13) rfl (by kernel_rfl) (fun _ _ _ h => h) (Or.inl ⟨by rfl, ?hy13⟩) (by assumption) ?rest13
  case hy13 => (intro wz hSw; (try dsimp only at hSw); go_simp; try with_reducible rfl)
  (try simp only [Act.put, List.setIfInBounds_toArray, List.set_cons_zero, List.set_cons_succ])
  refine wpAnyM_take (i := 5) (oi := { dst := some 8, op := Go.Op.assign (Go.Operand.tmp 12), type := 27, pos := "schema.go:79", after := #[{ on := 3, ground := Go.Ground.data }, { on := 4, ground := Go.Ground.chain }, { on := 0, ground := Go.Ground.phase }, { on := 1, ground := Go.Ground.phase }, { on := 2, ground := Go.Ground.phase }, { on := 3, ground := Go.Ground.phase }, { on := 4, ground := Go.Ground.phase }], guard := none }) (v := ?v14) rfl (by kernel_rfl) (fun _ _ _ h => h) (Or.inl ⟨by rfl, ?hy14⟩) (by assumption) ?rest14
  case hy14 => (intro wz hSw; (try dsimp only at hSw); go_simp; try with_reducible rfl)
  (try simp only [Act.put, List.setIfInBounds_toArray, List.set_cons_zero, List.set_cons_succ])
  refine wpAnyM_done (by kernel_rfl) ?_ _
  have HE3 := hid (HEd.out.trans (E2.out.trans E3.out))
  obtain ⟨⟨x0, x1, x2, x3, x4, x5, x6, x7⟩, -⟩ := slot8 ((E2.out.trans E3.out).block X0d.out)
  obtain ⟨⟨y0, y1, y2, y3, y4, y5, y6, y7⟩, -⟩ := slot8 ((E2.out.trans E3.out).block X1d.out)
  go_upto_region 4 with (go_at_call 88; refine (HRA.out _ HE3.out).mono ?_; rintro e w4 ⟨rfl, hE⟩; have HE4 := hid (HE3.out.trans hE); clear hE)
  go_quiet (fail)
  go_wp2_with fail
  go_ret
  exact ⟨rfl, below_drewN HE4.out _⟩
theorem fieldsAlike_of (name : ByteArray) (t t' : GS) (ds ds' : List GV) (h1 : hasD ds' = hasD ds) (h2 : ∀ x y, hasD ds = true → ds'[0]? = some x → ds[0]? = some y → cleanG x = cleanG y) (ih : AlOK 88 t' t) : AlOK 89 (.fld name t' ds') (.fld name t ds) := by
  intro w cx cy hX hY
  cases hX with
  | @fld _ _ _ c0 c1 c2 c3 c4 c5 da db dO dc hx1 hxt hxe hxD hxd =>
  cases hY with
  | @fld _ _ _ e0 e1 e2 e3 e4 e5 fa fb fO fc hy1 hyt hye hyD hyd =>
  obtain ⟨b, n, s, p0, p1, p2, q0, q1, q2, r, e⟩ := hxe.formR hxt
  simp only [List.cons.injEq, and_true] at e
  obtain ⟨rfl, rfl, rfl, rfl, rfl, rfl⟩ := e
  obtain ⟨b', n', s', p0', p1', p2', q0', q1', q2', r', e⟩ := hye.formR hyt
  simp only [List.cons.injEq, and_true] at e
  obtain ⟨rfl, rfl, rfl, rfl, rfl, rfl⟩ := e
  have dx := fun W (hW : Ext w W) => defaultOf_any name (.bool b) (.string n) (.string s) (.slice p0 p1 p2) (.slice q0 q1 q2) (.string r) da db dO dc ds' W (hxD.mono (hW.same _) (fun _ h _ => h) (by omega)) (fun i g cs hg hl hc => (hxd i g cs hg hl (hxD.back (hW.same _) (List.getElem?_eq_some_iff.1 hg).1 hl hc)).ext hW)
  have dy := fun W (hW : Ext w W) => defaultOf_any name (.bool b') (.string n') (.string s') (.slice p0' p1' p2') (.slice q0' q1' q2') (.string r') fa fb fO fc ds W (hyD.mono (hW.same _) (fun _ h _ => h) (by omega)) (fun i g cs hg hl hc => (hyd i g cs hg hl (hyD.back (hW.same _) (List.getElem?_eq_some_iff.1 hg).1 hl hc)).ext hW)
  have ra := fun W (hW : Ext w W) => ih W _ _ (hxe.ext hW) (hye.ext hW)
  cases hh : hasD ds with
  | false =>
    rw [h1] at dx
    rw [hh] at dx dy
    exact fieldsAlike_0 w name n s r n' s' r' b b' p0 q0 p0' q0' da fa p1 p2 q1 q2 p1' p2' q1' q2' _ dc _ fc dx dy ra
  | true =>
    rw [h1] at dx
    rw [hh] at dx dy
    cases ds with
    | nil => cases hh
    | cons d ds =>
    cases ds' with
    | nil => rw [hh] at h1; cases h1
    | cons d' ds' =>
    obtain ⟨k1, k2, k3⟩ := hxD
    obtain ⟨m1, m2, m3⟩ := hyD
    obtain ⟨rfl, -⟩ := k2 (by simp)
    obtain ⟨rfl, -⟩ := m2 (by simp)
    obtain ⟨cs, hl, hc⟩ := k3 0 (by simp)
    obtain ⟨cs', hl', hc'⟩ := m3 0 (by simp)
    have rx := hxd 0 d' cs rfl hl hc
    have ry := hyd 0 d cs' rfl hl' hc'
    simp only [Nat.zero_mul, Nat.add_zero] at hc hc'
    match cs, cs', hl, hl' with
    | [va0, va1, va2, va3, va4, va5], [vb0, vb1, vb2, vb3, vb4, vb5], _, _ =>
    exact fieldsAlike_d w name n s r n' s' r' b b' p0 q0 p0' q0' none none p1 p2 q1 q2 p1' p2' q1' q2' _ dc _ fc va0 va1 va2 va3 va4 va5 vb0 vb1 vb2 vb3 vb4 vb5 db dO fb fO hc hc' (fun W hW => same_any W _ _ (h2 d' d hh rfl rfl) _ _ (rx.ext hW) (ry.ext hW)) (by have : ds'.length + 1 ≤ dc := k1; omega) (by have : ds.length + 1 ≤ fc := m1; omega) dx dy ra
end Go.Proofs.Ytempfaefopfobaa
