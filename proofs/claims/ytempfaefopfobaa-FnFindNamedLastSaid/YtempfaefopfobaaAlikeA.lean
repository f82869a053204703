/- AlikeA: laws.atomsAlike of types that are written alike; sameAtom. -/
import Derived.Test.YtempfaefopfobaaAlike

set_option maxRecDepth 100000
namespace Go.Proofs.Ytempfaefopfobaa
open Go.ChangeShapes Go.WideShapes Go.ChangeAt Go.RowKit
set_option linter.unusedVariables false
set_option linter.unusedSimpArgs false

theorem step_callW' {P : Program} {ops : Array Oper} {o : Oper} {a : Act} {K : Act → World → Prop} {Q : Exit → Act → World → Prop} {E : Prop} (w : World) (hgd : Region.wanted o (yielded ops a.tmps) = true) (f : FuncId) (xs : List Operand) (tys : Array TypeId)
    (ho : o.op = .call { callee := .value (.func f), args := xs.toArray, argTypes := tys }) (hf : (P.funcs[f]?).map (fun fn => (fn.name == "runtime.NumGoroutine", fn.body.isSome)) = some (false, true))
    (vs : List Value) (hvs : xs.map a.eval = vs) {post : Ending → World → Prop} (hc : Calls P f vs.toArray w post)
    (h : ∀ e w', post e w' → ∃ v, e = .returned v ∧ K (a.put o.dst v) w') : if Region.wanted o (yielded ops a.tmps) = true then Oper.wp P o a w K Q else E := by
  have h1 : ({ o with guard := none } : Oper).guard = none := rfl
  have := step_call (E := E) (ops := ops) (o := { o with guard := none }) (K := K) (Q := Q) (a := a) w rfl f xs tys ho hf vs hvs hc h
  rw [if_pos (by simp [Region.wanted])] at this
  rw [if_pos hgd]
  exact this
set_option maxHeartbeats 4000000 in
theorem atomsAlike_any (w : World) (sc : ByteArray) (la ma xa ya : Option Addr) (nl lc nm mc nx xc ny yc z zm : Nat)
    (h1 : ∀ W, Calls Try.prog 85 #[.agg #[.string sc, .slice la nl lc, .slice ma nm mc]] W fun e w' => e = .returned (.slice la z lc) ∧ Ext W w') (h2 : ∀ W, Calls Try.prog 85 #[.agg #[.string sc, .slice xa nx xc, .slice ya ny yc]] W fun e w' => e = .returned (.slice xa z xc) ∧ Ext W w')
    (h3 : ∀ W, Calls Try.prog 86 #[.agg #[.string sc, .slice la nl lc, .slice ma nm mc]] W fun e w' => e = .returned (.slice ma zm mc) ∧ Ext W w') (h4 : ∀ W, Calls Try.prog 86 #[.agg #[.string sc, .slice xa nx xc, .slice ya ny yc]] W fun e w' => e = .returned (.slice ya zm yc) ∧ Ext W w')
    (hz : z ≤ 1) (hzm : zm ≤ 1)
    (hl : ∀ k, k < z → ∃ lb lo xb xo rel a1 a2 a3 a4 a5 a6 a7 a8 a9 a10 a12 a13 a14 b1 b2 b3 b4 b5 b6 b7 b8 b9 b10 b12 b13 b14, la = some ⟨lb, lo, none⟩ ∧ xa = some ⟨xb, xo, none⟩ ∧ cellsAt w lb (lo + k * 8) [.bool a1, .string a2, .string a3, .slice a4 a5 a6, .slice a7 a8 a9, .string a10, .string rel, .slice a12 a13 a14] ∧ cellsAt w xb (xo + k * 8) [.bool b1, .string b2, .string b3, .slice b4 b5 b6, .slice b7 b8 b9, .string b10, .string rel, .slice b12 b13 b14] ∧
      (∀ W, Ext w W → Calls Try.prog 87 #[.slice a12 a13 a14, .slice b12 b13 b14] W fun e w' => e = .returned (.bool true) ∧ Ext W w') ∧ ∀ W, Ext w W → Calls Try.prog 88 #[.agg #[.bool a1, .string a2, .string a3, .slice a4 a5 a6, .slice a7 a8 a9, .string a10], .agg #[.bool b1, .string b2, .string b3, .slice b4 b5 b6, .slice b7 b8 b9, .string b10], .func (.func 31) #[] #[]] W fun e w' => e = .returned (.bool true) ∧ Ext W w')
    (hm : ∀ k, k < zm → ∃ mb mo yb yo rel nf a1 a2 a3 a4 a5 a6 a7 a8 a9 a10 a12 a14 b1 b2 b3 b4 b5 b6 b7 b8 b9 b10 b12 b14, ma = some ⟨mb, mo, none⟩ ∧ ya = some ⟨yb, yo, none⟩ ∧ cellsAt w mb (mo + k * 8) [.slice a12 nf a14, .bool a1, .string a2, .string a3, .slice a4 a5 a6, .slice a7 a8 a9, .string a10, .string rel] ∧ cellsAt w yb (yo + k * 8) [.slice b12 nf b14, .bool b1, .string b2, .string b3, .slice b4 b5 b6, .slice b7 b8 b9, .string b10, .string rel] ∧ nf * 144 ≤ 140737488351232 ∧
      (∀ W, Ext w W → Calls Try.prog 88 #[.agg #[.bool a1, .string a2, .string a3, .slice a4 a5 a6, .slice a7 a8 a9, .string a10], .agg #[.bool b1, .string b2, .string b3, .slice b4 b5 b6, .slice b7 b8 b9, .string b10], .func (.func 31) #[] #[]] W fun e w' => e = .returned (.bool true) ∧ Ext W w') ∧
      ∀ j, j < nf → ∃ p po q qo c0 c1 c2 c3 c4 c5 c6 c7 d0 d1 d2 d3 d4 d5 d6 d7, a12 = some ⟨p, po, none⟩ ∧ b12 = some ⟨q, qo, none⟩ ∧ cellsAt w p (po + j * 8) [c0, c1, c2, c3, c4, c5, c6, c7] ∧ cellsAt w q (qo + j * 8) [d0, d1, d2, d3, d4, d5, d6, d7] ∧
        ∀ W, Ext w W → Calls Try.prog 89 #[.agg #[c0, c1, c2, c3, c4, c5, c6, c7], .agg #[d0, d1, d2, d3, d4, d5, d6, d7], .func (.func 31) #[] #[]] W fun e w' => e = .returned (.bool true) ∧ Ext W w') :
    Calls Try.prog 42 #[.agg #[.string sc, .slice la nl lc, .slice ma nm mc], .agg #[.string sc, .slice xa nx xc, .slice ya ny yc], .func (.func 31) #[] #[]] w fun e w' => e = .returned (.bool true) ∧ Ext w w' := by
  have H1 := hid h1
  have H2 := hid h2
  have H3 := hid h3
  have H4 := hid h4
  have HL := hid hl
  have HM := hid hm
  clear h1 h2 h3 h4 hl hm
  have HE := hid (((Ext.refl w).alloc (.cells #[.string sc, .slice la nl lc, .slice ma nm mc] 53)).alloc (.cells #[.string sc, .slice xa nx xc, .slice ya ny yc] 53))
  have X0 := hid (first_heap w (.cells #[.string sc, .slice la nl lc, .slice ma nm mc] 53) (.cells #[.string sc, .slice xa nx xc, .slice ya ny yc] 53))
  have X1 := hid (second_heap w (.cells #[.string sc, .slice la nl lc, .slice ma nm mc] 53) (.cells #[.string sc, .slice xa nx xc, .slice ya ny yc] 53))
  go_enter Try.func42, Try.ntmps42
  go_upto_region 1 with fail
  generalize (w.alloc (.cells #[.string sc, .slice la nl lc, .slice ma nm mc] 53)).alloc (.cells #[.string sc, .slice xa nx xc, .slice ya ny yc] 53) = w1 at *
  have X0d := hid (show w1.drew.heap[w.heap.size]? = some (.cells #[.string sc, .slice la nl lc, .slice ma nm mc] 53) from (Ext.refl w1).drew.block X0.out)
  have X1d := hid (show w1.drew.heap[w.heap.size + 1]? = some (.cells #[.string sc, .slice xa nx xc, .slice ya ny yc] 53) from (Ext.refl w1).drew.block X1.out)
  have HEd := hid (HE.out.drew)
  have KB := hid (show ∀ w' : World, Ext w1.drew w' → (fun w' : World => w'.cell? ⟨w.heap.size, 0, none⟩ = some (.string sc) ∧ w'.cell? ⟨w.heap.size, 1, none⟩ = some (.slice la nl lc) ∧ w'.cell? ⟨w.heap.size, 2, none⟩ = some (.slice ma nm mc) ∧ w'.cell? ⟨w.heap.size + 1, 0, none⟩ = some (.string sc) ∧ w'.cell? ⟨w.heap.size + 1, 1, none⟩ = some (.slice xa nx xc) ∧ w'.cell? ⟨w.heap.size + 1, 2, none⟩ = some (.slice ya ny yc)) w' from fun w' h => by
    obtain ⟨⟨x0, x1, x2⟩, -⟩ := slot3 (h.block X0d.out)
    obtain ⟨⟨y0, y1, y2⟩, -⟩ := slot3 (h.block X1d.out)
    exact ⟨x0, x1, x2, y0, y1, y2⟩)
  refine wp_region_late (fun w' : World => w'.cell? ⟨w.heap.size, 0, none⟩ = some (.string sc) ∧ w'.cell? ⟨w.heap.size, 1, none⟩ = some (.slice la nl lc) ∧ w'.cell? ⟨w.heap.size, 2, none⟩ = some (.slice ma nm mc) ∧ w'.cell? ⟨w.heap.size + 1, 0, none⟩ = some (.string sc) ∧ w'.cell? ⟨w.heap.size + 1, 1, none⟩ = some (.slice xa nx xc) ∧ w'.cell? ⟨w.heap.size + 1, 2, none⟩ = some (.slice ya ny yc)) [] (by kernel_rfl) ?hS1 (fun hHeld => ?_)
  case hS1 => (exact KB.out _ (Ext.refl _))
  generalize w1.drew = wd at *
  change wpAnyM _ _ _ _ _ _ 12 #[false, false, false, false, false, false, false, false, false, false, false, false] _ _
  refine wpAnyM_take (i := 0) (oi := { dst := some 14, op := Go.Op.load 53 (Go.Operand.tmp 3), type := 53, pos := "schema.go:46", after := #[], guard := none }) (v := ?v2) rfl (by kernel_rfl) (fun _ _ _ h => h) (Or.inl ⟨by rfl, ?hy2⟩) (by assumption) ?rest2
  case hy2 => (intro wz hSw; (try dsimp only at hSw); go_simp; try with_reducible rfl)
  (try simp only [Act.put, List.setIfInBounds_toArray, List.set_cons_zero, List.set_cons_succ])
  refine wpAnyM_take (i := 2) (oi := { dst := some 16, op := Go.Op.load 53 (Go.Operand.tmp 4), type := 53, pos := "schema.go:46", after := #[], guard := none }) (v := ?v3) rfl (by kernel_rfl) (fun _ _ _ h => h) (Or.inl ⟨by rfl, ?hy3⟩) (by assumption) ?rest3
  case hy3 => (intro wz hSw; (try dsimp only at hSw); go_simp; try with_reducible rfl)
  (try simp only [Act.put, List.setIfInBounds_toArray, List.set_cons_zero, List.set_cons_succ])
  refine wpAnyM_take (i := 4) (oi := { dst := some 18, op := Go.Op.load 53 (Go.Operand.tmp 3), type := 53, pos := "schema.go:46", after := #[], guard := none }) (v := ?v4) rfl (by kernel_rfl) (fun _ _ _ h => h) (Or.inl ⟨by rfl, ?hy4⟩) (by assumption) ?rest4
  case hy4 => (intro wz hSw; (try dsimp only at hSw); go_simp; try with_reducible rfl)
  (try simp only [Act.put, List.setIfInBounds_toArray, List.set_cons_zero, List.set_cons_succ])
  refine wpAnyM_take (i := 6) (oi := { dst := some 20, op := Go.Op.load 53 (Go.Operand.tmp 4), type := 53, pos := "schema.go:46", after := #[], guard := none }) (v := ?v5) rfl (by kernel_rfl) (fun _ _ _ h => h) (Or.inl ⟨by rfl, ?hy5⟩) (by assumption) ?rest5
  case hy5 => (intro wz hSw; (try dsimp only at hSw); go_simp; try with_reducible rfl)
  (try simp only [Act.put, List.setIfInBounds_toArray, List.set_cons_zero, List.set_cons_succ])
  refine wpAnyM_ready (rs := [1]) (by kernel_rfl) (by simp) ?_
  refine AllReadyM.cons (o := { dst := some 15, op := Go.Op.call { callee := Go.Callee.value (Go.Operand.func 85), args := #[Go.Operand.tmp 14], argTypes := #[53] }, type := 50, pos := "schema.go:46", after := #[{ on := 0, ground := Go.Ground.data }], guard := none }) rfl (fun K hK => ?_) AllReadyM.nil
  refine step_call _ rfl 85 [.tmp 14] #[53] rfl (by kernel_rfl) [_] rfl (H1.out wd) ?_
  rintro en v1 ⟨rfl, hE⟩
  refine ⟨_, rfl, ?_⟩
  have E1 := hid (hE)
  clear hE
  refine hK.out _ _ ?hS6 (fun hHeld => ?_)
  case hS6 => (exact KB.out _ E1.out)
  clear hK K
  (try simp only [Act.put, List.setIfInBounds_toArray, List.set_cons_zero, List.set_cons_succ])
  refine wpAnyM_ready (rs := [3]) (by kernel_rfl) (by simp) ?_
  refine AllReadyM.cons (o := { dst := some 17, op := Go.Op.call { callee := Go.Callee.value (Go.Operand.func 85), args := #[Go.Operand.tmp 16], argTypes := #[53] }, type := 50, pos := "schema.go:46", after := #[{ on := 2, ground := Go.Ground.data }, { on := 1, ground := Go.Ground.chain }], guard := none }) rfl (fun K hK => ?_) AllReadyM.nil
  refine step_call _ rfl 85 [.tmp 16] #[53] rfl (by kernel_rfl) [_] rfl (H2.out v1) ?_
  rintro en v2 ⟨rfl, hE⟩
  refine ⟨_, rfl, ?_⟩
  have E2 := hid (E1.out.trans hE)
  clear hE
  refine hK.out _ _ ?hS7 (fun hHeld => ?_)
  case hS7 => (exact KB.out _ E2.out)
  clear hK K
  (try simp only [Act.put, List.setIfInBounds_toArray, List.set_cons_zero, List.set_cons_succ])
  refine wpAnyM_ready (rs := [5]) (by kernel_rfl) (by simp) ?_
  refine AllReadyM.cons (o := { dst := some 19, op := Go.Op.call { callee := Go.Callee.value (Go.Operand.func 86), args := #[Go.Operand.tmp 18], argTypes := #[53] }, type := 51, pos := "schema.go:46", after := #[{ on := 4, ground := Go.Ground.data }, { on := 3, ground := Go.Ground.chain }], guard := none }) rfl (fun K hK => ?_) AllReadyM.nil
  refine step_call _ rfl 86 [.tmp 18] #[53] rfl (by kernel_rfl) [_] rfl (H3.out v2) ?_
  rintro en v3 ⟨rfl, hE⟩
  refine ⟨_, rfl, ?_⟩
  have E3 := hid (E2.out.trans hE)
  clear hE
  refine hK.out _ _ ?hS8 (fun hHeld => ?_)
  case hS8 => (exact KB.out _ E3.out)
  clear hK K
  (try simp only [Act.put, List.setIfInBounds_toArray, List.set_cons_zero, List.set_cons_succ])
  refine wpAnyM_ready (rs := [7]) (by kernel_rfl) (by simp) ?_
  refine AllReadyM.cons (o := { dst := some 21, op := Go.Op.call { callee := Go.Callee.value (Go.Operand.func 86), args := #[Go.Operand.tmp 20], argTypes := #[53] }, type := 51, pos := "schema.go:46", after := #[{ on := 6, ground := Go.Ground.data }, { on := 5, ground := Go.Ground.chain }], guard := none }) rfl (fun K hK => ?_) AllReadyM.nil
  refine step_call _ rfl 86 [.tmp 20] #[53] rfl (by kernel_rfl) [_] rfl (H4.out v3) ?_
  rintro en v4 ⟨rfl, hE⟩
  refine ⟨_, rfl, ?_⟩
  have E4 := hid (E3.out.trans hE)
  clear hE
  refine hK.out _ _ ?hS9 (fun hHeld => ?_)
  case hS9 => (exact KB.out _ E4.out)
  clear hK K
  (try simp only [Act.put, List.setIfInBounds_toArray, List.set_cons_zero, List.set_cons_succ])
  refine wpAnyM_take (i := 8) (oi := { dst := some 7, op := Go.Op.assign (Go.Operand.tmp 15), type := 50, pos := "schema.go:46", after := #[{ on := 1, ground := Go.Ground.data }, { on := 7, ground := Go.Ground.chain }, { on := 0, ground := Go.Ground.phase }, { on := 1, ground := Go.Ground.phase }, { on := 2, ground := Go.Ground.textOnly Go.Departure.lateStores }, { on := 3, ground := Go.Ground.textOnly Go.Departure.lateStoresUnsure }, { on := 4, ground := Go.Ground.textOnly Go.Departure.lateStores }, { on := 5, ground := Go.Ground.textOnly Go.Departure.lateStoresUnsure }, { on := 6, ground := Go.Ground.textOnly Go.Departure.lateStores }, { on := 7, ground := Go.Ground.textOnly Go.Departure.lateStoresUnsure }], guard := none }) (v := ?v10) rfl (by kernel_rfl) (fun _ _ _ h => h) (Or.inl ⟨by rfl, ?hy10⟩) (by assumption) ?rest10
  case hy10 => (intro wz hSw; (try dsimp only at hSw); go_simp; try with_reducible rfl)
  (try simp only [Act.put, List.setIfInBounds_toArray, List.set_cons_zero, List.set_cons_succ])
  refine wpAnyM_take (i := 9) (oi := { dst := some 8, op := Go.Op.assign (Go.Operand.tmp 17), type := 50, pos := "schema.go:46", after := #[{ on := 3, ground := Go.Ground.data }, { on := 8, ground := Go.Ground.chain }, { on := 0, ground := Go.Ground.phase }, { on := 1, ground := Go.Ground.phase }, { on := 2, ground := Go.Ground.phase }, { on := 3, ground := Go.Ground.phase }, { on := 4, ground := Go.Ground.textOnly Go.Departure.lateStores }, { on := 5, ground := Go.Ground.textOnly Go.Departure.lateStoresUnsure }, { on := 6, ground := Go.Ground.textOnly Go.Departure.lateStores }, { on := 7, ground := Go.Ground.textOnly Go.Departure.lateStoresUnsure }, { on := 8, ground := Go.Ground.phase }], guard := none }) (v := ?v11) rfl (by kernel_rfl) (fun _ _ _ h => h) (Or.inl ⟨by rfl, ?hy11⟩) (by assumption) ?rest11
  case hy11 => (intro wz hSw; (try dsimp only at hSw); go_simp; try with_reducible rfl)
  (try simp only [Act.put, List.setIfInBounds_toArray, List.set_cons_zero, List.set_cons_succ])
  refine wpAnyM_take (i := 10) (oi := { dst := some 9, op := Go.Op.assign (Go.Operand.tmp 19), type := 51, pos := "schema.go:46", after := #[{ on := 5, ground := Go.Ground.data }, { on := 9, ground := Go.Ground.chain }, { on := 0, ground := Go.Ground.phase }, { on := 1, ground := Go.Ground.phase }, { on := 2, ground := Go.Ground.phase }, { on := 3, ground := Go.Ground.phase }, { on := 4, ground := Go.Ground.phase }, { on := 5, ground := Go.Ground.phase }, { on := 6, ground := Go.Ground.textOnly Go.Departure.lateStores }, { on := 7, ground := Go.Ground.textOnly Go.Departure.lateStoresUnsure }, { on := 8, ground := Go.Ground.phase }, { on := 9, ground := Go.Ground.phase }], guard := none }) (v := ?v12) rfl (by kernel_rfl) (fun _ _ _ h => h) (Or.inl ⟨by rfl, ?hy12⟩) (by assumption) ?rest12
  case hy12 => (intro wz hSw; (try dsimp only at hSw); go_simp; try with_reducible rfl)
  (try simp only [Act.put, List.setIfInBounds_toArray, List.set_cons_zero, List.set_cons_succ])
  refine wpAnyM_take (i := 11) (oi := { dst := some 10, op := Go.Op.assign (Go.Operand.tmp 21), type := 51, pos := "schema.go:46", after := #[{ on := 7, ground := Go.Ground.data }, { on := 10, ground := Go.Ground.chain }, { on := 0, ground := Go.Ground.phase }, { on := 1, ground := Go.Ground.phase }, { on := 2, ground := Go.Ground.phase }, { on := 3, ground := Go.Ground.phase }, { on := 4, ground := Go.Ground.phase }, { on := 5, ground := Go.Ground.phase }, { on := 6, ground := Go.Ground.phase }, { on := 7, ground := Go.Ground.phase }, { on := 8, ground := Go.Ground.phase }, { on := 9, ground := Go.Ground.phase }, { on := 10, ground := Go.Ground.phase }], guard := none }) (v := ?v13) rfl (by kernel_rfl) (fun _ _ _ h => h) (Or.inl ⟨by rfl, ?hy13⟩) (by assumption) ?rest13
  case hy13 => (intro wz hSw; (try dsimp only at hSw); go_simp; try with_reducible rfl)
  (try simp only [Act.put, List.setIfInBounds_toArray, List.set_cons_zero, List.set_cons_succ])
  refine wpAnyM_done (by kernel_rfl) ?_ _
  obtain ⟨⟨x0, x1, x2⟩, -⟩ := slot3 (E4.out.block X0d.out)
  obtain ⟨⟨y0, y1, y2⟩, -⟩ := slot3 (E4.out.block X1d.out)
  have HE4 := hid (HEd.out.trans E4.out)
  go_upto_region 5 with fail
  clear x0 x1 x2 y0 y1 y2 KB X0d X1d HEd E1 E2 E3 E4
  go_loopw [43] (fun i wr => ∃ k : Nat, i = .int .i64 k ∧ k ≤ z ∧ Hid (Ext w wr)) (fun i _ => z - (intOf i).toNat)
  case atStart => exact ⟨0, rfl, Nat.zero_le _, HE4⟩
  case round =>
    obtain ⟨k, rfl, hk, HE⟩ := hrel
    by_cases hkz : k < z
    · obtain ⟨lb, lo, xb, xo, rel, a1, a2, a3, a4, a5, a6, a7, a8, a9, a10, a12, a13, a14, b1, b2, b3, b4, b5, b6, b7, b8, b9, b10, b12, b13, b14, rfl, rfl, hc, hd, hss, hra⟩ := HL.out k hkz
      have HSS := hid hss
      have HRA := hid hra
      have HC := hid hc
      have HD := hid hd
      have hi0 : (0 : Int) ≤ (k : Int) := by omega
      have hi1 : (k : Int) < (z : Int) := by omega
      clear hss hra hc hd
      go_upto_region 7 with fail
      have HEd := hid (HE.out.drew)
      have K7 := hid (show ∀ w' : World, Ext wr.drew w' → (fun w' : World => w'.cell? ⟨lb, lo + k * 8, none⟩ = some (.bool a1) ∧ w'.cell? ⟨lb, lo + k * 8 + 1, none⟩ = some (.string a2) ∧ w'.cell? ⟨lb, lo + k * 8 + 2, none⟩ = some (.string a3) ∧ w'.cell? ⟨lb, lo + k * 8 + 3, none⟩ = some (.slice a4 a5 a6) ∧ w'.cell? ⟨lb, lo + k * 8 + 4, none⟩ = some (.slice a7 a8 a9) ∧ w'.cell? ⟨lb, lo + k * 8 + 5, none⟩ = some (.string a10) ∧ w'.cell? ⟨lb, lo + k * 8 + 6, none⟩ = some (.string rel) ∧ w'.cell? ⟨lb, lo + k * 8 + 7, none⟩ = some (.slice a12 a13 a14) ∧ w'.cell? ⟨xb, xo + k * 8, none⟩ = some (.bool b1) ∧ w'.cell? ⟨xb, xo + k * 8 + 1, none⟩ = some (.string b2) ∧ w'.cell? ⟨xb, xo + k * 8 + 2, none⟩ = some (.string b3) ∧ w'.cell? ⟨xb, xo + k * 8 + 3, none⟩ = some (.slice b4 b5 b6) ∧ w'.cell? ⟨xb, xo + k * 8 + 4, none⟩ = some (.slice b7 b8 b9) ∧ w'.cell? ⟨xb, xo + k * 8 + 5, none⟩ = some (.string b10) ∧ w'.cell? ⟨xb, xo + k * 8 + 6, none⟩ = some (.string rel) ∧ w'.cell? ⟨xb, xo + k * 8 + 7, none⟩ = some (.slice b12 b13 b14)) w' from fun w' h => by
        obtain ⟨x0, x1, x2, x3, x4, x5, x6, x7⟩ := cells8 (cellsAt_ext (HEd.out.trans h) HC.out)
        obtain ⟨y0, y1, y2, y3, y4, y5, y6, y7⟩ := cells8 (cellsAt_ext (HEd.out.trans h) HD.out)
        exact ⟨x0, x1, x2, x3, x4, x5, x6, x7, y0, y1, y2, y3, y4, y5, y6, y7⟩)
      refine wp_region_late (fun w' : World => w'.cell? ⟨lb, lo + k * 8, none⟩ = some (.bool a1) ∧ w'.cell? ⟨lb, lo + k * 8 + 1, none⟩ = some (.string a2) ∧ w'.cell? ⟨lb, lo + k * 8 + 2, none⟩ = some (.string a3) ∧ w'.cell? ⟨lb, lo + k * 8 + 3, none⟩ = some (.slice a4 a5 a6) ∧ w'.cell? ⟨lb, lo + k * 8 + 4, none⟩ = some (.slice a7 a8 a9) ∧ w'.cell? ⟨lb, lo + k * 8 + 5, none⟩ = some (.string a10) ∧ w'.cell? ⟨lb, lo + k * 8 + 6, none⟩ = some (.string rel) ∧ w'.cell? ⟨lb, lo + k * 8 + 7, none⟩ = some (.slice a12 a13 a14) ∧ w'.cell? ⟨xb, xo + k * 8, none⟩ = some (.bool b1) ∧ w'.cell? ⟨xb, xo + k * 8 + 1, none⟩ = some (.string b2) ∧ w'.cell? ⟨xb, xo + k * 8 + 2, none⟩ = some (.string b3) ∧ w'.cell? ⟨xb, xo + k * 8 + 3, none⟩ = some (.slice b4 b5 b6) ∧ w'.cell? ⟨xb, xo + k * 8 + 4, none⟩ = some (.slice b7 b8 b9) ∧ w'.cell? ⟨xb, xo + k * 8 + 5, none⟩ = some (.string b10) ∧ w'.cell? ⟨xb, xo + k * 8 + 6, none⟩ = some (.string rel) ∧ w'.cell? ⟨xb, xo + k * 8 + 7, none⟩ = some (.slice b12 b13 b14)) [] (by kernel_rfl) ?hS14 (fun hHeld => ?_)
      case hS14 => (exact K7.out _ (Ext.refl _))
      generalize wr.drew = wq at *
      change wpAnyM _ _ _ _ _ _ 40 #[false, false, false, false, false, false, false, false, false, false, false, false, false, false, false, false, false, false, false, false, false, false, false, false, false, false, false, false, false, false, false, false, false, false, false, false, false, false, false, false] _ _
      refine wpAnyM_take (i := 0) (oi := { dst := some 46, op := Go.Op.move (Go.Operand.tmp 7), type := 50, pos := "schema.go:51", after := #[], guard := none }) (v := ?v15) rfl (by kernel_rfl) (fun _ _ _ h => h) (Or.inl ⟨by rfl, ?hy15⟩) (by assumption) ?rest15
      case hy15 => (intro wz hSw; (try dsimp only at hSw); go_simp; try with_reducible rfl)
      (try simp only [Act.put, List.setIfInBounds_toArray, List.set_cons_zero, List.set_cons_succ])
      refine wpAnyM_take (i := 1) (oi := { dst := some 47, op := Go.Op.move (Go.Operand.tmp 11), type := 3, pos := "schema.go:51", after := #[], guard := none }) (v := ?v16) rfl (by kernel_rfl) (fun _ _ _ h => h) (Or.inl ⟨by rfl, ?hy16⟩) (by assumption) ?rest16
      case hy16 => (intro wz hSw; (try dsimp only at hSw); go_simp; try with_reducible rfl)
      (try simp only [Act.put, List.setIfInBounds_toArray, List.set_cons_zero, List.set_cons_succ])
      refine wpAnyM_take (i := 2) (oi := { dst := some 48, op := Go.Op.indexAddr 50 (Go.Operand.tmp 46) (Go.Operand.tmp 47), type := 0, pos := "schema.go:51", after := #[{ on := 0, ground := Go.Ground.data }, { on := 1, ground := Go.Ground.data }], guard := none }) (v := ?v17) rfl (by kernel_rfl) (fun _ _ _ h => h) (Or.inl ⟨by rfl, ?hy17⟩) (by assumption) ?rest17
      case hy17 => (intro wz hSw; (try dsimp only at hSw); go_simp; try with_reducible rfl)
      (try simp only [Act.put, List.setIfInBounds_toArray, List.set_cons_zero, List.set_cons_succ])
      refine wpAnyM_take (i := 3) (oi := { dst := some 49, op := Go.Op.fieldAddr 57 (Go.Operand.tmp 48) 1, type := 0, pos := "schema.go:51", after := #[{ on := 2, ground := Go.Ground.data }], guard := none }) (v := ?v18) rfl (by kernel_rfl) (fun _ _ _ h => h) (Or.inl ⟨by rfl, ?hy18⟩) (by assumption) ?rest18
      case hy18 => (intro wz hSw; (try dsimp only at hSw); go_simp; try with_reducible rfl)
      (try simp only [Act.put, List.setIfInBounds_toArray, List.set_cons_zero, List.set_cons_succ])
      refine wpAnyM_take (i := 4) (oi := { dst := some 50, op := Go.Op.load 9 (Go.Operand.tmp 49), type := 9, pos := "schema.go:51", after := #[{ on := 3, ground := Go.Ground.data }], guard := none }) (v := ?v19) rfl (by kernel_rfl) (fun _ _ _ h => h) (Or.inl ⟨by rfl, ?hy19⟩) (by assumption) ?rest19
      case hy19 => (intro wz hSw; (try dsimp only at hSw); go_simp; try with_reducible rfl)
      (try simp only [Act.put, List.setIfInBounds_toArray, List.set_cons_zero, List.set_cons_succ])
      refine wpAnyM_take (i := 5) (oi := { dst := some 51, op := Go.Op.move (Go.Operand.tmp 8), type := 50, pos := "schema.go:51", after := #[], guard := none }) (v := ?v20) rfl (by kernel_rfl) (fun _ _ _ h => h) (Or.inl ⟨by rfl, ?hy20⟩) (by assumption) ?rest20
      case hy20 => (intro wz hSw; (try dsimp only at hSw); go_simp; try with_reducible rfl)
      (try simp only [Act.put, List.setIfInBounds_toArray, List.set_cons_zero, List.set_cons_succ])
      refine wpAnyM_take (i := 6) (oi := { dst := some 52, op := Go.Op.move (Go.Operand.tmp 11), type := 3, pos := "schema.go:51", after := #[], guard := none }) (v := ?v21) rfl (by kernel_rfl) (fun _ _ _ h => h) (Or.inl ⟨by rfl, ?hy21⟩) (by assumption) ?rest21
      case hy21 => (intro wz hSw; (try dsimp only at hSw); go_simp; try with_reducible rfl)
      (try simp only [Act.put, List.setIfInBounds_toArray, List.set_cons_zero, List.set_cons_succ])
      refine wpAnyM_take (i := 7) (oi := { dst := some 53, op := Go.Op.indexAddr 50 (Go.Operand.tmp 51) (Go.Operand.tmp 52), type := 0, pos := "schema.go:51", after := #[{ on := 5, ground := Go.Ground.data }, { on := 6, ground := Go.Ground.data }], guard := none }) (v := ?v22) rfl (by kernel_rfl) (fun _ _ _ h => h) (Or.inl ⟨by rfl, ?hy22⟩) (by assumption) ?rest22
      case hy22 => (intro wz hSw; (try dsimp only at hSw); go_simp; try with_reducible rfl)
      (try simp only [Act.put, List.setIfInBounds_toArray, List.set_cons_zero, List.set_cons_succ])
      refine wpAnyM_take (i := 8) (oi := { dst := some 54, op := Go.Op.fieldAddr 57 (Go.Operand.tmp 53) 1, type := 0, pos := "schema.go:51", after := #[{ on := 7, ground := Go.Ground.data }], guard := none }) (v := ?v23) rfl (by kernel_rfl) (fun _ _ _ h => h) (Or.inl ⟨by rfl, ?hy23⟩) (by assumption) ?rest23
      case hy23 => (intro wz hSw; (try dsimp only at hSw); go_simp; try with_reducible rfl)
      (try simp only [Act.put, List.setIfInBounds_toArray, List.set_cons_zero, List.set_cons_succ])
      refine wpAnyM_take (i := 9) (oi := { dst := some 55, op := Go.Op.load 9 (Go.Operand.tmp 54), type := 9, pos := "schema.go:51", after := #[{ on := 8, ground := Go.Ground.data }], guard := none }) (v := ?v24) rfl (by kernel_rfl) (fun _ _ _ h => h) (Or.inl ⟨by rfl, ?hy24⟩) (by assumption) ?rest24
      case hy24 => (intro wz hSw; (try dsimp only at hSw); go_simp; try with_reducible rfl)
      (try simp only [Act.put, List.setIfInBounds_toArray, List.set_cons_zero, List.set_cons_succ])
      refine wpAnyM_take (i := 10) (oi := { dst := some 56, op := Go.Op.binOp Go.BinOp.neq 9 (Go.Operand.tmp 50) (Go.Operand.tmp 55) 9, type := 4, pos := "schema.go:51", after := #[{ on := 4, ground := Go.Ground.data }, { on := 9, ground := Go.Ground.data }], guard := none }) (v := ?v25) rfl (by kernel_rfl) (fun _ _ _ h => h) (Or.inl ⟨by rfl, ?hy25⟩) (by assumption) ?rest25
      case hy25 => (intro wz hSw; (try dsimp only at hSw); go_simp; try with_reducible rfl)
      (try simp only [Act.put, List.setIfInBounds_toArray, List.set_cons_zero, List.set_cons_succ])
      refine wpAnyM_take (i := 11) (oi := { dst := some 57, op := Go.Op.move (Go.Operand.tmp 56), type := 4, pos := "schema.go:51", after := #[{ on := 10, ground := Go.Ground.data }], guard := none }) (v := ?v26) rfl (by kernel_rfl) (fun _ _ _ h => h) (Or.inl ⟨by rfl, ?hy26⟩) (by assumption) ?rest26
      case hy26 => (intro wz hSw; (try dsimp only at hSw); go_simp; try with_reducible rfl)
      (try simp only [Act.put, List.setIfInBounds_toArray, List.set_cons_zero, List.set_cons_succ])
      refine wpAnyM_take (i := 12) (oi := { dst := some 58, op := Go.Op.move (Go.Operand.tmp 7), type := 50, pos := "schema.go:51", after := #[{ on := 11, ground := Go.Ground.guard }], guard := some (11, false) }) (v := ?v27) rfl (by kernel_rfl) (fun _ _ _ h => h) (Or.inl ⟨by rfl, ?hy27⟩) (by assumption) ?rest27
      case hy27 => (intro wz hSw; (try dsimp only at hSw); go_simp; try with_reducible rfl)
      (try simp only [Act.put, List.setIfInBounds_toArray, List.set_cons_zero, List.set_cons_succ])
      refine wpAnyM_take (i := 13) (oi := { dst := some 59, op := Go.Op.move (Go.Operand.tmp 11), type := 3, pos := "schema.go:51", after := #[{ on := 11, ground := Go.Ground.guard }], guard := some (11, false) }) (v := ?v28) rfl (by kernel_rfl) (fun _ _ _ h => h) (Or.inl ⟨by rfl, ?hy28⟩) (by assumption) ?rest28
      case hy28 => (intro wz hSw; (try dsimp only at hSw); go_simp; try with_reducible rfl)
      (try simp only [Act.put, List.setIfInBounds_toArray, List.set_cons_zero, List.set_cons_succ])
      refine wpAnyM_take (i := 14) (oi := { dst := some 60, op := Go.Op.indexAddr 50 (Go.Operand.tmp 58) (Go.Operand.tmp 59), type := 0, pos := "schema.go:51", after := #[{ on := 12, ground := Go.Ground.data }, { on := 13, ground := Go.Ground.data }, { on := 11, ground := Go.Ground.guard }], guard := some (11, false) }) (v := ?v29) rfl (by kernel_rfl) (fun _ _ _ h => h) (Or.inl ⟨by rfl, ?hy29⟩) (by assumption) ?rest29
      case hy29 => (intro wz hSw; (try dsimp only at hSw); go_simp; try with_reducible rfl)
      (try simp only [Act.put, List.setIfInBounds_toArray, List.set_cons_zero, List.set_cons_succ])
      refine wpAnyM_take (i := 15) (oi := { dst := some 61, op := Go.Op.fieldAddr 57 (Go.Operand.tmp 60) 2, type := 0, pos := "schema.go:51", after := #[{ on := 14, ground := Go.Ground.data }, { on := 11, ground := Go.Ground.guard }], guard := some (11, false) }) (v := ?v30) rfl (by kernel_rfl) (fun _ _ _ h => h) (Or.inl ⟨by rfl, ?hy30⟩) (by assumption) ?rest30
      case hy30 => (intro wz hSw; (try dsimp only at hSw); go_simp; try with_reducible rfl)
      (try simp only [Act.put, List.setIfInBounds_toArray, List.set_cons_zero, List.set_cons_succ])
      refine wpAnyM_take (i := 16) (oi := { dst := some 62, op := Go.Op.load 26 (Go.Operand.tmp 61), type := 26, pos := "schema.go:51", after := #[{ on := 15, ground := Go.Ground.data }, { on := 11, ground := Go.Ground.guard }], guard := some (11, false) }) (v := ?v31) rfl (by kernel_rfl) (fun _ _ _ h => h) (Or.inl ⟨by rfl, ?hy31⟩) (by assumption) ?rest31
      case hy31 => (intro wz hSw; (try dsimp only at hSw); go_simp; try with_reducible rfl)
      (try simp only [Act.put, List.setIfInBounds_toArray, List.set_cons_zero, List.set_cons_succ])
      refine wpAnyM_take (i := 17) (oi := { dst := some 63, op := Go.Op.move (Go.Operand.tmp 8), type := 50, pos := "schema.go:51", after := #[{ on := 11, ground := Go.Ground.guard }], guard := some (11, false) }) (v := ?v32) rfl (by kernel_rfl) (fun _ _ _ h => h) (Or.inl ⟨by rfl, ?hy32⟩) (by assumption) ?rest32
      case hy32 => (intro wz hSw; (try dsimp only at hSw); go_simp; try with_reducible rfl)
      (try simp only [Act.put, List.setIfInBounds_toArray, List.set_cons_zero, List.set_cons_succ])
      refine wpAnyM_take (i := 18) (oi := { dst := some 64, op := Go.Op.move (Go.Operand.tmp 11), type := 3, pos := "schema.go:51", after := #[{ on := 11, ground := Go.Ground.guard }], guard := some (11, false) }) (v := ?v33) rfl (by kernel_rfl) (fun _ _ _ h => h) (Or.inl ⟨by rfl, ?hy33⟩) (by assumption) ?rest33
      case hy33 => (intro wz hSw; (try dsimp only at hSw); go_simp; try with_reducible rfl)
      (try simp only [Act.put, List.setIfInBounds_toArray, List.set_cons_zero, List.set_cons_succ])
      refine wpAnyM_take (i := 19) (oi := { dst := some 65, op := Go.Op.indexAddr 50 (Go.Operand.tmp 63) (Go.Operand.tmp 64), type := 0, pos := "schema.go:51", after := #[{ on := 17, ground := Go.Ground.data }, { on := 18, ground := Go.Ground.data }, { on := 11, ground := Go.Ground.guard }], guard := some (11, false) }) (v := ?v34) rfl (by kernel_rfl) (fun _ _ _ h => h) (Or.inl ⟨by rfl, ?hy34⟩) (by assumption) ?rest34
      case hy34 => (intro wz hSw; (try dsimp only at hSw); go_simp; try with_reducible rfl)
      (try simp only [Act.put, List.setIfInBounds_toArray, List.set_cons_zero, List.set_cons_succ])
      refine wpAnyM_take (i := 20) (oi := { dst := some 66, op := Go.Op.fieldAddr 57 (Go.Operand.tmp 65) 2, type := 0, pos := "schema.go:51", after := #[{ on := 19, ground := Go.Ground.data }, { on := 11, ground := Go.Ground.guard }], guard := some (11, false) }) (v := ?v35) rfl (by kernel_rfl) (fun _ _ _ h => h) (Or.inl ⟨by rfl, ?hy35⟩) (by assumption) ?rest35
      case hy35 => (intro wz hSw; (try dsimp only at hSw); go_simp; try with_reducible rfl)
      (try simp only [Act.put, List.setIfInBounds_toArray, List.set_cons_zero, List.set_cons_succ])
      refine wpAnyM_take (i := 21) (oi := { dst := some 67, op := Go.Op.load 26 (Go.Operand.tmp 66), type := 26, pos := "schema.go:51", after := #[{ on := 20, ground := Go.Ground.data }, { on := 11, ground := Go.Ground.guard }], guard := some (11, false) }) (v := ?v36) rfl (by kernel_rfl) (fun _ _ _ h => h) (Or.inl ⟨by rfl, ?hy36⟩) (by assumption) ?rest36
      case hy36 => (intro wz hSw; (try dsimp only at hSw); go_simp; try with_reducible rfl)
      (try simp only [Act.put, List.setIfInBounds_toArray, List.set_cons_zero, List.set_cons_succ])
      refine wpAnyM_ready (rs := [22]) (by kernel_rfl) (by simp) ?_
      refine AllReadyM.cons (o := { dst := some 68, op := Go.Op.call { callee := Go.Callee.value (Go.Operand.func 87), args := #[Go.Operand.tmp 62, Go.Operand.tmp 67], argTypes := #[26, 26] }, type := 4, pos := "schema.go:51", after := #[{ on := 16, ground := Go.Ground.data }, { on := 21, ground := Go.Ground.data }, { on := 11, ground := Go.Ground.chain }, { on := 11, ground := Go.Ground.guard }], guard := some (11, false) }) rfl (fun K hK => ?_) AllReadyM.nil
      refine step_callW' _ (by rfl) 87 [.tmp 62, .tmp 67] #[26, 26] rfl (by kernel_rfl) [_, _] rfl (HSS.out _ HEd.out) ?_
      rintro en w6 ⟨rfl, hE⟩
      refine ⟨_, rfl, ?_⟩
      have HE6 := hid (HEd.out.trans hE)
      have F6 := hid hE
      clear hE
      refine hK.out _ _ ?hS37 (fun hHeld => ?_)
      case hS37 => (exact K7.out _ F6.out)
      clear hK K
      (try simp only [Act.put, List.setIfInBounds_toArray, List.set_cons_zero, List.set_cons_succ])
      refine wpAnyM_take (i := 23) (oi := { dst := some 69, op := Go.Op.unOp Go.UnOp.not 4 (Go.Operand.tmp 68), type := 4, pos := "schema.go:51", after := #[{ on := 22, ground := Go.Ground.data }, { on := 11, ground := Go.Ground.guard }], guard := some (11, false) }) (v := ?v38) rfl (by kernel_rfl) (fun _ _ _ h => h) (Or.inl ⟨by rfl, ?hy38⟩) (by assumption) ?rest38
      case hy38 => (intro wz hSw; (try dsimp only at hSw); go_simp; try with_reducible rfl)
      (try simp only [Act.put, List.setIfInBounds_toArray, List.set_cons_zero, List.set_cons_succ])
      refine wpAnyM_take (i := 24) (oi := { dst := some 70, op := Go.Op.pick (Go.Operand.tmp 57) (Go.Operand.const (Go.Value.bool true)) (Go.Operand.tmp 69), type := 4, pos := "schema.go:51", after := #[{ on := 11, ground := Go.Ground.data }, { on := 23, ground := Go.Ground.data }], guard := none }) (v := ?v39) rfl (by kernel_rfl) (fun _ _ _ h => h) (Or.inl ⟨by rfl, ?hy39⟩) (by assumption) ?rest39
      case hy39 => (intro wz hSw; (try dsimp only at hSw); go_simp; try with_reducible rfl)
      (try simp only [Act.put, List.setIfInBounds_toArray, List.set_cons_zero, List.set_cons_succ])
      refine wpAnyM_take (i := 25) (oi := { dst := some 71, op := Go.Op.move (Go.Operand.tmp 70), type := 4, pos := "schema.go:51", after := #[{ on := 24, ground := Go.Ground.data }, { on := 22, ground := Go.Ground.chain }], guard := none }) (v := ?v40) rfl (by kernel_rfl) (fun _ _ _ h => h) (Or.inl ⟨by rfl, ?hy40⟩) (by assumption) ?rest40
      case hy40 => (intro wz hSw; (try dsimp only at hSw); go_simp; try with_reducible rfl)
      (try simp only [Act.put, List.setIfInBounds_toArray, List.set_cons_zero, List.set_cons_succ])
      refine wpAnyM_take (i := 26) (oi := { dst := some 72, op := Go.Op.move (Go.Operand.tmp 7), type := 50, pos := "schema.go:51", after := #[{ on := 25, ground := Go.Ground.guard }], guard := some (25, false) }) (v := ?v41) rfl (by kernel_rfl) (fun _ _ _ h => h) (Or.inl ⟨by rfl, ?hy41⟩) (by assumption) ?rest41
      case hy41 => (intro wz hSw; (try dsimp only at hSw); go_simp; try with_reducible rfl)
      (try simp only [Act.put, List.setIfInBounds_toArray, List.set_cons_zero, List.set_cons_succ])
      refine wpAnyM_take (i := 27) (oi := { dst := some 73, op := Go.Op.move (Go.Operand.tmp 11), type := 3, pos := "schema.go:51", after := #[{ on := 25, ground := Go.Ground.guard }], guard := some (25, false) }) (v := ?v42) rfl (by kernel_rfl) (fun _ _ _ h => h) (Or.inl ⟨by rfl, ?hy42⟩) (by assumption) ?rest42
      case hy42 => (intro wz hSw; (try dsimp only at hSw); go_simp; try with_reducible rfl)
      (try simp only [Act.put, List.setIfInBounds_toArray, List.set_cons_zero, List.set_cons_succ])
      refine wpAnyM_take (i := 28) (oi := { dst := some 74, op := Go.Op.indexAddr 50 (Go.Operand.tmp 72) (Go.Operand.tmp 73), type := 0, pos := "schema.go:51", after := #[{ on := 26, ground := Go.Ground.data }, { on := 27, ground := Go.Ground.data }, { on := 25, ground := Go.Ground.guard }], guard := some (25, false) }) (v := ?v43) rfl (by kernel_rfl) (fun _ _ _ h => h) (Or.inl ⟨by rfl, ?hy43⟩) (by assumption) ?rest43
      case hy43 => (intro wz hSw; (try dsimp only at hSw); go_simp; try with_reducible rfl)
      (try simp only [Act.put, List.setIfInBounds_toArray, List.set_cons_zero, List.set_cons_succ])
      refine wpAnyM_take (i := 29) (oi := { dst := some 75, op := Go.Op.fieldAddr 57 (Go.Operand.tmp 74) 0, type := 0, pos := "schema.go:51", after := #[{ on := 28, ground := Go.Ground.data }, { on := 25, ground := Go.Ground.guard }], guard := some (25, false) }) (v := ?v44) rfl (by kernel_rfl) (fun _ _ _ h => h) (Or.inl ⟨by rfl, ?hy44⟩) (by assumption) ?rest44
      case hy44 => (intro wz hSw; (try dsimp only at hSw); go_simp; try with_reducible rfl)
      (try simp only [Act.put, List.setIfInBounds_toArray, List.set_cons_zero, List.set_cons_succ])
      refine wpAnyM_take (i := 30) (oi := { dst := some 76, op := Go.Op.load 55 (Go.Operand.tmp 75), type := 55, pos := "schema.go:51", after := #[{ on := 29, ground := Go.Ground.data }, { on := 25, ground := Go.Ground.guard }], guard := some (25, false) }) (v := ?v45) rfl (by kernel_rfl) (fun _ _ _ h => h) (Or.inl ⟨by rfl, ?hy45⟩) (by assumption) ?rest45
      case hy45 => (intro wz hSw; (try dsimp only at hSw); go_simp; try with_reducible rfl)
      (try simp only [Act.put, List.setIfInBounds_toArray, List.set_cons_zero, List.set_cons_succ])
      refine wpAnyM_take (i := 31) (oi := { dst := some 77, op := Go.Op.move (Go.Operand.tmp 8), type := 50, pos := "schema.go:51", after := #[{ on := 25, ground := Go.Ground.guard }], guard := some (25, false) }) (v := ?v46) rfl (by kernel_rfl) (fun _ _ _ h => h) (Or.inl ⟨by rfl, ?hy46⟩) (by assumption) ?rest46
      case hy46 => (intro wz hSw; (try dsimp only at hSw); go_simp; try with_reducible rfl)
      (try simp only [Act.put, List.setIfInBounds_toArray, List.set_cons_zero, List.set_cons_succ])
      refine wpAnyM_take (i := 32) (oi := { dst := some 78, op := Go.Op.move (Go.Operand.tmp 11), type := 3, pos := "schema.go:51", after := #[{ on := 25, ground := Go.Ground.guard }], guard := some (25, false) }) (v := ?v47) rfl (by kernel_rfl) (fun _ _ _ h => h) (Or.inl ⟨by rfl, ?hy47⟩) (by assumption) ?rest47
      case hy47 => (intro wz hSw; (try dsimp only at hSw); go_simp; try with_reducible rfl)
      (try simp only [Act.put, List.setIfInBounds_toArray, List.set_cons_zero, List.set_cons_succ])
      refine wpAnyM_take (i := 33) (oi := { dst := some 79, op := Go.Op.indexAddr 50 (Go.Operand.tmp 77) (Go.Operand.tmp 78), type := 0, pos := "schema.go:51", after := #[{ on := 31, ground := Go.Ground.data }, { on := 32, ground := Go.Ground.data }, { on := 25, ground := Go.Ground.guard }], guard := some (25, false) }) (v := ?v48) rfl (by kernel_rfl) (fun _ _ _ h => h) (Or.inl ⟨by rfl, ?hy48⟩) (by assumption) ?rest48
      case hy48 => (intro wz hSw; (try dsimp only at hSw); go_simp; try with_reducible rfl)
      (try simp only [Act.put, List.setIfInBounds_toArray, List.set_cons_zero, List.set_cons_succ])
      refine wpAnyM_take (i := 34) (oi := { dst := some 80, op := Go.Op.fieldAddr 57 (Go.Operand.tmp 79) 0, type := 0, pos := "schema.go:51", after := #[{ on := 33, ground := Go.Ground.data }, { on := 25, ground := Go.Ground.guard }], guard := some (25, false) }) (v := ?v49) rfl (by kernel_rfl) (fun _ _ _ h => h) (Or.inl ⟨by rfl, ?hy49⟩) (by assumption) ?rest49
      case hy49 => (intro wz hSw; (try dsimp only at hSw); go_simp; try with_reducible rfl)
      (try simp only [Act.put, List.setIfInBounds_toArray, List.set_cons_zero, List.set_cons_succ])
      refine wpAnyM_take (i := 35) (oi := { dst := some 81, op := Go.Op.load 55 (Go.Operand.tmp 80), type := 55, pos := "schema.go:51", after := #[{ on := 34, ground := Go.Ground.data }, { on := 25, ground := Go.Ground.guard }], guard := some (25, false) }) (v := ?v50) rfl (by kernel_rfl) (fun _ _ _ h => h) (Or.inl ⟨by rfl, ?hy50⟩) (by assumption) ?rest50
      case hy50 => (intro wz hSw; (try dsimp only at hSw); go_simp; try with_reducible rfl)
      (try simp only [Act.put, List.setIfInBounds_toArray, List.set_cons_zero, List.set_cons_succ])
      refine wpAnyM_take (i := 36) (oi := { dst := some 82, op := Go.Op.move (Go.Operand.tmp 2), type := 47, pos := "schema.go:51", after := #[{ on := 25, ground := Go.Ground.guard }], guard := some (25, false) }) (v := ?v51) rfl (by kernel_rfl) (fun _ _ _ h => h) (Or.inl ⟨by rfl, ?hy51⟩) (by assumption) ?rest51
      case hy51 => (intro wz hSw; (try dsimp only at hSw); go_simp; try with_reducible rfl)
      (try simp only [Act.put, List.setIfInBounds_toArray, List.set_cons_zero, List.set_cons_succ])
      refine wpAnyM_ready (rs := [37]) (by kernel_rfl) (by simp) ?_
      refine AllReadyM.cons (o := { dst := some 83, op := Go.Op.call { callee := Go.Callee.value (Go.Operand.func 88), args := #[Go.Operand.tmp 76, Go.Operand.tmp 81, Go.Operand.tmp 82], argTypes := #[55, 55, 47] }, type := 4, pos := "schema.go:51", after := #[{ on := 30, ground := Go.Ground.data }, { on := 35, ground := Go.Ground.data }, { on := 36, ground := Go.Ground.data }, { on := 25, ground := Go.Ground.chain }, { on := 25, ground := Go.Ground.guard }], guard := some (25, false) }) rfl (fun K hK => ?_) AllReadyM.nil
      refine step_callW' _ (by rfl) 88 [.tmp 76, .tmp 81, .tmp 82] #[55, 55, 47] rfl (by kernel_rfl) [_, _, _] rfl (HRA.out _ HE6.out) ?_
      rintro en w7 ⟨rfl, hE⟩
      refine ⟨_, rfl, ?_⟩
      have HE7 := hid (HE6.out.trans hE)
      have F7 := hid (F6.out.trans hE)
      clear hE
      refine hK.out _ _ ?hS52 (fun hHeld => ?_)
      case hS52 => (exact K7.out _ F7.out)
      clear hK K
      (try simp only [Act.put, List.setIfInBounds_toArray, List.set_cons_zero, List.set_cons_succ])
      refine wpAnyM_take (i := 38) (oi := { dst := some 84, op := Go.Op.unOp Go.UnOp.not 4 (Go.Operand.tmp 83), type := 4, pos := "schema.go:51", after := #[{ on := 37, ground := Go.Ground.data }, { on := 25, ground := Go.Ground.guard }], guard := some (25, false) }) (v := ?v53) rfl (by kernel_rfl) (fun _ _ _ h => h) (Or.inl ⟨by rfl, ?hy53⟩) (by assumption) ?rest53
      case hy53 => (intro wz hSw; (try dsimp only at hSw); go_simp; try with_reducible rfl)
      (try simp only [Act.put, List.setIfInBounds_toArray, List.set_cons_zero, List.set_cons_succ])
      refine wpAnyM_take (i := 39) (oi := { dst := some 85, op := Go.Op.pick (Go.Operand.tmp 71) (Go.Operand.const (Go.Value.bool true)) (Go.Operand.tmp 84), type := 4, pos := "schema.go:51", after := #[{ on := 25, ground := Go.Ground.data }, { on := 38, ground := Go.Ground.data }], guard := none }) (v := ?v54) rfl (by kernel_rfl) (fun _ _ _ h => h) (Or.inl ⟨by rfl, ?hy54⟩) (by assumption) ?rest54
      case hy54 => (intro wz hSw; (try dsimp only at hSw); go_simp; try with_reducible rfl)
      (try simp only [Act.put, List.setIfInBounds_toArray, List.set_cons_zero, List.set_cons_succ])
      refine wpAnyM_done (by kernel_rfl) ?_ _
      go_wp2_with fail
      exact ⟨⟨k + 1, by go_num, by omega, HE7⟩, by simp [intOf]; omega⟩
    · go_upto_region 11 with fail
      have HE5 := hid HE.out
      clear HE
      go_loopw [89] (fun i wr => ∃ k : Nat, i = .int .i64 k ∧ k ≤ zm ∧ Hid (Ext w wr)) (fun i _ => zm - (intOf i).toNat)
      case atStart => exact ⟨0, rfl, Nat.zero_le _, HE5⟩
      case round =>
        clear HE5
        obtain ⟨k, rfl, hk, HE⟩ := hrel
        by_cases hkz : k < zm
        · obtain ⟨mb, mo, yb, yo, rel, nf, a1, a2, a3, a4, a5, a6, a7, a8, a9, a10, a12, a14, b1, b2, b3, b4, b5, b6, b7, b8, b9, b10, b12, b14, rfl, rfl, hc, hd, hnf, hra, hfs⟩ := HM.out k hkz
          have HRA := hid hra
          have HFS := hid hfs
          have HC := hid hc
          have HD := hid hd
          have hi0 : (0 : Int) ≤ (k : Int) := by omega
          have hi1 : (k : Int) < (zm : Int) := by omega
          clear hra hc hd hfs
          go_upto_region 13 with fail
          have HEd := hid (HE.out.drew)
          have K7 := hid (show ∀ w' : World, Ext wr.drew w' → (fun w' : World => w'.cell? ⟨mb, mo + k * 8, none⟩ = some (.slice a12 nf a14) ∧ w'.cell? ⟨mb, mo + k * 8 + 1, none⟩ = some (.bool a1) ∧ w'.cell? ⟨mb, mo + k * 8 + 2, none⟩ = some (.string a2) ∧ w'.cell? ⟨mb, mo + k * 8 + 3, none⟩ = some (.string a3) ∧ w'.cell? ⟨mb, mo + k * 8 + 4, none⟩ = some (.slice a4 a5 a6) ∧ w'.cell? ⟨mb, mo + k * 8 + 5, none⟩ = some (.slice a7 a8 a9) ∧ w'.cell? ⟨mb, mo + k * 8 + 6, none⟩ = some (.string a10) ∧ w'.cell? ⟨mb, mo + k * 8 + 7, none⟩ = some (.string rel) ∧ w'.cell? ⟨yb, yo + k * 8, none⟩ = some (.slice b12 nf b14) ∧ w'.cell? ⟨yb, yo + k * 8 + 1, none⟩ = some (.bool b1) ∧ w'.cell? ⟨yb, yo + k * 8 + 2, none⟩ = some (.string b2) ∧ w'.cell? ⟨yb, yo + k * 8 + 3, none⟩ = some (.string b3) ∧ w'.cell? ⟨yb, yo + k * 8 + 4, none⟩ = some (.slice b4 b5 b6) ∧ w'.cell? ⟨yb, yo + k * 8 + 5, none⟩ = some (.slice b7 b8 b9) ∧ w'.cell? ⟨yb, yo + k * 8 + 6, none⟩ = some (.string b10) ∧ w'.cell? ⟨yb, yo + k * 8 + 7, none⟩ = some (.string rel)) w' from fun w' h => by
            obtain ⟨x0, x1, x2, x3, x4, x5, x6, x7⟩ := cells8 (cellsAt_ext (HEd.out.trans h) HC.out)
            obtain ⟨y0, y1, y2, y3, y4, y5, y6, y7⟩ := cells8 (cellsAt_ext (HEd.out.trans h) HD.out)
            exact ⟨x0, x1, x2, x3, x4, x5, x6, x7, y0, y1, y2, y3, y4, y5, y6, y7⟩)
          refine wp_region_late (fun w' : World => w'.cell? ⟨mb, mo + k * 8, none⟩ = some (.slice a12 nf a14) ∧ w'.cell? ⟨mb, mo + k * 8 + 1, none⟩ = some (.bool a1) ∧ w'.cell? ⟨mb, mo + k * 8 + 2, none⟩ = some (.string a2) ∧ w'.cell? ⟨mb, mo + k * 8 + 3, none⟩ = some (.string a3) ∧ w'.cell? ⟨mb, mo + k * 8 + 4, none⟩ = some (.slice a4 a5 a6) ∧ w'.cell? ⟨mb, mo + k * 8 + 5, none⟩ = some (.slice a7 a8 a9) ∧ w'.cell? ⟨mb, mo + k * 8 + 6, none⟩ = some (.string a10) ∧ w'.cell? ⟨mb, mo + k * 8 + 7, none⟩ = some (.string rel) ∧ w'.cell? ⟨yb, yo + k * 8, none⟩ = some (.slice b12 nf b14) ∧ w'.cell? ⟨yb, yo + k * 8 + 1, none⟩ = some (.bool b1) ∧ w'.cell? ⟨yb, yo + k * 8 + 2, none⟩ = some (.string b2) ∧ w'.cell? ⟨yb, yo + k * 8 + 3, none⟩ = some (.string b3) ∧ w'.cell? ⟨yb, yo + k * 8 + 4, none⟩ = some (.slice b4 b5 b6) ∧ w'.cell? ⟨yb, yo + k * 8 + 5, none⟩ = some (.slice b7 b8 b9) ∧ w'.cell? ⟨yb, yo + k * 8 + 6, none⟩ = some (.string b10) ∧ w'.cell? ⟨yb, yo + k * 8 + 7, none⟩ = some (.string rel)) [] (by kernel_rfl) ?hS55 (fun hHeld => ?_)
          case hS55 => (exact K7.out _ (Ext.refl _))
          generalize wr.drew = wq at *
          change wpAnyM _ _ _ _ _ _ 41 #[false, false, false, false, false, false, false, false, false, false, false, false, false, false, false, false, false, false, false, false, false, false, false, false, false, false, false, false, false, false, false, false, false, false, false, false, false, false, false, false, false] _ _
          refine wpAnyM_take (i := 0) (oi := { dst := some 92, op := Go.Op.move (Go.Operand.tmp 9), type := 51, pos := "schema.go:56", after := #[], guard := none }) (v := ?v56) rfl (by kernel_rfl) (fun _ _ _ h => h) (Or.inl ⟨by rfl, ?hy56⟩) (by assumption) ?rest56
          case hy56 => (intro wz hSw; (try dsimp only at hSw); go_simp; try with_reducible rfl)
          (try simp only [Act.put, List.setIfInBounds_toArray, List.set_cons_zero, List.set_cons_succ])
          refine wpAnyM_take (i := 1) (oi := { dst := some 93, op := Go.Op.move (Go.Operand.tmp 12), type := 3, pos := "schema.go:56", after := #[], guard := none }) (v := ?v57) rfl (by kernel_rfl) (fun _ _ _ h => h) (Or.inl ⟨by rfl, ?hy57⟩) (by assumption) ?rest57
          case hy57 => (intro wz hSw; (try dsimp only at hSw); go_simp; try with_reducible rfl)
          (try simp only [Act.put, List.setIfInBounds_toArray, List.set_cons_zero, List.set_cons_succ])
          refine wpAnyM_take (i := 2) (oi := { dst := some 94, op := Go.Op.indexAddr 51 (Go.Operand.tmp 92) (Go.Operand.tmp 93), type := 0, pos := "schema.go:56", after := #[{ on := 0, ground := Go.Ground.data }, { on := 1, ground := Go.Ground.data }], guard := none }) (v := ?v58) rfl (by kernel_rfl) (fun _ _ _ h => h) (Or.inl ⟨by rfl, ?hy58⟩) (by assumption) ?rest58
          case hy58 => (intro wz hSw; (try dsimp only at hSw); go_simp; try with_reducible rfl)
          (try simp only [Act.put, List.setIfInBounds_toArray, List.set_cons_zero, List.set_cons_succ])
          refine wpAnyM_take (i := 3) (oi := { dst := some 95, op := Go.Op.fieldAddr 153 (Go.Operand.tmp 94) 2, type := 0, pos := "schema.go:56", after := #[{ on := 2, ground := Go.Ground.data }], guard := none }) (v := ?v59) rfl (by kernel_rfl) (fun _ _ _ h => h) (Or.inl ⟨by rfl, ?hy59⟩) (by assumption) ?rest59
          case hy59 => (intro wz hSw; (try dsimp only at hSw); go_simp; try with_reducible rfl)
          (try simp only [Act.put, List.setIfInBounds_toArray, List.set_cons_zero, List.set_cons_succ])
          refine wpAnyM_take (i := 4) (oi := { dst := some 96, op := Go.Op.load 9 (Go.Operand.tmp 95), type := 9, pos := "schema.go:56", after := #[{ on := 3, ground := Go.Ground.data }], guard := none }) (v := ?v60) rfl (by kernel_rfl) (fun _ _ _ h => h) (Or.inl ⟨by rfl, ?hy60⟩) (by assumption) ?rest60
          case hy60 => (intro wz hSw; (try dsimp only at hSw); go_simp; try with_reducible rfl)
          (try simp only [Act.put, List.setIfInBounds_toArray, List.set_cons_zero, List.set_cons_succ])
          refine wpAnyM_take (i := 5) (oi := { dst := some 97, op := Go.Op.move (Go.Operand.tmp 10), type := 51, pos := "schema.go:56", after := #[], guard := none }) (v := ?v61) rfl (by kernel_rfl) (fun _ _ _ h => h) (Or.inl ⟨by rfl, ?hy61⟩) (by assumption) ?rest61
          case hy61 => (intro wz hSw; (try dsimp only at hSw); go_simp; try with_reducible rfl)
          (try simp only [Act.put, List.setIfInBounds_toArray, List.set_cons_zero, List.set_cons_succ])
          refine wpAnyM_take (i := 6) (oi := { dst := some 98, op := Go.Op.move (Go.Operand.tmp 12), type := 3, pos := "schema.go:56", after := #[], guard := none }) (v := ?v62) rfl (by kernel_rfl) (fun _ _ _ h => h) (Or.inl ⟨by rfl, ?hy62⟩) (by assumption) ?rest62
          case hy62 => (intro wz hSw; (try dsimp only at hSw); go_simp; try with_reducible rfl)
          (try simp only [Act.put, List.setIfInBounds_toArray, List.set_cons_zero, List.set_cons_succ])
          refine wpAnyM_take (i := 7) (oi := { dst := some 99, op := Go.Op.indexAddr 51 (Go.Operand.tmp 97) (Go.Operand.tmp 98), type := 0, pos := "schema.go:56", after := #[{ on := 5, ground := Go.Ground.data }, { on := 6, ground := Go.Ground.data }], guard := none }) (v := ?v63) rfl (by kernel_rfl) (fun _ _ _ h => h) (Or.inl ⟨by rfl, ?hy63⟩) (by assumption) ?rest63
          case hy63 => (intro wz hSw; (try dsimp only at hSw); go_simp; try with_reducible rfl)
          (try simp only [Act.put, List.setIfInBounds_toArray, List.set_cons_zero, List.set_cons_succ])
          refine wpAnyM_take (i := 8) (oi := { dst := some 100, op := Go.Op.fieldAddr 153 (Go.Operand.tmp 99) 2, type := 0, pos := "schema.go:56", after := #[{ on := 7, ground := Go.Ground.data }], guard := none }) (v := ?v64) rfl (by kernel_rfl) (fun _ _ _ h => h) (Or.inl ⟨by rfl, ?hy64⟩) (by assumption) ?rest64
          case hy64 => (intro wz hSw; (try dsimp only at hSw); go_simp; try with_reducible rfl)
          (try simp only [Act.put, List.setIfInBounds_toArray, List.set_cons_zero, List.set_cons_succ])
          refine wpAnyM_take (i := 9) (oi := { dst := some 101, op := Go.Op.load 9 (Go.Operand.tmp 100), type := 9, pos := "schema.go:56", after := #[{ on := 8, ground := Go.Ground.data }], guard := none }) (v := ?v65) rfl (by kernel_rfl) (fun _ _ _ h => h) (Or.inl ⟨by rfl, ?hy65⟩) (by assumption) ?rest65
          case hy65 => (intro wz hSw; (try dsimp only at hSw); go_simp; try with_reducible rfl)
          (try simp only [Act.put, List.setIfInBounds_toArray, List.set_cons_zero, List.set_cons_succ])
          refine wpAnyM_take (i := 10) (oi := { dst := some 102, op := Go.Op.binOp Go.BinOp.neq 9 (Go.Operand.tmp 96) (Go.Operand.tmp 101) 9, type := 4, pos := "schema.go:56", after := #[{ on := 4, ground := Go.Ground.data }, { on := 9, ground := Go.Ground.data }], guard := none }) (v := ?v66) rfl (by kernel_rfl) (fun _ _ _ h => h) (Or.inl ⟨by rfl, ?hy66⟩) (by assumption) ?rest66
          case hy66 => (intro wz hSw; (try dsimp only at hSw); go_simp; try with_reducible rfl)
          (try simp only [Act.put, List.setIfInBounds_toArray, List.set_cons_zero, List.set_cons_succ])
          refine wpAnyM_take (i := 11) (oi := { dst := some 103, op := Go.Op.move (Go.Operand.tmp 102), type := 4, pos := "schema.go:56", after := #[{ on := 10, ground := Go.Ground.data }], guard := none }) (v := ?v67) rfl (by kernel_rfl) (fun _ _ _ h => h) (Or.inl ⟨by rfl, ?hy67⟩) (by assumption) ?rest67
          case hy67 => (intro wz hSw; (try dsimp only at hSw); go_simp; try with_reducible rfl)
          (try simp only [Act.put, List.setIfInBounds_toArray, List.set_cons_zero, List.set_cons_succ])
          refine wpAnyM_take (i := 12) (oi := { dst := some 104, op := Go.Op.move (Go.Operand.tmp 9), type := 51, pos := "schema.go:56", after := #[{ on := 11, ground := Go.Ground.guard }], guard := some (11, false) }) (v := ?v68) rfl (by kernel_rfl) (fun _ _ _ h => h) (Or.inl ⟨by rfl, ?hy68⟩) (by assumption) ?rest68
          case hy68 => (intro wz hSw; (try dsimp only at hSw); go_simp; try with_reducible rfl)
          (try simp only [Act.put, List.setIfInBounds_toArray, List.set_cons_zero, List.set_cons_succ])
          refine wpAnyM_take (i := 13) (oi := { dst := some 105, op := Go.Op.move (Go.Operand.tmp 12), type := 3, pos := "schema.go:56", after := #[{ on := 11, ground := Go.Ground.guard }], guard := some (11, false) }) (v := ?v69) rfl (by kernel_rfl) (fun _ _ _ h => h) (Or.inl ⟨by rfl, ?hy69⟩) (by assumption) ?rest69
          case hy69 => (intro wz hSw; (try dsimp only at hSw); go_simp; try with_reducible rfl)
          (try simp only [Act.put, List.setIfInBounds_toArray, List.set_cons_zero, List.set_cons_succ])
          refine wpAnyM_take (i := 14) (oi := { dst := some 106, op := Go.Op.indexAddr 51 (Go.Operand.tmp 104) (Go.Operand.tmp 105), type := 0, pos := "schema.go:56", after := #[{ on := 12, ground := Go.Ground.data }, { on := 13, ground := Go.Ground.data }, { on := 11, ground := Go.Ground.guard }], guard := some (11, false) }) (v := ?v70) rfl (by kernel_rfl) (fun _ _ _ h => h) (Or.inl ⟨by rfl, ?hy70⟩) (by assumption) ?rest70
          case hy70 => (intro wz hSw; (try dsimp only at hSw); go_simp; try with_reducible rfl)
          (try simp only [Act.put, List.setIfInBounds_toArray, List.set_cons_zero, List.set_cons_succ])
          refine wpAnyM_take (i := 15) (oi := { dst := some 107, op := Go.Op.fieldAddr 153 (Go.Operand.tmp 106) 0, type := 0, pos := "schema.go:56", after := #[{ on := 14, ground := Go.Ground.data }, { on := 11, ground := Go.Ground.guard }], guard := some (11, false) }) (v := ?v71) rfl (by kernel_rfl) (fun _ _ _ h => h) (Or.inl ⟨by rfl, ?hy71⟩) (by assumption) ?rest71
          case hy71 => (intro wz hSw; (try dsimp only at hSw); go_simp; try with_reducible rfl)
          (try simp only [Act.put, List.setIfInBounds_toArray, List.set_cons_zero, List.set_cons_succ])
          refine wpAnyM_take (i := 16) (oi := { dst := some 108, op := Go.Op.load 151 (Go.Operand.tmp 107), type := 151, pos := "schema.go:56", after := #[{ on := 15, ground := Go.Ground.data }, { on := 11, ground := Go.Ground.guard }], guard := some (11, false) }) (v := ?v72) rfl (by kernel_rfl) (fun _ _ _ h => h) (Or.inl ⟨by rfl, ?hy72⟩) (by assumption) ?rest72
          case hy72 => (intro wz hSw; (try dsimp only at hSw); go_simp; try with_reducible rfl)
          (try simp only [Act.put, List.setIfInBounds_toArray, List.set_cons_zero, List.set_cons_succ])
          refine wpAnyM_take (i := 17) (oi := { dst := some 109, op := Go.Op.call { callee := Go.Callee.builtin Go.Builtin.len, args := #[Go.Operand.tmp 108], argTypes := #[151] }, type := 3, pos := "schema.go:56", after := #[{ on := 16, ground := Go.Ground.data }, { on := 11, ground := Go.Ground.guard }], guard := some (11, false) }) (v := ?v73) rfl (by kernel_rfl) (fun _ _ _ h => h) (Or.inl ⟨by rfl, ?hy73⟩) (by assumption) ?rest73
          case hy73 => (intro wz hSw; (try dsimp only at hSw); go_simp; try with_reducible rfl)
          (try simp only [Act.put, List.setIfInBounds_toArray, List.set_cons_zero, List.set_cons_succ])
          refine wpAnyM_take (i := 18) (oi := { dst := some 110, op := Go.Op.move (Go.Operand.tmp 10), type := 51, pos := "schema.go:56", after := #[{ on := 11, ground := Go.Ground.guard }], guard := some (11, false) }) (v := ?v74) rfl (by kernel_rfl) (fun _ _ _ h => h) (Or.inl ⟨by rfl, ?hy74⟩) (by assumption) ?rest74
          case hy74 => (intro wz hSw; (try dsimp only at hSw); go_simp; try with_reducible rfl)
          (try simp only [Act.put, List.setIfInBounds_toArray, List.set_cons_zero, List.set_cons_succ])
          refine wpAnyM_take (i := 19) (oi := { dst := some 111, op := Go.Op.move (Go.Operand.tmp 12), type := 3, pos := "schema.go:56", after := #[{ on := 11, ground := Go.Ground.guard }], guard := some (11, false) }) (v := ?v75) rfl (by kernel_rfl) (fun _ _ _ h => h) (Or.inl ⟨by rfl, ?hy75⟩) (by assumption) ?rest75
          case hy75 => (intro wz hSw; (try dsimp only at hSw); go_simp; try with_reducible rfl)
          (try simp only [Act.put, List.setIfInBounds_toArray, List.set_cons_zero, List.set_cons_succ])
          refine wpAnyM_take (i := 20) (oi := { dst := some 112, op := Go.Op.indexAddr 51 (Go.Operand.tmp 110) (Go.Operand.tmp 111), type := 0, pos := "schema.go:56", after := #[{ on := 18, ground := Go.Ground.data }, { on := 19, ground := Go.Ground.data }, { on := 11, ground := Go.Ground.guard }], guard := some (11, false) }) (v := ?v76) rfl (by kernel_rfl) (fun _ _ _ h => h) (Or.inl ⟨by rfl, ?hy76⟩) (by assumption) ?rest76
          case hy76 => (intro wz hSw; (try dsimp only at hSw); go_simp; try with_reducible rfl)
          (try simp only [Act.put, List.setIfInBounds_toArray, List.set_cons_zero, List.set_cons_succ])
          refine wpAnyM_take (i := 21) (oi := { dst := some 113, op := Go.Op.fieldAddr 153 (Go.Operand.tmp 112) 0, type := 0, pos := "schema.go:56", after := #[{ on := 20, ground := Go.Ground.data }, { on := 11, ground := Go.Ground.guard }], guard := some (11, false) }) (v := ?v77) rfl (by kernel_rfl) (fun _ _ _ h => h) (Or.inl ⟨by rfl, ?hy77⟩) (by assumption) ?rest77
          case hy77 => (intro wz hSw; (try dsimp only at hSw); go_simp; try with_reducible rfl)
          (try simp only [Act.put, List.setIfInBounds_toArray, List.set_cons_zero, List.set_cons_succ])
          refine wpAnyM_take (i := 22) (oi := { dst := some 114, op := Go.Op.load 151 (Go.Operand.tmp 113), type := 151, pos := "schema.go:56", after := #[{ on := 21, ground := Go.Ground.data }, { on := 11, ground := Go.Ground.guard }], guard := some (11, false) }) (v := ?v78) rfl (by kernel_rfl) (fun _ _ _ h => h) (Or.inl ⟨by rfl, ?hy78⟩) (by assumption) ?rest78
          case hy78 => (intro wz hSw; (try dsimp only at hSw); go_simp; try with_reducible rfl)
          (try simp only [Act.put, List.setIfInBounds_toArray, List.set_cons_zero, List.set_cons_succ])
          refine wpAnyM_take (i := 23) (oi := { dst := some 115, op := Go.Op.call { callee := Go.Callee.builtin Go.Builtin.len, args := #[Go.Operand.tmp 114], argTypes := #[151] }, type := 3, pos := "schema.go:56", after := #[{ on := 22, ground := Go.Ground.data }, { on := 11, ground := Go.Ground.guard }], guard := some (11, false) }) (v := ?v79) rfl (by kernel_rfl) (fun _ _ _ h => h) (Or.inl ⟨by rfl, ?hy79⟩) (by assumption) ?rest79
          case hy79 => (intro wz hSw; (try dsimp only at hSw); go_simp; try with_reducible rfl)
          (try simp only [Act.put, List.setIfInBounds_toArray, List.set_cons_zero, List.set_cons_succ])
          refine wpAnyM_take (i := 24) (oi := { dst := some 116, op := Go.Op.binOp Go.BinOp.neq 3 (Go.Operand.tmp 109) (Go.Operand.tmp 115) 3, type := 4, pos := "schema.go:56", after := #[{ on := 17, ground := Go.Ground.data }, { on := 23, ground := Go.Ground.data }, { on := 11, ground := Go.Ground.guard }], guard := some (11, false) }) (v := ?v80) rfl (by kernel_rfl) (fun _ _ _ h => h) (Or.inl ⟨by rfl, ?hy80⟩) (by assumption) ?rest80
          case hy80 => (intro wz hSw; (try dsimp only at hSw); go_simp; try with_reducible rfl)
          (try simp only [Act.put, List.setIfInBounds_toArray, List.set_cons_zero, List.set_cons_succ])
          refine wpAnyM_take (i := 25) (oi := { dst := some 117, op := Go.Op.pick (Go.Operand.tmp 103) (Go.Operand.const (Go.Value.bool true)) (Go.Operand.tmp 116), type := 4, pos := "schema.go:56", after := #[{ on := 11, ground := Go.Ground.data }, { on := 24, ground := Go.Ground.data }], guard := none }) (v := ?v81) rfl (by kernel_rfl) (fun _ _ _ h => h) (Or.inl ⟨by rfl, ?hy81⟩) (by assumption) ?rest81
          case hy81 => (intro wz hSw; (try dsimp only at hSw); go_simp; try with_reducible rfl)
          (try simp only [Act.put, List.setIfInBounds_toArray, List.set_cons_zero, List.set_cons_succ])
          refine wpAnyM_take (i := 26) (oi := { dst := some 118, op := Go.Op.move (Go.Operand.tmp 117), type := 4, pos := "schema.go:56", after := #[{ on := 25, ground := Go.Ground.data }, { on := 11, ground := Go.Ground.chain }], guard := none }) (v := ?v82) rfl (by kernel_rfl) (fun _ _ _ h => h) (Or.inl ⟨by rfl, ?hy82⟩) (by assumption) ?rest82
          case hy82 => (intro wz hSw; (try dsimp only at hSw); go_simp; try with_reducible rfl)
          (try simp only [Act.put, List.setIfInBounds_toArray, List.set_cons_zero, List.set_cons_succ])
          refine wpAnyM_take (i := 27) (oi := { dst := some 119, op := Go.Op.move (Go.Operand.tmp 9), type := 51, pos := "schema.go:56", after := #[{ on := 26, ground := Go.Ground.guard }], guard := some (26, false) }) (v := ?v83) rfl (by kernel_rfl) (fun _ _ _ h => h) (Or.inl ⟨by rfl, ?hy83⟩) (by assumption) ?rest83
          case hy83 => (intro wz hSw; (try dsimp only at hSw); go_simp; try with_reducible rfl)
          (try simp only [Act.put, List.setIfInBounds_toArray, List.set_cons_zero, List.set_cons_succ])
          refine wpAnyM_take (i := 28) (oi := { dst := some 120, op := Go.Op.move (Go.Operand.tmp 12), type := 3, pos := "schema.go:56", after := #[{ on := 26, ground := Go.Ground.guard }], guard := some (26, false) }) (v := ?v84) rfl (by kernel_rfl) (fun _ _ _ h => h) (Or.inl ⟨by rfl, ?hy84⟩) (by assumption) ?rest84
          case hy84 => (intro wz hSw; (try dsimp only at hSw); go_simp; try with_reducible rfl)
          (try simp only [Act.put, List.setIfInBounds_toArray, List.set_cons_zero, List.set_cons_succ])
          refine wpAnyM_take (i := 29) (oi := { dst := some 121, op := Go.Op.indexAddr 51 (Go.Operand.tmp 119) (Go.Operand.tmp 120), type := 0, pos := "schema.go:56", after := #[{ on := 27, ground := Go.Ground.data }, { on := 28, ground := Go.Ground.data }, { on := 26, ground := Go.Ground.guard }], guard := some (26, false) }) (v := ?v85) rfl (by kernel_rfl) (fun _ _ _ h => h) (Or.inl ⟨by rfl, ?hy85⟩) (by assumption) ?rest85
          case hy85 => (intro wz hSw; (try dsimp only at hSw); go_simp; try with_reducible rfl)
          (try simp only [Act.put, List.setIfInBounds_toArray, List.set_cons_zero, List.set_cons_succ])
          refine wpAnyM_take (i := 30) (oi := { dst := some 122, op := Go.Op.fieldAddr 153 (Go.Operand.tmp 121) 1, type := 0, pos := "schema.go:56", after := #[{ on := 29, ground := Go.Ground.data }, { on := 26, ground := Go.Ground.guard }], guard := some (26, false) }) (v := ?v86) rfl (by kernel_rfl) (fun _ _ _ h => h) (Or.inl ⟨by rfl, ?hy86⟩) (by assumption) ?rest86
          case hy86 => (intro wz hSw; (try dsimp only at hSw); go_simp; try with_reducible rfl)
          (try simp only [Act.put, List.setIfInBounds_toArray, List.set_cons_zero, List.set_cons_succ])
          refine wpAnyM_take (i := 31) (oi := { dst := some 123, op := Go.Op.load 55 (Go.Operand.tmp 122), type := 55, pos := "schema.go:56", after := #[{ on := 30, ground := Go.Ground.data }, { on := 26, ground := Go.Ground.guard }], guard := some (26, false) }) (v := ?v87) rfl (by kernel_rfl) (fun _ _ _ h => h) (Or.inl ⟨by rfl, ?hy87⟩) (by assumption) ?rest87
          case hy87 => (intro wz hSw; (try dsimp only at hSw); go_simp; try with_reducible rfl)
          (try simp only [Act.put, List.setIfInBounds_toArray, List.set_cons_zero, List.set_cons_succ])
          refine wpAnyM_take (i := 32) (oi := { dst := some 124, op := Go.Op.move (Go.Operand.tmp 10), type := 51, pos := "schema.go:56", after := #[{ on := 26, ground := Go.Ground.guard }], guard := some (26, false) }) (v := ?v88) rfl (by kernel_rfl) (fun _ _ _ h => h) (Or.inl ⟨by rfl, ?hy88⟩) (by assumption) ?rest88
          case hy88 => (intro wz hSw; (try dsimp only at hSw); go_simp; try with_reducible rfl)
          (try simp only [Act.put, List.setIfInBounds_toArray, List.set_cons_zero, List.set_cons_succ])
          refine wpAnyM_take (i := 33) (oi := { dst := some 125, op := Go.Op.move (Go.Operand.tmp 12), type := 3, pos := "schema.go:56", after := #[{ on := 26, ground := Go.Ground.guard }], guard := some (26, false) }) (v := ?v89) rfl (by kernel_rfl) (fun _ _ _ h => h) (Or.inl ⟨by rfl, ?hy89⟩) (by assumption) ?rest89
          case hy89 => (intro wz hSw; (try dsimp only at hSw); go_simp; try with_reducible rfl)
          (try simp only [Act.put, List.setIfInBounds_toArray, List.set_cons_zero, List.set_cons_succ])
          refine wpAnyM_take (i := 34) (oi := { dst := some 126, op := Go.Op.indexAddr 51 (Go.Operand.tmp 124) (Go.Operand.tmp 125), type := 0, pos := "schema.go:56", after := #[{ on := 32, ground := Go.Ground.data }, { on := 33, ground := Go.Ground.data }, { on := 26, ground := Go.Ground.guard }], guard := some (26, false) }) (v := ?v90) rfl (by kernel_rfl) (fun _ _ _ h => h) (Or.inl ⟨by rfl, ?hy90⟩) (by assumption) ?rest90
          case hy90 => (intro wz hSw; (try dsimp only at hSw); go_simp; try with_reducible rfl)
          (try simp only [Act.put, List.setIfInBounds_toArray, List.set_cons_zero, List.set_cons_succ])
          refine wpAnyM_take (i := 35) (oi := { dst := some 127, op := Go.Op.fieldAddr 153 (Go.Operand.tmp 126) 1, type := 0, pos := "schema.go:56", after := #[{ on := 34, ground := Go.Ground.data }, { on := 26, ground := Go.Ground.guard }], guard := some (26, false) }) (v := ?v91) rfl (by kernel_rfl) (fun _ _ _ h => h) (Or.inl ⟨by rfl, ?hy91⟩) (by assumption) ?rest91
          case hy91 => (intro wz hSw; (try dsimp only at hSw); go_simp; try with_reducible rfl)
          (try simp only [Act.put, List.setIfInBounds_toArray, List.set_cons_zero, List.set_cons_succ])
          refine wpAnyM_take (i := 36) (oi := { dst := some 128, op := Go.Op.load 55 (Go.Operand.tmp 127), type := 55, pos := "schema.go:56", after := #[{ on := 35, ground := Go.Ground.data }, { on := 26, ground := Go.Ground.guard }], guard := some (26, false) }) (v := ?v92) rfl (by kernel_rfl) (fun _ _ _ h => h) (Or.inl ⟨by rfl, ?hy92⟩) (by assumption) ?rest92
          case hy92 => (intro wz hSw; (try dsimp only at hSw); go_simp; try with_reducible rfl)
          (try simp only [Act.put, List.setIfInBounds_toArray, List.set_cons_zero, List.set_cons_succ])
          refine wpAnyM_take (i := 37) (oi := { dst := some 129, op := Go.Op.move (Go.Operand.tmp 2), type := 47, pos := "schema.go:56", after := #[{ on := 26, ground := Go.Ground.guard }], guard := some (26, false) }) (v := ?v93) rfl (by kernel_rfl) (fun _ _ _ h => h) (Or.inl ⟨by rfl, ?hy93⟩) (by assumption) ?rest93
          case hy93 => (intro wz hSw; (try dsimp only at hSw); go_simp; try with_reducible rfl)
          (try simp only [Act.put, List.setIfInBounds_toArray, List.set_cons_zero, List.set_cons_succ])
          refine wpAnyM_ready (rs := [38]) (by kernel_rfl) (by simp) ?_
          refine AllReadyM.cons (o := { dst := some 130, op := Go.Op.call { callee := Go.Callee.value (Go.Operand.func 88), args := #[Go.Operand.tmp 123, Go.Operand.tmp 128, Go.Operand.tmp 129], argTypes := #[55, 55, 47] }, type := 4, pos := "schema.go:56", after := #[{ on := 31, ground := Go.Ground.data }, { on := 36, ground := Go.Ground.data }, { on := 37, ground := Go.Ground.data }, { on := 26, ground := Go.Ground.chain }, { on := 26, ground := Go.Ground.guard }], guard := some (26, false) }) rfl (fun K hK => ?_) AllReadyM.nil
          refine step_callW' _ (by rfl) 88 [.tmp 123, .tmp 128, .tmp 129] #[55, 55, 47] rfl (by kernel_rfl) [_, _, _] rfl (HRA.out _ HEd.out) ?_
          rintro en w7 ⟨rfl, hE⟩
          refine ⟨_, rfl, ?_⟩
          have HE7 := hid (HEd.out.trans hE)
          have F7 := hid hE
          clear hE
          refine hK.out _ _ ?hS94 (fun hHeld => ?_)
          case hS94 => (exact K7.out _ F7.out)
          clear hK K
          (try simp only [Act.put, List.setIfInBounds_toArray, List.set_cons_zero, List.set_cons_succ])
          refine wpAnyM_take (i := 39) (oi := { dst := some 131, op := Go.Op.unOp Go.UnOp.not 4 (Go.Operand.tmp 130), type := 4, pos := "schema.go:56", after := #[{ on := 38, ground := Go.Ground.data }, { on := 26, ground := Go.Ground.guard }], guard := some (26, false) }) (v := ?v95) rfl (by kernel_rfl) (fun _ _ _ h => h) (Or.inl ⟨by rfl, ?hy95⟩) (by assumption) ?rest95
          case hy95 => (intro wz hSw; (try dsimp only at hSw); go_simp; try with_reducible rfl)
          (try simp only [Act.put, List.setIfInBounds_toArray, List.set_cons_zero, List.set_cons_succ])
          refine wpAnyM_take (i := 40) (oi := { dst := some 132, op := Go.Op.pick (Go.Operand.tmp 118) (Go.Operand.const (Go.Value.bool true)) (Go.Operand.tmp 131), type := 4, pos := "schema.go:56", after := #[{ on := 26, ground := Go.Ground.data }, { on := 39, ground := Go.Ground.data }], guard := none }) (v := ?v96) rfl (by kernel_rfl) (fun _ _ _ h => h) (Or.inl ⟨by rfl, ?hy96⟩) (by assumption) ?rest96
          case hy96 => (intro wz hSw; (try dsimp only at hSw); go_simp; try with_reducible rfl)
          (try simp only [Act.put, List.setIfInBounds_toArray, List.set_cons_zero, List.set_cons_succ])
          refine wpAnyM_done (by kernel_rfl) ?_ _
          obtain ⟨x0, x1, x2, x3, x4, x5, x6, x7⟩ := cells8 (cellsAt_ext HE7.out HC.out)
          go_upto_region 16 with fail
          clear x0 x1 x2 x3 x4 x5 x6 x7
          go_loopw [139] (fun i wr => ∃ j : Nat, i = .int .i64 j ∧ j ≤ nf ∧ Hid (Ext w wr)) (fun i _ => nf - (intOf i).toNat)
          case atStart => exact ⟨0, rfl, Nat.zero_le _, HE7⟩
          case round =>
            clear HE HEd HE7 F7 K7
            obtain ⟨j, rfl, hj, HE⟩ := hrel
            by_cases hjn : j < nf
            · obtain ⟨p, po, q, qo, c0, c1, c2, c3, c4, c5, c6, c7, d0, d1, d2, d3, d4, d5, d6, d7, rfl, rfl, he, hf, hfa⟩ := HFS.out j hjn
              have HFA := hid hfa
              have hj0 : (0 : Int) ≤ (j : Int) := by omega
              have hj1 : (j : Int) < (nf : Int) := by omega
              obtain ⟨x0, x1, x2, x3, x4, x5, x6, x7⟩ := cells8 (cellsAt_ext HE.out HC.out)
              obtain ⟨y0, y1, y2, y3, y4, y5, y6, y7⟩ := cells8 (cellsAt_ext HE.out HD.out)
              obtain ⟨u0', u1', u2', u3', u4', u5', u6', u7'⟩ := cells8 (cellsAt_ext HE.out he)
              obtain ⟨v0', v1', v2', v3', v4', v5', v6', v7'⟩ := cells8 (cellsAt_ext HE.out hf)
              clear he hf hfa
              go_upto_region 18 with fail
              go_still_tail 17, (by kernel_rfl)
              change wpList _ _ _ _ _ wr.drew
              have HEd := hid (HE.out.drew)
              go_wp2_with (go_at_call 89; refine (HFA.out _ HEd.out).mono ?_; rintro e w9 ⟨rfl, hE⟩; have HE9 := hid (HEd.out.trans hE); clear hE)
              exact ⟨⟨j + 1, by go_num, by omega, HE9⟩, by simp [intOf]; omega⟩
            · go_wp2_with fail
              exact ⟨⟨k + 1, by go_num, by omega, HE⟩, by simp [intOf]; omega⟩
        · go_wp2_with fail
          go_ret
          exact ⟨rfl, HE.out⟩
end Go.Proofs.Ytempfaefopfobaa
