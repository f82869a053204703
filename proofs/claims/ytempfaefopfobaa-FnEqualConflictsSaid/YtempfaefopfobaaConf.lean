/- Conf: lists of conflicts: as they come in, as the package's own; toConflicts, Equals, spec.EqualConflicts, tameConflicts. -/
import Derived.Test.YtempfaefopfobaaGP
import Derived.Test.YtempfaefopfobaaGQ
import Derived.Test.YtempfaefopfobaaGE

set_option maxRecDepth 100000
namespace Go.Proofs.Ytempfaefopfobaa
open Go.ChangeShapes Go.WideShapes Go.ChangeAt Go.RowKit
set_option linter.unusedVariables false
set_option linter.unusedSimpArgs false

/-- conflicts as they come in -/
def RepCs (w : World) (v : Value) (l : List (ByteArray × List GE)) : Prop :=
  ∃ a b o cap, v = .slice a l.length cap ∧ l.length * 40 ≤ 140737488351232 ∧ ∀ (i : Nat) (c : ByteArray × List GE), l[i]? = some c → a = some ⟨b, o, none⟩ ∧ c.1.size ≤ 140737488351232 ∧ w.cell? ⟨b, o + i * 2, none⟩ = some (.string c.1) ∧
    ∃ pa pc, w.cell? ⟨b, o + i * 2 + 1, none⟩ = some (.slice pa c.2.length pc) ∧ RepGEs Any w (.slice pa c.2.length pc) c.2
/-- conflicts of the package -/
def RepMC (w : World) (v : Value) (l : List (ByteArray × List El)) : Prop :=
  ∃ a b cap, v = .slice a l.length cap ∧ l.length * 40 ≤ 140737488351232 ∧ ∀ (i : Nat) (c : ByteArray × List El), l[i]? = some c → a = some ⟨b, 0, none⟩ ∧ w.cell? ⟨b, i * 2, none⟩ = some (.string c.1) ∧
    ∃ pa pc, w.cell? ⟨b, i * 2 + 1, none⟩ = some (.slice pa c.2.length pc) ∧ RepPath Any w (.slice pa c.2.length pc) c.2
theorem RepMC.ext {w w' : World} (E : Ext w w') {v : Value} {l : List (ByteArray × List El)} (h : RepMC w v l) : RepMC w' v l := by
  obtain ⟨a, b, cap, h1, h2, h3⟩ := h
  exact ⟨a, b, cap, h1, h2, fun i c hc => by
    obtain ⟨k1, k2, pa, pc, k3, k4⟩ := h3 i c hc
    exact ⟨k1, E.cellS k2, pa, pc, E.cellS k3, k4.ext E⟩⟩
theorem RepCs.ext {w w' : World} {v : Value} {l : List (ByteArray × List GE)} (h : RepCs w v l) (E : Ext w w') : RepCs w' v l := by
  obtain ⟨a, b, o, cap, h1, h2, h3⟩ := h
  exact ⟨a, b, o, cap, h1, h2, fun i c hc => by
    obtain ⟨k1, k0, k2, pa, pc, k3, k4⟩ := h3 i c hc
    exact ⟨k1, k0, E.cellS k2, pa, pc, E.cellS k3, k4.ext E⟩⟩
noncomputable def eqCs : List (ByteArray × List El) → List (ByteArray × List El) → Bool
  | [], [] => true
  | a :: x, b :: y => decide (a.1 = b.1) && (eqP a.2 b.2 && eqCs x y)
  | _, _ => false
theorem eqCs_step {l1 l2 : List (ByteArray × List El)} {k : Nat} {p q : ByteArray × List El} (h1 : l1[k]? = some p) (h2 : l2[k]? = some q) : eqCs (l1.drop k) (l2.drop k) = (decide (p.1 = q.1) && (eqP p.2 q.2 && eqCs (l1.drop (k + 1)) (l2.drop (k + 1)))) := by
  obtain ⟨h3, rfl⟩ := List.getElem?_eq_some_iff.1 h1
  obtain ⟨h4, rfl⟩ := List.getElem?_eq_some_iff.1 h2
  rw [List.drop_eq_getElem_cons h3, List.drop_eq_getElem_cons h4]
  rfl
theorem eqCs_len : ∀ {l1 l2 : List (ByteArray × List El)}, l1.length ≠ l2.length → eqCs l1 l2 = false
  | [], [], h => absurd rfl h
  | [], _ :: _, _ => rfl
  | _ :: _, [], _ => rfl
  | p :: x, q :: y, h => by
    unfold eqCs
    rw [eqCs_len (l1 := x) (l2 := y) (by simpa using h), Bool.and_false, Bool.and_false]
def toC (c : ByteArray × List GE) : ByteArray × List El := (c.1, c.2.map toEl)
theorem eqCs_self : ∀ {l : List (ByteArray × List GE)}, (l.all fun c => c.2.all ordE) = true → eqCs (l.map toC) (l.map toC) = true
  | [], _ => rfl
  | c :: l, h => by
    simp only [List.all_cons, Bool.and_eq_true] at h
    simp only [List.map_cons, eqCs]
    rw [eqCs_self h.2]
    have h3 : eqP (toC c).2 (toC c).2 = true := eqP_self h.1
    rw [h3]
    simp
section
variable {H : Type} {enc : TypeId × Value → H} {w : World} {base : Nat} {spare : Nat → Bool} {held : Bool}
theorem cellsC : Try.prog.cellsOf 96 = 2 := by kernel_rfl
theorem bytesC : Try.prog.bytesOf 96 = 40 := by kernel_rfl
theorem cells_ges : Try.prog.cellsOf 22 = 1 := by kernel_rfl
theorem open_gc (fuel : Nat) (cs : List Value) (x : DataW H × List MemPlace) (h : DataW.trod enc Try.prog w base spare held fuel 96 cs = some x) (hw : Wt Try.prog 96 x.1) : ∃ c : ByteArray × List GE, ∃ pv, cs = [.string c.1, pv] ∧ c.1.size ≤ 140737488351232 ∧ RepGEs Any w pv c.2 := by
  obtain ⟨n, rfl, hlen, hf⟩ := open_field Try.underlying96 h hw
  rw [cellsC] at hlen
  obtain ⟨c0, c1, rfl⟩ : ∃ c0 c1, cs = [c0, c1] := by
    match cs, hlen with
    | [c0, c1], _ => exact ⟨c0, c1, rfl⟩
  obtain ⟨y0, h0, w0⟩ := hf 0 9 0 rfl
  obtain ⟨y1, h1, w1⟩ := hf 1 22 1 rfl
  simp only [cellsStr, cells_ges, List.drop, List.take] at h0 h1
  obtain ⟨s, e0, hs⟩ := open_str Try.underlying9 h0 w0
  obtain ⟨pv, l, e1, hl⟩ := open_ges _ _ _ h1 w1
  simp only [List.cons.injEq, and_true] at e0 e1
  subst e0 e1
  exact ⟨(s, l), _, rfl, hs, hl⟩
theorem open_gcs (fuel : Nat) (cs : List Value) (x : DataW H × List MemPlace) (h : DataW.trod enc Try.prog w base spare held fuel 38 cs = some x) (hw : Wt Try.prog 38 x.1) : ∃ v l, cs = [v] ∧ RepCs w v l := by
  obtain ⟨a, b, o, len, cap, rfl, hl, hb, ha, hel⟩ := open_sl Try.underlying38 (by rw [cellsC]; omega) h hw
  rw [bytesC] at hb
  rw [cellsC] at hel
  have key : ∀ i, i < len → ∃ c : ByteArray × List GE, ∃ pv, cellsAt w b (o + i * 2) [.string c.1, pv] ∧ c.1.size ≤ 140737488351232 ∧ RepGEs Any w pv c.2 := by
    intro i hi
    obtain ⟨n', cs', y, hn', h6, h7, h8, h9⟩ := hel i hi
    obtain ⟨c, pv, rfl, hc, hp⟩ := open_gc n' cs' y h8 h9
    exact ⟨c, pv, h7, hc, hp⟩
  haveI : Inhabited (ByteArray × List GE) := ⟨(ByteArray.empty, [])⟩
  obtain ⟨fg, hfg⟩ := Deep.choose_lt (α := ByteArray × List GE) key
  refine ⟨_, (List.range len).map fg, rfl, a, b, o, cap, by simp, by simpa using hb, fun i e he => ?_⟩
  simp only [List.getElem?_map, Option.map_eq_some_iff] at he
  obtain ⟨j, hj, rfl⟩ := he
  obtain ⟨hj1, hj2⟩ := List.getElem?_eq_some_iff.1 hj
  simp at hj1 hj2
  subst hj2
  obtain ⟨pv, h7, h8, h9⟩ := hfg i hj1
  obtain ⟨pa, pc, rfl⟩ := h9.form
  exact ⟨ha (by omega), h8, by simpa using h7 0 _ rfl, pa, pc, h7 1 _ rfl, h9⟩
end
set_option maxHeartbeats 1000000 in
theorem confEq (m m' : ByteArray) (p p' : List El) (pa pa' : Option Addr) (pc pc' : Nat) (w : World) (h1 : RepPath Any w (.slice pa p.length pc) p) (h2 : RepPath Any w (.slice pa' p'.length pc') p') :
    Calls Try.prog 98 #[.agg #[.string m, .slice pa p.length pc], .agg #[.string m', .slice pa' p'.length pc']] w fun e w' => e = .returned (.bool (decide (m = m') && eqP p p')) ∧ Ext w w' := by
  have H1 := hid h1
  have H2 := hid h2
  clear h1 h2
  have HE := hid (show Ext w ((w.alloc (.cells #[.string m, .slice pa p.length pc] 169)).alloc (.cells #[.string m', .slice pa' p'.length pc'] 169)) from ((Ext.refl w).alloc _).alloc _)
  have HB1 := hid (first_heap w (.cells #[.string m, .slice pa p.length pc] 169) (.cells #[.string m', .slice pa' p'.length pc'] 169))
  have HB2 := hid (second_heap w (.cells #[.string m, .slice pa p.length pc] 169) (.cells #[.string m', .slice pa' p'.length pc'] 169))
  by_cases hm : m = m'
  · subst hm
    have RES := hid (show eqP p p' = (decide (m = m) && eqP p p') by simp)
    go_enter Try.func98, Try.ntmps98
    go_upto_region 1 with fail
    generalize ((w.alloc (.cells #[.string m, .slice pa p.length pc] 169)).alloc (.cells #[.string m, .slice pa' p'.length pc'] 169)) = w1 at *
    have b0 := (cell_of_heap HB1.out 0).trans rfl; have b1 := (cell_of_heap HB1.out 1).trans rfl
    have d0 := (cell_of_heap HB2.out 0).trans rfl; have d1 := (cell_of_heap HB2.out 1).trans rfl
    go_wp2_with (go_at_call 48; refine (pequ_any p p' _ _ _ (H1.out.ext HE.out) (H2.out.ext HE.out)).mono ?_; rintro e w2 ⟨rfl, hE⟩; have HE2 := hid (HE.out.trans hE); clear hE)
    go_ret
    exact ⟨congrArg (fun z => Ending.returned (.bool z)) RES.out, HE2.out⟩
  · have e1 : (m.toList == m'.toList) = false := by rw [ba_toList_beq, decide_eq_false hm]
    have RES := hid (show false = (decide (m = m') && eqP p p') by rw [decide_eq_false hm]; rfl)
    clear hm
    go_enter Try.func98, Try.ntmps98
    go_upto_region 1 with fail
    generalize ((w.alloc (.cells #[.string m, .slice pa p.length pc] 169)).alloc (.cells #[.string m', .slice pa' p'.length pc'] 169)) = w1 at *
    have b0 := (cell_of_heap HB1.out 0).trans rfl; have b1 := (cell_of_heap HB1.out 1).trans rfl
    have d0 := (cell_of_heap HB2.out 0).trans rfl; have d1 := (cell_of_heap HB2.out 1).trans rfl
    go_wp2_with fail
    go_ret
    exact ⟨congrArg (fun z => Ending.returned (.bool z)) RES.out, HE.out⟩
set_option maxHeartbeats 2000000 in
theorem confsEq (l l' : List (ByteArray × List El)) (v v' : Value) (w : World) (h1 : RepMC w v l) (h2 : RepMC w v' l') : Calls Try.prog 60 #[v, v'] w fun e w' => e = .returned (.bool (eqCs l l')) ∧ Ext w w' := by
  obtain ⟨a1, b1, c1, rfl, s1, at1⟩ := h1
  obtain ⟨a2, b2, c2, rfl, s2, at2⟩ := h2
  have HA1 := hid at1
  have HA2 := hid at2
  clear at1 at2
  by_cases hl : l.length = l'.length
  case neg =>
    have e1 : ((l.length : Int) != (l'.length : Int)) = true := by simp; omega
    have RES := hid (eqCs_len hl).symm
    clear hl
    go_enter Try.func60, Try.ntmps60
    go_wp2_with fail
    go_ret
    exact ⟨congrArg (fun z => Ending.returned (.bool z)) RES.out, Ext.refl _⟩
  have HL := hid hl
  have e1 : ((l.length : Int) != (l'.length : Int)) = false := by simp; omega
  clear hl
  go_enter Try.func60, Try.ntmps60
  go_wp2_with fail
  go_loopw [13] (fun i wr => ∃ j : Nat, i = .int .i64 j ∧ j ≤ l.length ∧ Hid (eqCs (l.drop j) (l'.drop j) = eqCs l l') ∧ Hid (Ext w wr)) (fun i _ => l.length - (intOf i).toNat)
  case atStart => exact ⟨0, rfl, Nat.zero_le _, hid rfl, hid (Ext.refl _)⟩
  case round =>
    obtain ⟨j, rfl, hj, HP, HE⟩ := hrel
    by_cases hlt : j < l.length
    · obtain ⟨⟨m, p⟩, hx⟩ : ∃ x, l[j]? = some x := ⟨_, List.getElem?_eq_getElem hlt⟩
      obtain ⟨⟨m', p'⟩, hx'⟩ : ∃ x, l'[j]? = some x := ⟨_, List.getElem?_eq_getElem (by have := HL.out; omega)⟩
      obtain ⟨rfl, k1, pa, pc, k2, k3⟩ := HA1.out j _ hx
      obtain ⟨rfl, k1', pa', pc', k2', k3'⟩ := HA2.out j _ hx'
      have hst := eqCs_step hx hx'
      rw [HP.out] at hst
      obtain ⟨b, hb⟩ : ∃ b, (decide (m = m') && eqP p p') = b := ⟨_, rfl⟩
      have hst2 : eqCs l l' = (b && eqCs (l.drop (j + 1)) (l'.drop (j + 1))) := by rw [hst, ← hb, Bool.and_assoc]
      have HEQ := hid (fun (W : World) (E : Ext w W) => confEq m m' p p' pa pa' pc pc' W (k3.ext E) (k3'.ext E))
      rw [hb] at HEQ
      have HST := hid hst2
      have K6 := hid (show ∀ W : World, Ext w W → (fun w' : World => w'.cell? ⟨b1, j * 2, none⟩ = some (.string m) ∧ w'.cell? ⟨b1, j * 2 + 1, none⟩ = some (.slice pa p.length pc) ∧ w'.cell? ⟨b2, j * 2, none⟩ = some (.string m') ∧ w'.cell? ⟨b2, j * 2 + 1, none⟩ = some (.slice pa' p'.length pc')) W from fun W h => ⟨h.cellS k1, h.cellS k2, h.cellS k1', h.cellS k2'⟩)
      have HEd := hid (show Ext w wr.drew from HE.out.drew)
      have p0 : (0 : Int) ≤ (j : Int) := by omega
      have p1 : (j : Int) < (l.length : Int) := by omega
      have p2 : (j : Int) < (l'.length : Int) := by have := HL.out; omega
      clear hx hx' k1 k2 k3 k1' k2' k3' hst hst2 hb
      go_upto_region 6 with fail
      cases b with
      | true =>
        refine wp_region_late (fun w' : World => w'.cell? ⟨b1, j * 2, none⟩ = some (.string m) ∧ w'.cell? ⟨b1, j * 2 + 1, none⟩ = some (.slice pa p.length pc) ∧ w'.cell? ⟨b2, j * 2, none⟩ = some (.string m') ∧ w'.cell? ⟨b2, j * 2 + 1, none⟩ = some (.slice pa' p'.length pc')) [] (by kernel_rfl) ?hS1 (fun hHeld => ?_)
        case hS1 => (exact K6.out _ HEd.out)
        generalize wr.drew = wd at *
        change wpAnyM _ _ _ _ _ _ 10 #[false, false, false, false, false, false, false, false, false, false] _ _
        refine wpAnyM_take (i := 0) (oi := { dst := some 16, op := Go.Op.move (Go.Operand.tmp 0), type := 98, pos := "conflict.go:58", after := #[], guard := none }) (v := ?v2) rfl (by kernel_rfl) (fun _ _ _ h => h) (Or.inl ⟨by rfl, ?hy2⟩) (by assumption) ?rest2
        case hy2 => (intro wz hSw; (try dsimp only at hSw); go_simp; try with_reducible rfl)
        (try simp only [Act.put, List.setIfInBounds_toArray, List.set_cons_zero, List.set_cons_succ])
        refine wpAnyM_take (i := 1) (oi := { dst := some 17, op := Go.Op.move (Go.Operand.tmp 5), type := 3, pos := "conflict.go:58", after := #[], guard := none }) (v := ?v3) rfl (by kernel_rfl) (fun _ _ _ h => h) (Or.inl ⟨by rfl, ?hy3⟩) (by assumption) ?rest3
        case hy3 => (intro wz hSw; (try dsimp only at hSw); go_simp; try with_reducible rfl)
        (try simp only [Act.put, List.setIfInBounds_toArray, List.set_cons_zero, List.set_cons_succ])
        refine wpAnyM_take (i := 2) (oi := { dst := some 18, op := Go.Op.indexAddr 98 (Go.Operand.tmp 16) (Go.Operand.tmp 17), type := 0, pos := "conflict.go:58", after := #[{ on := 0, ground := Go.Ground.data }, { on := 1, ground := Go.Ground.data }], guard := none }) (v := ?v4) rfl (by kernel_rfl) (fun _ _ _ h => h) (Or.inl ⟨by rfl, ?hy4⟩) (by assumption) ?rest4
        case hy4 => (intro wz hSw; (try dsimp only at hSw); go_simp; try with_reducible rfl)
        (try simp only [Act.put, List.setIfInBounds_toArray, List.set_cons_zero, List.set_cons_succ])
        refine wpAnyM_take (i := 3) (oi := { dst := some 19, op := Go.Op.load 169 (Go.Operand.tmp 18), type := 169, pos := "conflict.go:58", after := #[{ on := 2, ground := Go.Ground.data }], guard := none }) (v := ?v5) rfl (by kernel_rfl) (fun _ _ _ h => h) (Or.inl ⟨by rfl, ?hy5⟩) (by assumption) ?rest5
        case hy5 => (intro wz hSw; (try dsimp only at hSw); go_simp; try with_reducible rfl)
        (try simp only [Act.put, List.setIfInBounds_toArray, List.set_cons_zero, List.set_cons_succ])
        refine wpAnyM_take (i := 4) (oi := { dst := some 20, op := Go.Op.move (Go.Operand.tmp 1), type := 98, pos := "conflict.go:58", after := #[], guard := none }) (v := ?v6) rfl (by kernel_rfl) (fun _ _ _ h => h) (Or.inl ⟨by rfl, ?hy6⟩) (by assumption) ?rest6
        case hy6 => (intro wz hSw; (try dsimp only at hSw); go_simp; try with_reducible rfl)
        (try simp only [Act.put, List.setIfInBounds_toArray, List.set_cons_zero, List.set_cons_succ])
        refine wpAnyM_take (i := 5) (oi := { dst := some 21, op := Go.Op.move (Go.Operand.tmp 5), type := 3, pos := "conflict.go:58", after := #[], guard := none }) (v := ?v7) rfl (by kernel_rfl) (fun _ _ _ h => h) (Or.inl ⟨by rfl, ?hy7⟩) (by assumption) ?rest7
        case hy7 => (intro wz hSw; (try dsimp only at hSw); go_simp; try with_reducible rfl)
        (try simp only [Act.put, List.setIfInBounds_toArray, List.set_cons_zero, List.set_cons_succ])
        refine wpAnyM_take (i := 6) (oi := { dst := some 22, op := Go.Op.indexAddr 98 (Go.Operand.tmp 20) (Go.Operand.tmp 21), type := 0, pos := "conflict.go:58", after := #[{ on := 4, ground := Go.Ground.data }, { on := 5, ground := Go.Ground.data }], guard := none }) (v := ?v8) rfl (by kernel_rfl) (fun _ _ _ h => h) (Or.inl ⟨by rfl, ?hy8⟩) (by assumption) ?rest8
        case hy8 => (intro wz hSw; (try dsimp only at hSw); go_simp; try with_reducible rfl)
        (try simp only [Act.put, List.setIfInBounds_toArray, List.set_cons_zero, List.set_cons_succ])
        refine wpAnyM_take (i := 7) (oi := { dst := some 23, op := Go.Op.load 169 (Go.Operand.tmp 22), type := 169, pos := "conflict.go:58", after := #[{ on := 6, ground := Go.Ground.data }], guard := none }) (v := ?v9) rfl (by kernel_rfl) (fun _ _ _ h => h) (Or.inl ⟨by rfl, ?hy9⟩) (by assumption) ?rest9
        case hy9 => (intro wz hSw; (try dsimp only at hSw); go_simp; try with_reducible rfl)
        (try simp only [Act.put, List.setIfInBounds_toArray, List.set_cons_zero, List.set_cons_succ])
        refine wpAnyM_ready (rs := [8]) (by kernel_rfl) (by simp) ?_
        refine AllReadyM.cons (o := { dst := some 24, op := Go.Op.call { callee := Go.Callee.value (Go.Operand.func 98), args := #[Go.Operand.tmp 19, Go.Operand.tmp 23], argTypes := #[169, 169] }, type := 4, pos := "conflict.go:58", after := #[{ on := 3, ground := Go.Ground.data }, { on := 7, ground := Go.Ground.data }], guard := none }) rfl (fun K hK => ?_) AllReadyM.nil
        refine step_call _ rfl 98 [.tmp 19, .tmp 23] #[169, 169] rfl (by kernel_rfl) [_, _] rfl (HEQ.out _ HEd.out) ?_
        rintro en wf ⟨rfl, hE⟩
        refine ⟨_, rfl, ?_⟩
        have HF := hid (HEd.out.trans hE)
        clear hE
        refine hK.out _ _ ?hS10 (fun hHeld => ?_)
        case hS10 => (exact K6.out _ HF.out)
        clear hK K
        (try simp only [Act.put, List.setIfInBounds_toArray, List.set_cons_zero, List.set_cons_succ])
        refine wpAnyM_take (i := 9) (oi := { dst := some 25, op := Go.Op.unOp Go.UnOp.not 4 (Go.Operand.tmp 24), type := 4, pos := "conflict.go:58", after := #[{ on := 8, ground := Go.Ground.data }], guard := none }) (v := ?v11) rfl (by kernel_rfl) (fun _ _ _ h => h) (Or.inl ⟨by rfl, ?hy11⟩) (by assumption) ?rest11
        case hy11 => (intro wz hSw; (try dsimp only at hSw); go_simp; try with_reducible rfl)
        (try simp only [Act.put, List.setIfInBounds_toArray, List.set_cons_zero, List.set_cons_succ])
        refine wpAnyM_done (by kernel_rfl) ?_ _
        go_wp2_with fail
        exact ⟨⟨j + 1, by go_num, by omega, hid (by have h := HST.out; simpa using h.symm), HF⟩, by simp [intOf]; omega⟩
      | false =>
        refine wp_region_late (fun w' : World => w'.cell? ⟨b1, j * 2, none⟩ = some (.string m) ∧ w'.cell? ⟨b1, j * 2 + 1, none⟩ = some (.slice pa p.length pc) ∧ w'.cell? ⟨b2, j * 2, none⟩ = some (.string m') ∧ w'.cell? ⟨b2, j * 2 + 1, none⟩ = some (.slice pa' p'.length pc')) [] (by kernel_rfl) ?hS12 (fun hHeld => ?_)
        case hS12 => (exact K6.out _ HEd.out)
        generalize wr.drew = wd at *
        change wpAnyM _ _ _ _ _ _ 10 #[false, false, false, false, false, false, false, false, false, false] _ _
        refine wpAnyM_take (i := 0) (oi := { dst := some 16, op := Go.Op.move (Go.Operand.tmp 0), type := 98, pos := "conflict.go:58", after := #[], guard := none }) (v := ?v13) rfl (by kernel_rfl) (fun _ _ _ h => h) (Or.inl ⟨by rfl, ?hy13⟩) (by assumption) ?rest13
        case hy13 => (intro wz hSw; (try dsimp only at hSw); go_simp; try with_reducible rfl)
        (try simp only [Act.put, List.setIfInBounds_toArray, List.set_cons_zero, List.set_cons_succ])
        refine wpAnyM_take (i := 1) (oi := { dst := some 17, op := Go.Op.move (Go.Operand.tmp 5), type := 3, pos := "conflict.go:58", after := #[], guard := none }) (v := ?v14) rfl (by kernel_rfl) (fun _ _ _ h => h) (Or.inl ⟨by rfl, ?hy14⟩) (by assumption) ?rest14
        case hy14 => (intro wz hSw; (try dsimp only at hSw); go_simp; try with_reducible rfl)
        (try simp only [Act.put, List.setIfInBounds_toArray, List.set_cons_zero, List.set_cons_succ])
        refine wpAnyM_take (i := 2) (oi := { dst := some 18, op := Go.Op.indexAddr 98 (Go.Operand.tmp 16) (Go.Operand.tmp 17), type := 0, pos := "conflict.go:58", after := #[{ on := 0, ground := Go.Ground.data }, { on := 1, ground := Go.Ground.data }], guard := none }) (v := ?v15) rfl (by kernel_rfl) (fun _ _ _ h => h) (Or.inl ⟨by rfl, ?hy15⟩) (by assumption) ?rest15
        case hy15 => (intro wz hSw; (try dsimp only at hSw); go_simp; try with_reducible rfl)
        (try simp only [Act.put, List.setIfInBounds_toArray, List.set_cons_zero, List.set_cons_succ])
        refine wpAnyM_take (i := 3) (oi := { dst := some 19, op := Go.Op.load 169 (Go.Operand.tmp 18), type := 169, pos := "conflict.go:58", after := #[{ on := 2, ground := Go.Ground.data }], guard := none }) (v := ?v16) rfl (by kernel_rfl) (fun _ _ _ h => h) (Or.inl ⟨by rfl, ?hy16⟩) (by assumption) ?rest16
        case hy16 => (intro wz hSw; (try dsimp only at hSw); go_simp; try with_reducible rfl)
        (try simp only [Act.put, List.setIfInBounds_toArray, List.set_cons_zero, List.set_cons_succ])
        refine wpAnyM_take (i := 4) (oi := { dst := some 20, op := Go.Op.move (Go.Operand.tmp 1), type := 98, pos := "conflict.go:58", after := #[], guard := none }) (v := ?v17) rfl (by kernel_rfl) (fun _ _ _ h => h) (Or.inl ⟨by rfl, ?hy17⟩) (by assumption) ?rest17
        case hy17 => (intro wz hSw; (try dsimp only at hSw); go_simp; try with_reducible rfl)
        (try simp only [Act.put, List.setIfInBounds_toArray, List.set_cons_zero, List.set_cons_succ])
        refine wpAnyM_take (i := 5) (oi := { dst := some 21, op := Go.Op.move (Go.Operand.tmp 5), type := 3, pos := "conflict.go:58", after := #[], guard := none }) (v := ?v18) rfl (by kernel_rfl) (fun _ _ _ h => h) (Or.inl ⟨by rfl, ?hy18⟩) (by assumption) ?rest18
        case hy18 => (intro wz hSw; (try dsimp only at hSw); go_simp; try with_reducible rfl)
        (try simp only [Act.put, List.setIfInBounds_toArray, List.set_cons_zero, List.set_cons_succ])
        refine wpAnyM_take (i := 6) (oi := { dst := some 22, op := Go.Op.indexAddr 98 (Go.Operand.tmp 20) (Go.Operand.tmp 21), type := 0, pos := "conflict.go:58", after := #[{ on := 4, ground := Go.Ground.data }, { on := 5, ground := Go.Ground.data }], guard := none }) (v := ?v19) rfl (by kernel_rfl) (fun _ _ _ h => h) (Or.inl ⟨by rfl, ?hy19⟩) (by assumption) ?rest19
        case hy19 => (intro wz hSw; (try dsimp only at hSw); go_simp; try with_reducible rfl)
        (try simp only [Act.put, List.setIfInBounds_toArray, List.set_cons_zero, List.set_cons_succ])
        refine wpAnyM_take (i := 7) (oi := { dst := some 23, op := Go.Op.load 169 (Go.Operand.tmp 22), type := 169, pos := "conflict.go:58", after := #[{ on := 6, ground := Go.Ground.data }], guard := none }) (v := ?v20) rfl (by kernel_rfl) (fun _ _ _ h => h) (Or.inl ⟨by rfl, ?hy20⟩) (by assumption) ?rest20
        case hy20 => (intro wz hSw; (try dsimp only at hSw); go_simp; try with_reducible rfl)
        (try simp only [Act.put, List.setIfInBounds_toArray, List.set_cons_zero, List.set_cons_succ])
        refine wpAnyM_ready (rs := [8]) (by kernel_rfl) (by simp) ?_
        refine AllReadyM.cons (o := { dst := some 24, op := Go.Op.call { callee := Go.Callee.value (Go.Operand.func 98), args := #[Go.Operand.tmp 19, Go.Operand.tmp 23], argTypes := #[169, 169] }, type := 4, pos := "conflict.go:58", after := #[{ on := 3, ground := Go.Ground.data }, { on := 7, ground := Go.Ground.data }], guard := none }) rfl (fun K hK => ?_) AllReadyM.nil
        refine step_call _ rfl 98 [.tmp 19, .tmp 23] #[169, 169] rfl (by kernel_rfl) [_, _] rfl (HEQ.out _ HEd.out) ?_
        rintro en wf ⟨rfl, hE⟩
        refine ⟨_, rfl, ?_⟩
        have HF := hid (HEd.out.trans hE)
        clear hE
        refine hK.out _ _ ?hS21 (fun hHeld => ?_)
        case hS21 => (exact K6.out _ HF.out)
        clear hK K
        (try simp only [Act.put, List.setIfInBounds_toArray, List.set_cons_zero, List.set_cons_succ])
        refine wpAnyM_take (i := 9) (oi := { dst := some 25, op := Go.Op.unOp Go.UnOp.not 4 (Go.Operand.tmp 24), type := 4, pos := "conflict.go:58", after := #[{ on := 8, ground := Go.Ground.data }], guard := none }) (v := ?v22) rfl (by kernel_rfl) (fun _ _ _ h => h) (Or.inl ⟨by rfl, ?hy22⟩) (by assumption) ?rest22
        case hy22 => (intro wz hSw; (try dsimp only at hSw); go_simp; try with_reducible rfl)
        (try simp only [Act.put, List.setIfInBounds_toArray, List.set_cons_zero, List.set_cons_succ])
        refine wpAnyM_done (by kernel_rfl) ?_ _
        go_wp2_with fail
        go_ret
        exact ⟨congrArg (fun z => Ending.returned (.bool z)) (show false = eqCs l l' by rw [HST.out]; simp), HF.out⟩
    · have RES := hid (show true = eqCs l l' by
        have h := HP.out
        rw [List.drop_eq_nil_of_le (by omega), List.drop_eq_nil_of_le (by have := HL.out; omega)] at h
        rw [← h]; rfl)
      go_wp2_with fail
      go_ret
      exact ⟨congrArg (fun z => Ending.returned (.bool z)) RES.out, HE.out⟩
set_option maxHeartbeats 4000000 in
theorem specEqC (l l' : List (ByteArray × List GE)) (v v' : Value) (w : World) (h1 : RepCs w v l) (h2 : RepCs w v' l') : Calls Try.prog 22 #[v, v'] w fun e w' => e = .returned (.bool (eqCs (l.map toC) (l'.map toC))) ∧ Ext w w' := by
  obtain ⟨a1, b1, o1, c1, rfl, s1, at1⟩ := h1
  obtain ⟨a2, b2, o2, c2, rfl, s2, at2⟩ := h2
  have HA1 := hid at1
  have HA2 := hid at2
  clear at1 at2
  by_cases hl : l.length = l'.length
  case neg =>
    have e1 : ((l.length : Int) != (l'.length : Int)) = true := by simp; omega
    have RES := hid (eqCs_len (l1 := l.map toC) (l2 := l'.map toC) (by simpa using hl)).symm
    clear hl
    go_enter Try.func22, Try.ntmps22
    go_wp2_with fail
    go_ret
    exact ⟨congrArg (fun z => Ending.returned (.bool z)) RES.out, Ext.refl _⟩
  have HL := hid hl
  have e1 : ((l.length : Int) != (l'.length : Int)) = false := by simp; omega
  clear hl
  go_enter Try.func22, Try.ntmps22
  go_wp2_with fail
  go_loopw [13] (fun i wr => ∃ j : Nat, i = .int .i64 j ∧ j ≤ l.length ∧ Hid (eqCs ((l.map toC).drop j) ((l'.map toC).drop j) = eqCs (l.map toC) (l'.map toC)) ∧ Hid (Ext w wr)) (fun i _ => l.length - (intOf i).toNat)
  case atStart => exact ⟨0, rfl, Nat.zero_le _, hid rfl, hid (Ext.refl _)⟩
  case round =>
    obtain ⟨j, rfl, hj, HP, HE⟩ := hrel
    by_cases hlt : j < l.length
    · obtain ⟨⟨m, p⟩, hx⟩ : ∃ x, l[j]? = some x := ⟨_, List.getElem?_eq_getElem hlt⟩
      obtain ⟨⟨m', p'⟩, hx'⟩ : ∃ x, l'[j]? = some x := ⟨_, List.getElem?_eq_getElem (by have := HL.out; omega)⟩
      obtain ⟨rfl, -, k1, pa, pc, k2, k3⟩ := HA1.out j _ hx
      obtain ⟨rfl, -, k1', pa', pc', k2', k3'⟩ := HA2.out j _ hx'
      have hst := eqCs_step (l1 := l.map toC) (l2 := l'.map toC) (k := j) (p := toC (m, p)) (q := toC (m', p')) (by rw [List.getElem?_map, hx]; rfl) (by rw [List.getElem?_map, hx']; rfl)
      rw [HP.out] at hst
      have hst2 : eqCs (l.map toC) (l'.map toC) = (decide (m = m') && (eqP (p.map toEl) (p'.map toEl) && eqCs ((l.map toC).drop (j + 1)) ((l'.map toC).drop (j + 1)))) := hst
      obtain ⟨b, hb⟩ : ∃ b, eqP (p.map toEl) (p'.map toEl) = b := ⟨_, rfl⟩
      have HEQ := hid (fun (W : World) (E : Ext w W) => specEqP p p' _ _ W (k3.ext E) (k3'.ext E))
      rw [hb] at HEQ hst2
      have HST := hid hst2
      have K6 := hid (show ∀ W : World, Ext w W → (fun w' : World => w'.cell? ⟨b1, o1 + j * 2, none⟩ = some (.string m) ∧ w'.cell? ⟨b1, o1 + j * 2 + 1, none⟩ = some (.slice pa p.length pc) ∧ w'.cell? ⟨b2, o2 + j * 2, none⟩ = some (.string m') ∧ w'.cell? ⟨b2, o2 + j * 2 + 1, none⟩ = some (.slice pa' p'.length pc')) W from fun W h => ⟨h.cellS k1, h.cellS k2, h.cellS k1', h.cellS k2'⟩)
      have HEd := hid (show Ext w wr.drew from HE.out.drew)
      have p0 : (0 : Int) ≤ (j : Int) := by omega
      have p1 : (j : Int) < (l.length : Int) := by omega
      have p2 : (j : Int) < (l'.length : Int) := by have := HL.out; omega
      clear hx hx' k1 k2 k3 k1' k2' k3' hst hst2 hb
      go_upto_region 6 with fail
      by_cases he : m = m'
      · have e2 : (m.toList == m'.toList) = true := by rw [ba_toList_beq, decide_eq_true he]
        have HEE := hid he
        clear he
        cases b with
        | true =>
          refine wp_region_late (fun w' : World => w'.cell? ⟨b1, o1 + j * 2, none⟩ = some (.string m) ∧ w'.cell? ⟨b1, o1 + j * 2 + 1, none⟩ = some (.slice pa p.length pc) ∧ w'.cell? ⟨b2, o2 + j * 2, none⟩ = some (.string m') ∧ w'.cell? ⟨b2, o2 + j * 2 + 1, none⟩ = some (.slice pa' p'.length pc')) [] (by kernel_rfl) ?hS23 (fun hHeld => ?_)
          case hS23 => (exact K6.out _ HEd.out)
          generalize wr.drew = wd at *
          change wpAnyM _ _ _ _ _ _ 25 #[false, false, false, false, false, false, false, false, false, false, false, false, false, false, false, false, false, false, false, false, false, false, false, false, false] _ _
          refine wpAnyM_take (i := 0) (oi := { dst := some 16, op := Go.Op.move (Go.Operand.tmp 0), type := 38, pos := "filter.go:95", after := #[], guard := none }) (v := ?v24) rfl (by kernel_rfl) (fun _ _ _ h => h) (Or.inl ⟨by rfl, ?hy24⟩) (by assumption) ?rest24
          case hy24 => (intro wz hSw; (try dsimp only at hSw); go_simp; try with_reducible rfl)
          (try simp only [Act.put, List.setIfInBounds_toArray, List.set_cons_zero, List.set_cons_succ])
          refine wpAnyM_take (i := 1) (oi := { dst := some 17, op := Go.Op.move (Go.Operand.tmp 5), type := 3, pos := "filter.go:95", after := #[], guard := none }) (v := ?v25) rfl (by kernel_rfl) (fun _ _ _ h => h) (Or.inl ⟨by rfl, ?hy25⟩) (by assumption) ?rest25
          case hy25 => (intro wz hSw; (try dsimp only at hSw); go_simp; try with_reducible rfl)
          (try simp only [Act.put, List.setIfInBounds_toArray, List.set_cons_zero, List.set_cons_succ])
          refine wpAnyM_take (i := 2) (oi := { dst := some 18, op := Go.Op.indexAddr 38 (Go.Operand.tmp 16) (Go.Operand.tmp 17), type := 0, pos := "filter.go:95", after := #[{ on := 0, ground := Go.Ground.data }, { on := 1, ground := Go.Ground.data }], guard := none }) (v := ?v26) rfl (by kernel_rfl) (fun _ _ _ h => h) (Or.inl ⟨by rfl, ?hy26⟩) (by assumption) ?rest26
          case hy26 => (intro wz hSw; (try dsimp only at hSw); go_simp; try with_reducible rfl)
          (try simp only [Act.put, List.setIfInBounds_toArray, List.set_cons_zero, List.set_cons_succ])
          refine wpAnyM_take (i := 3) (oi := { dst := some 19, op := Go.Op.fieldAddr 96 (Go.Operand.tmp 18) 0, type := 0, pos := "filter.go:95", after := #[{ on := 2, ground := Go.Ground.data }], guard := none }) (v := ?v27) rfl (by kernel_rfl) (fun _ _ _ h => h) (Or.inl ⟨by rfl, ?hy27⟩) (by assumption) ?rest27
          case hy27 => (intro wz hSw; (try dsimp only at hSw); go_simp; try with_reducible rfl)
          (try simp only [Act.put, List.setIfInBounds_toArray, List.set_cons_zero, List.set_cons_succ])
          refine wpAnyM_take (i := 4) (oi := { dst := some 20, op := Go.Op.load 9 (Go.Operand.tmp 19), type := 9, pos := "filter.go:95", after := #[{ on := 3, ground := Go.Ground.data }], guard := none }) (v := ?v28) rfl (by kernel_rfl) (fun _ _ _ h => h) (Or.inl ⟨by rfl, ?hy28⟩) (by assumption) ?rest28
          case hy28 => (intro wz hSw; (try dsimp only at hSw); go_simp; try with_reducible rfl)
          (try simp only [Act.put, List.setIfInBounds_toArray, List.set_cons_zero, List.set_cons_succ])
          refine wpAnyM_take (i := 5) (oi := { dst := some 21, op := Go.Op.move (Go.Operand.tmp 1), type := 38, pos := "filter.go:95", after := #[], guard := none }) (v := ?v29) rfl (by kernel_rfl) (fun _ _ _ h => h) (Or.inl ⟨by rfl, ?hy29⟩) (by assumption) ?rest29
          case hy29 => (intro wz hSw; (try dsimp only at hSw); go_simp; try with_reducible rfl)
          (try simp only [Act.put, List.setIfInBounds_toArray, List.set_cons_zero, List.set_cons_succ])
          refine wpAnyM_take (i := 6) (oi := { dst := some 22, op := Go.Op.move (Go.Operand.tmp 5), type := 3, pos := "filter.go:95", after := #[], guard := none }) (v := ?v30) rfl (by kernel_rfl) (fun _ _ _ h => h) (Or.inl ⟨by rfl, ?hy30⟩) (by assumption) ?rest30
          case hy30 => (intro wz hSw; (try dsimp only at hSw); go_simp; try with_reducible rfl)
          (try simp only [Act.put, List.setIfInBounds_toArray, List.set_cons_zero, List.set_cons_succ])
          refine wpAnyM_take (i := 7) (oi := { dst := some 23, op := Go.Op.indexAddr 38 (Go.Operand.tmp 21) (Go.Operand.tmp 22), type := 0, pos := "filter.go:95", after := #[{ on := 5, ground := Go.Ground.data }, { on := 6, ground := Go.Ground.data }], guard := none }) (v := ?v31) rfl (by kernel_rfl) (fun _ _ _ h => h) (Or.inl ⟨by rfl, ?hy31⟩) (by assumption) ?rest31
          case hy31 => (intro wz hSw; (try dsimp only at hSw); go_simp; try with_reducible rfl)
          (try simp only [Act.put, List.setIfInBounds_toArray, List.set_cons_zero, List.set_cons_succ])
          refine wpAnyM_take (i := 8) (oi := { dst := some 24, op := Go.Op.fieldAddr 96 (Go.Operand.tmp 23) 0, type := 0, pos := "filter.go:95", after := #[{ on := 7, ground := Go.Ground.data }], guard := none }) (v := ?v32) rfl (by kernel_rfl) (fun _ _ _ h => h) (Or.inl ⟨by rfl, ?hy32⟩) (by assumption) ?rest32
          case hy32 => (intro wz hSw; (try dsimp only at hSw); go_simp; try with_reducible rfl)
          (try simp only [Act.put, List.setIfInBounds_toArray, List.set_cons_zero, List.set_cons_succ])
          refine wpAnyM_take (i := 9) (oi := { dst := some 25, op := Go.Op.load 9 (Go.Operand.tmp 24), type := 9, pos := "filter.go:95", after := #[{ on := 8, ground := Go.Ground.data }], guard := none }) (v := ?v33) rfl (by kernel_rfl) (fun _ _ _ h => h) (Or.inl ⟨by rfl, ?hy33⟩) (by assumption) ?rest33
          case hy33 => (intro wz hSw; (try dsimp only at hSw); go_simp; try with_reducible rfl)
          (try simp only [Act.put, List.setIfInBounds_toArray, List.set_cons_zero, List.set_cons_succ])
          refine wpAnyM_take (i := 10) (oi := { dst := some 26, op := Go.Op.binOp Go.BinOp.neq 9 (Go.Operand.tmp 20) (Go.Operand.tmp 25) 9, type := 4, pos := "filter.go:95", after := #[{ on := 4, ground := Go.Ground.data }, { on := 9, ground := Go.Ground.data }], guard := none }) (v := ?v34) rfl (by kernel_rfl) (fun _ _ _ h => h) (Or.inl ⟨by rfl, ?hy34⟩) (by assumption) ?rest34
          case hy34 => (intro wz hSw; (try dsimp only at hSw); go_simp; try with_reducible rfl)
          (try simp only [Act.put, List.setIfInBounds_toArray, List.set_cons_zero, List.set_cons_succ])
          refine wpAnyM_take (i := 11) (oi := { dst := some 27, op := Go.Op.move (Go.Operand.tmp 26), type := 4, pos := "filter.go:95", after := #[{ on := 10, ground := Go.Ground.data }], guard := none }) (v := ?v35) rfl (by kernel_rfl) (fun _ _ _ h => h) (Or.inl ⟨by rfl, ?hy35⟩) (by assumption) ?rest35
          case hy35 => (intro wz hSw; (try dsimp only at hSw); go_simp; try with_reducible rfl)
          (try simp only [Act.put, List.setIfInBounds_toArray, List.set_cons_zero, List.set_cons_succ])
          refine wpAnyM_take (i := 12) (oi := { dst := some 28, op := Go.Op.move (Go.Operand.tmp 0), type := 38, pos := "filter.go:95", after := #[{ on := 11, ground := Go.Ground.guard }], guard := some (11, false) }) (v := ?v36) rfl (by kernel_rfl) (fun _ _ _ h => h) (Or.inl ⟨by rfl, ?hy36⟩) (by assumption) ?rest36
          case hy36 => (intro wz hSw; (try dsimp only at hSw); go_simp; try with_reducible rfl)
          (try simp only [Act.put, List.setIfInBounds_toArray, List.set_cons_zero, List.set_cons_succ])
          refine wpAnyM_take (i := 13) (oi := { dst := some 29, op := Go.Op.move (Go.Operand.tmp 5), type := 3, pos := "filter.go:95", after := #[{ on := 11, ground := Go.Ground.guard }], guard := some (11, false) }) (v := ?v37) rfl (by kernel_rfl) (fun _ _ _ h => h) (Or.inl ⟨by rfl, ?hy37⟩) (by assumption) ?rest37
          case hy37 => (intro wz hSw; (try dsimp only at hSw); go_simp; try with_reducible rfl)
          (try simp only [Act.put, List.setIfInBounds_toArray, List.set_cons_zero, List.set_cons_succ])
          refine wpAnyM_take (i := 14) (oi := { dst := some 30, op := Go.Op.indexAddr 38 (Go.Operand.tmp 28) (Go.Operand.tmp 29), type := 0, pos := "filter.go:95", after := #[{ on := 12, ground := Go.Ground.data }, { on := 13, ground := Go.Ground.data }, { on := 11, ground := Go.Ground.guard }], guard := some (11, false) }) (v := ?v38) rfl (by kernel_rfl) (fun _ _ _ h => h) (Or.inl ⟨by rfl, ?hy38⟩) (by assumption) ?rest38
          case hy38 => (intro wz hSw; (try dsimp only at hSw); go_simp; try with_reducible rfl)
          (try simp only [Act.put, List.setIfInBounds_toArray, List.set_cons_zero, List.set_cons_succ])
          refine wpAnyM_take (i := 15) (oi := { dst := some 31, op := Go.Op.fieldAddr 96 (Go.Operand.tmp 30) 1, type := 0, pos := "filter.go:95", after := #[{ on := 14, ground := Go.Ground.data }, { on := 11, ground := Go.Ground.guard }], guard := some (11, false) }) (v := ?v39) rfl (by kernel_rfl) (fun _ _ _ h => h) (Or.inl ⟨by rfl, ?hy39⟩) (by assumption) ?rest39
          case hy39 => (intro wz hSw; (try dsimp only at hSw); go_simp; try with_reducible rfl)
          (try simp only [Act.put, List.setIfInBounds_toArray, List.set_cons_zero, List.set_cons_succ])
          refine wpAnyM_take (i := 16) (oi := { dst := some 32, op := Go.Op.load 22 (Go.Operand.tmp 31), type := 22, pos := "filter.go:95", after := #[{ on := 15, ground := Go.Ground.data }, { on := 11, ground := Go.Ground.guard }], guard := some (11, false) }) (v := ?v40) rfl (by kernel_rfl) (fun _ _ _ h => h) (Or.inl ⟨by rfl, ?hy40⟩) (by assumption) ?rest40
          case hy40 => (intro wz hSw; (try dsimp only at hSw); go_simp; try with_reducible rfl)
          (try simp only [Act.put, List.setIfInBounds_toArray, List.set_cons_zero, List.set_cons_succ])
          refine wpAnyM_take (i := 17) (oi := { dst := some 33, op := Go.Op.move (Go.Operand.tmp 1), type := 38, pos := "filter.go:95", after := #[{ on := 11, ground := Go.Ground.guard }], guard := some (11, false) }) (v := ?v41) rfl (by kernel_rfl) (fun _ _ _ h => h) (Or.inl ⟨by rfl, ?hy41⟩) (by assumption) ?rest41
          case hy41 => (intro wz hSw; (try dsimp only at hSw); go_simp; try with_reducible rfl)
          (try simp only [Act.put, List.setIfInBounds_toArray, List.set_cons_zero, List.set_cons_succ])
          refine wpAnyM_take (i := 18) (oi := { dst := some 34, op := Go.Op.move (Go.Operand.tmp 5), type := 3, pos := "filter.go:95", after := #[{ on := 11, ground := Go.Ground.guard }], guard := some (11, false) }) (v := ?v42) rfl (by kernel_rfl) (fun _ _ _ h => h) (Or.inl ⟨by rfl, ?hy42⟩) (by assumption) ?rest42
          case hy42 => (intro wz hSw; (try dsimp only at hSw); go_simp; try with_reducible rfl)
          (try simp only [Act.put, List.setIfInBounds_toArray, List.set_cons_zero, List.set_cons_succ])
          refine wpAnyM_take (i := 19) (oi := { dst := some 35, op := Go.Op.indexAddr 38 (Go.Operand.tmp 33) (Go.Operand.tmp 34), type := 0, pos := "filter.go:95", after := #[{ on := 17, ground := Go.Ground.data }, { on := 18, ground := Go.Ground.data }, { on := 11, ground := Go.Ground.guard }], guard := some (11, false) }) (v := ?v43) rfl (by kernel_rfl) (fun _ _ _ h => h) (Or.inl ⟨by rfl, ?hy43⟩) (by assumption) ?rest43
          case hy43 => (intro wz hSw; (try dsimp only at hSw); go_simp; try with_reducible rfl)
          (try simp only [Act.put, List.setIfInBounds_toArray, List.set_cons_zero, List.set_cons_succ])
          refine wpAnyM_take (i := 20) (oi := { dst := some 36, op := Go.Op.fieldAddr 96 (Go.Operand.tmp 35) 1, type := 0, pos := "filter.go:95", after := #[{ on := 19, ground := Go.Ground.data }, { on := 11, ground := Go.Ground.guard }], guard := some (11, false) }) (v := ?v44) rfl (by kernel_rfl) (fun _ _ _ h => h) (Or.inl ⟨by rfl, ?hy44⟩) (by assumption) ?rest44
          case hy44 => (intro wz hSw; (try dsimp only at hSw); go_simp; try with_reducible rfl)
          (try simp only [Act.put, List.setIfInBounds_toArray, List.set_cons_zero, List.set_cons_succ])
          refine wpAnyM_take (i := 21) (oi := { dst := some 37, op := Go.Op.load 22 (Go.Operand.tmp 36), type := 22, pos := "filter.go:95", after := #[{ on := 20, ground := Go.Ground.data }, { on := 11, ground := Go.Ground.guard }], guard := some (11, false) }) (v := ?v45) rfl (by kernel_rfl) (fun _ _ _ h => h) (Or.inl ⟨by rfl, ?hy45⟩) (by assumption) ?rest45
          case hy45 => (intro wz hSw; (try dsimp only at hSw); go_simp; try with_reducible rfl)
          (try simp only [Act.put, List.setIfInBounds_toArray, List.set_cons_zero, List.set_cons_succ])
          refine wpAnyM_ready (rs := [22]) (by kernel_rfl) (by simp) ?_
          refine AllReadyM.cons (o := { dst := some 38, op := Go.Op.call { callee := Go.Callee.value (Go.Operand.func 61), args := #[Go.Operand.tmp 32, Go.Operand.tmp 37], argTypes := #[22, 22] }, type := 4, pos := "filter.go:95", after := #[{ on := 16, ground := Go.Ground.data }, { on := 21, ground := Go.Ground.data }, { on := 11, ground := Go.Ground.chain }, { on := 11, ground := Go.Ground.guard }], guard := some (11, false) }) rfl (fun K hK => ?_) AllReadyM.nil
          refine step_callW _ (by rfl) 61 [.tmp 32, .tmp 37] #[22, 22] rfl (by kernel_rfl) [_, _] rfl (HEQ.out _ HEd.out) ?_
          rintro en wf ⟨rfl, hE⟩
          refine ⟨_, rfl, ?_⟩
          have HF := hid (HEd.out.trans hE)
          clear hE
          refine hK.out _ _ ?hS46 (fun hHeld => ?_)
          case hS46 => (exact K6.out _ HF.out)
          clear hK K
          (try simp only [Act.put, List.setIfInBounds_toArray, List.set_cons_zero, List.set_cons_succ])
          refine wpAnyM_take (i := 23) (oi := { dst := some 39, op := Go.Op.unOp Go.UnOp.not 4 (Go.Operand.tmp 38), type := 4, pos := "filter.go:95", after := #[{ on := 22, ground := Go.Ground.data }, { on := 11, ground := Go.Ground.guard }], guard := some (11, false) }) (v := ?v47) rfl (by kernel_rfl) (fun _ _ _ h => h) (Or.inl ⟨by rfl, ?hy47⟩) (by assumption) ?rest47
          case hy47 => (intro wz hSw; (try dsimp only at hSw); go_simp; try with_reducible rfl)
          (try simp only [Act.put, List.setIfInBounds_toArray, List.set_cons_zero, List.set_cons_succ])
          refine wpAnyM_take (i := 24) (oi := { dst := some 40, op := Go.Op.pick (Go.Operand.tmp 27) (Go.Operand.const (Go.Value.bool true)) (Go.Operand.tmp 39), type := 4, pos := "filter.go:95", after := #[{ on := 11, ground := Go.Ground.data }, { on := 23, ground := Go.Ground.data }], guard := none }) (v := ?v48) rfl (by kernel_rfl) (fun _ _ _ h => h) (Or.inl ⟨by rfl, ?hy48⟩) (by assumption) ?rest48
          case hy48 => (intro wz hSw; (try dsimp only at hSw); go_simp; try with_reducible rfl)
          (try simp only [Act.put, List.setIfInBounds_toArray, List.set_cons_zero, List.set_cons_succ])
          refine wpAnyM_done (by kernel_rfl) ?_ _
          go_wp2_with fail
          exact ⟨⟨j + 1, by go_num, by omega, hid (by have h := HST.out; rw [decide_eq_true HEE.out] at h; simpa using h.symm), HF⟩, by simp [intOf]; omega⟩
        | false =>
          refine wp_region_late (fun w' : World => w'.cell? ⟨b1, o1 + j * 2, none⟩ = some (.string m) ∧ w'.cell? ⟨b1, o1 + j * 2 + 1, none⟩ = some (.slice pa p.length pc) ∧ w'.cell? ⟨b2, o2 + j * 2, none⟩ = some (.string m') ∧ w'.cell? ⟨b2, o2 + j * 2 + 1, none⟩ = some (.slice pa' p'.length pc')) [] (by kernel_rfl) ?hS49 (fun hHeld => ?_)
          case hS49 => (exact K6.out _ HEd.out)
          generalize wr.drew = wd at *
          change wpAnyM _ _ _ _ _ _ 25 #[false, false, false, false, false, false, false, false, false, false, false, false, false, false, false, false, false, false, false, false, false, false, false, false, false] _ _
          refine wpAnyM_take (i := 0) (oi := { dst := some 16, op := Go.Op.move (Go.Operand.tmp 0), type := 38, pos := "filter.go:95", after := #[], guard := none }) (v := ?v50) rfl (by kernel_rfl) (fun _ _ _ h => h) (Or.inl ⟨by rfl, ?hy50⟩) (by assumption) ?rest50
          case hy50 => (intro wz hSw; (try dsimp only at hSw); go_simp; try with_reducible rfl)
          (try simp only [Act.put, List.setIfInBounds_toArray, List.set_cons_zero, List.set_cons_succ])
          refine wpAnyM_take (i := 1) (oi := { dst := some 17, op := Go.Op.move (Go.Operand.tmp 5), type := 3, pos := "filter.go:95", after := #[], guard := none }) (v := ?v51) rfl (by kernel_rfl) (fun _ _ _ h => h) (Or.inl ⟨by rfl, ?hy51⟩) (by assumption) ?rest51
          case hy51 => (intro wz hSw; (try dsimp only at hSw); go_simp; try with_reducible rfl)
          (try simp only [Act.put, List.setIfInBounds_toArray, List.set_cons_zero, List.set_cons_succ])
          refine wpAnyM_take (i := 2) (oi := { dst := some 18, op := Go.Op.indexAddr 38 (Go.Operand.tmp 16) (Go.Operand.tmp 17), type := 0, pos := "filter.go:95", after := #[{ on := 0, ground := Go.Ground.data }, { on := 1, ground := Go.Ground.data }], guard := none }) (v := ?v52) rfl (by kernel_rfl) (fun _ _ _ h => h) (Or.inl ⟨by rfl, ?hy52⟩) (by assumption) ?rest52
          case hy52 => (intro wz hSw; (try dsimp only at hSw); go_simp; try with_reducible rfl)
          (try simp only [Act.put, List.setIfInBounds_toArray, List.set_cons_zero, List.set_cons_succ])
          refine wpAnyM_take (i := 3) (oi := { dst := some 19, op := Go.Op.fieldAddr 96 (Go.Operand.tmp 18) 0, type := 0, pos := "filter.go:95", after := #[{ on := 2, ground := Go.Ground.data }], guard := none }) (v := ?v53) rfl (by kernel_rfl) (fun _ _ _ h => h) (Or.inl ⟨by rfl, ?hy53⟩) (by assumption) ?rest53
          case hy53 => (intro wz hSw; (try dsimp only at hSw); go_simp; try with_reducible rfl)
          (try simp only [Act.put, List.setIfInBounds_toArray, List.set_cons_zero, List.set_cons_succ])
          refine wpAnyM_take (i := 4) (oi := { dst := some 20, op := Go.Op.load 9 (Go.Operand.tmp 19), type := 9, pos := "filter.go:95", after := #[{ on := 3, ground := Go.Ground.data }], guard := none }) (v := ?v54) rfl (by kernel_rfl) (fun _ _ _ h => h) (Or.inl ⟨by rfl, ?hy54⟩) (by assumption) ?rest54
          case hy54 => (intro wz hSw; (try dsimp only at hSw); go_simp; try with_reducible rfl)
          (try simp only [Act.put, List.setIfInBounds_toArray, List.set_cons_zero, List.set_cons_succ])
          refine wpAnyM_take (i := 5) (oi := { dst := some 21, op := Go.Op.move (Go.Operand.tmp 1), type := 38, pos := "filter.go:95", after := #[], guard := none }) (v := ?v55) rfl (by kernel_rfl) (fun _ _ _ h => h) (Or.inl ⟨by rfl, ?hy55⟩) (by assumption) ?rest55
          case hy55 => (intro wz hSw; (try dsimp only at hSw); go_simp; try with_reducible rfl)
          (try simp only [Act.put, List.setIfInBounds_toArray, List.set_cons_zero, List.set_cons_succ])
          refine wpAnyM_take (i := 6) (oi := { dst := some 22, op := Go.Op.move (Go.Operand.tmp 5), type := 3, pos := "filter.go:95", after := #[], guard := none }) (v := ?v56) rfl (by kernel_rfl) (fun _ _ _ h => h) (Or.inl ⟨by rfl, ?hy56⟩) (by assumption) ?rest56
          case hy56 => (intro wz hSw; (try dsimp only at hSw); go_simp; try with_reducible rfl)
          (try simp only [Act.put, List.setIfInBounds_toArray, List.set_cons_zero, List.set_cons_succ])
          refine wpAnyM_take (i := 7) (oi := { dst := some 23, op := Go.Op.indexAddr 38 (Go.Operand.tmp 21) (Go.Operand.tmp 22), type := 0, pos := "filter.go:95", after := #[{ on := 5, ground := Go.Ground.data }, { on := 6, ground := Go.Ground.data }], guard := none }) (v := ?v57) rfl (by kernel_rfl) (fun _ _ _ h => h) (Or.inl ⟨by rfl, ?hy57⟩) (by assumption) ?rest57
          case hy57 => (intro wz hSw; (try dsimp only at hSw); go_simp; try with_reducible rfl)
          (try simp only [Act.put, List.setIfInBounds_toArray, List.set_cons_zero, List.set_cons_succ])
          refine wpAnyM_take (i := 8) (oi := { dst := some 24, op := Go.Op.fieldAddr 96 (Go.Operand.tmp 23) 0, type := 0, pos := "filter.go:95", after := #[{ on := 7, ground := Go.Ground.data }], guard := none }) (v := ?v58) rfl (by kernel_rfl) (fun _ _ _ h => h) (Or.inl ⟨by rfl, ?hy58⟩) (by assumption) ?rest58
          case hy58 => (intro wz hSw; (try dsimp only at hSw); go_simp; try with_reducible rfl)
          (try simp only [Act.put, List.setIfInBounds_toArray, List.set_cons_zero, List.set_cons_succ])
          refine wpAnyM_take (i := 9) (oi := { dst := some 25, op := Go.Op.load 9 (Go.Operand.tmp 24), type := 9, pos := "filter.go:95", after := #[{ on := 8, ground := Go.Ground.data }], guard := none }) (v := ?v59) rfl (by kernel_rfl) (fun _ _ _ h => h) (Or.inl ⟨by rfl, ?hy59⟩) (by assumption) ?rest59
          case hy59 => (intro wz hSw; (try dsimp only at hSw); go_simp; try with_reducible rfl)
          (try simp only [Act.put, List.setIfInBounds_toArray, List.set_cons_zero, List.set_cons_succ])
          refine wpAnyM_take (i := 10) (oi := { dst := some 26, op := Go.Op.binOp Go.BinOp.neq 9 (Go.Operand.tmp 20) (Go.Operand.tmp 25) 9, type := 4, pos := "filter.go:95", after := #[{ on := 4, ground := Go.Ground.data }, { on := 9, ground := Go.Ground.data }], guard := none }) (v := ?v60) rfl (by kernel_rfl) (fun _ _ _ h => h) (Or.inl ⟨by rfl, ?hy60⟩) (by assumption) ?rest60
          case hy60 => (intro wz hSw; (try dsimp only at hSw); go_simp; try with_reducible rfl)
          (try simp only [Act.put, List.setIfInBounds_toArray, List.set_cons_zero, List.set_cons_succ])
          refine wpAnyM_take (i := 11) (oi := { dst := some 27, op := Go.Op.move (Go.Operand.tmp 26), type := 4, pos := "filter.go:95", after := #[{ on := 10, ground := Go.Ground.data }], guard := none }) (v := ?v61) rfl (by kernel_rfl) (fun _ _ _ h => h) (Or.inl ⟨by rfl, ?hy61⟩) (by assumption) ?rest61
          case hy61 => (intro wz hSw; (try dsimp only at hSw); go_simp; try with_reducible rfl)
          (try simp only [Act.put, List.setIfInBounds_toArray, List.set_cons_zero, List.set_cons_succ])
          refine wpAnyM_take (i := 12) (oi := { dst := some 28, op := Go.Op.move (Go.Operand.tmp 0), type := 38, pos := "filter.go:95", after := #[{ on := 11, ground := Go.Ground.guard }], guard := some (11, false) }) (v := ?v62) rfl (by kernel_rfl) (fun _ _ _ h => h) (Or.inl ⟨by rfl, ?hy62⟩) (by assumption) ?rest62
          case hy62 => (intro wz hSw; (try dsimp only at hSw); go_simp; try with_reducible rfl)
          (try simp only [Act.put, List.setIfInBounds_toArray, List.set_cons_zero, List.set_cons_succ])
          refine wpAnyM_take (i := 13) (oi := { dst := some 29, op := Go.Op.move (Go.Operand.tmp 5), type := 3, pos := "filter.go:95", after := #[{ on := 11, ground := Go.Ground.guard }], guard := some (11, false) }) (v := ?v63) rfl (by kernel_rfl) (fun _ _ _ h => h) (Or.inl ⟨by rfl, ?hy63⟩) (by assumption) ?rest63
          case hy63 => (intro wz hSw; (try dsimp only at hSw); go_simp; try with_reducible rfl)
          (try simp only [Act.put, List.setIfInBounds_toArray, List.set_cons_zero, List.set_cons_succ])
          refine wpAnyM_take (i := 14) (oi := { dst := some 30, op := Go.Op.indexAddr 38 (Go.Operand.tmp 28) (Go.Operand.tmp 29), type := 0, pos := "filter.go:95", after := #[{ on := 12, ground := Go.Ground.data }, { on := 13, ground := Go.Ground.data }, { on := 11, ground := Go.Ground.guard }], guard := some (11, false) }) (v := ?v64) rfl (by kernel_rfl) (fun _ _ _ h => h) (Or.inl ⟨by rfl, ?hy64⟩) (by assumption) ?rest64
          case hy64 => (intro wz hSw; (try dsimp only at hSw); go_simp; try with_reducible rfl)
          (try simp only [Act.put, List.setIfInBounds_toArray, List.set_cons_zero, List.set_cons_succ])
          refine wpAnyM_take (i := 15) (oi := { dst := some 31, op := Go.Op.fieldAddr 96 (Go.Operand.tmp 30) 1, type := 0, pos := "filter.go:95", after := #[{ on := 14, ground := Go.Ground.data }, { on := 11, ground := Go.Ground.guard }], guard := some (11, false) }) (v := ?v65) rfl (by kernel_rfl) (fun _ _ _ h => h) (Or.inl ⟨by rfl, ?hy65⟩) (by assumption) ?rest65
          case hy65 => (intro wz hSw; (try dsimp only at hSw); go_simp; try with_reducible rfl)
          (try simp only [Act.put, List.setIfInBounds_toArray, List.set_cons_zero, List.set_cons_succ])
          refine wpAnyM_take (i := 16) (oi := { dst := some 32, op := Go.Op.load 22 (Go.Operand.tmp 31), type := 22, pos := "filter.go:95", after := #[{ on := 15, ground := Go.Ground.data }, { on := 11, ground := Go.Ground.guard }], guard := some (11, false) }) (v := ?v66) rfl (by kernel_rfl) (fun _ _ _ h => h) (Or.inl ⟨by rfl, ?hy66⟩) (by assumption) ?rest66
          case hy66 => (intro wz hSw; (try dsimp only at hSw); go_simp; try with_reducible rfl)
          (try simp only [Act.put, List.setIfInBounds_toArray, List.set_cons_zero, List.set_cons_succ])
          refine wpAnyM_take (i := 17) (oi := { dst := some 33, op := Go.Op.move (Go.Operand.tmp 1), type := 38, pos := "filter.go:95", after := #[{ on := 11, ground := Go.Ground.guard }], guard := some (11, false) }) (v := ?v67) rfl (by kernel_rfl) (fun _ _ _ h => h) (Or.inl ⟨by rfl, ?hy67⟩) (by assumption) ?rest67
          case hy67 => (intro wz hSw; (try dsimp only at hSw); go_simp; try with_reducible rfl)
          (try simp only [Act.put, List.setIfInBounds_toArray, List.set_cons_zero, List.set_cons_succ])
          refine wpAnyM_take (i := 18) (oi := { dst := some 34, op := Go.Op.move (Go.Operand.tmp 5), type := 3, pos := "filter.go:95", after := #[{ on := 11, ground := Go.Ground.guard }], guard := some (11, false) }) (v := ?v68) rfl (by kernel_rfl) (fun _ _ _ h => h) (Or.inl ⟨by rfl, ?hy68⟩) (by assumption) ?rest68
          case hy68 => (intro wz hSw; (try dsimp only at hSw); go_simp; try with_reducible rfl)
          (try simp only [Act.put, List.setIfInBounds_toArray, List.set_cons_zero, List.set_cons_succ])
          refine wpAnyM_take (i := 19) (oi := { dst := some 35, op := Go.Op.indexAddr 38 (Go.Operand.tmp 33) (Go.Operand.tmp 34), type := 0, pos := "filter.go:95", after := #[{ on := 17, ground := Go.Ground.data }, { on := 18, ground := Go.Ground.data }, { on := 11, ground := Go.Ground.guard }], guard := some (11, false) }) (v := ?v69) rfl (by kernel_rfl) (fun _ _ _ h => h) (Or.inl ⟨by rfl, ?hy69⟩) (by assumption) ?rest69
          case hy69 => (intro wz hSw; (try dsimp only at hSw); go_simp; try with_reducible rfl)
          (try simp only [Act.put, List.setIfInBounds_toArray, List.set_cons_zero, List.set_cons_succ])
          refine wpAnyM_take (i := 20) (oi := { dst := some 36, op := Go.Op.fieldAddr 96 (Go.Operand.tmp 35) 1, type := 0, pos := "filter.go:95", after := #[{ on := 19, ground := Go.Ground.data }, { on := 11, ground := Go.Ground.guard }], guard := some (11, false) }) (v := ?v70) rfl (by kernel_rfl) (fun _ _ _ h => h) (Or.inl ⟨by rfl, ?hy70⟩) (by assumption) ?rest70
          case hy70 => (intro wz hSw; (try dsimp only at hSw); go_simp; try with_reducible rfl)
          (try simp only [Act.put, List.setIfInBounds_toArray, List.set_cons_zero, List.set_cons_succ])
          refine wpAnyM_take (i := 21) (oi := { dst := some 37, op := Go.Op.load 22 (Go.Operand.tmp 36), type := 22, pos := "filter.go:95", after := #[{ on := 20, ground := Go.Ground.data }, { on := 11, ground := Go.Ground.guard }], guard := some (11, false) }) (v := ?v71) rfl (by kernel_rfl) (fun _ _ _ h => h) (Or.inl ⟨by rfl, ?hy71⟩) (by assumption) ?rest71
          case hy71 => (intro wz hSw; (try dsimp only at hSw); go_simp; try with_reducible rfl)
          (try simp only [Act.put, List.setIfInBounds_toArray, List.set_cons_zero, List.set_cons_succ])
          refine wpAnyM_ready (rs := [22]) (by kernel_rfl) (by simp) ?_
          refine AllReadyM.cons (o := { dst := some 38, op := Go.Op.call { callee := Go.Callee.value (Go.Operand.func 61), args := #[Go.Operand.tmp 32, Go.Operand.tmp 37], argTypes := #[22, 22] }, type := 4, pos := "filter.go:95", after := #[{ on := 16, ground := Go.Ground.data }, { on := 21, ground := Go.Ground.data }, { on := 11, ground := Go.Ground.chain }, { on := 11, ground := Go.Ground.guard }], guard := some (11, false) }) rfl (fun K hK => ?_) AllReadyM.nil
          refine step_callW _ (by rfl) 61 [.tmp 32, .tmp 37] #[22, 22] rfl (by kernel_rfl) [_, _] rfl (HEQ.out _ HEd.out) ?_
          rintro en wf ⟨rfl, hE⟩
          refine ⟨_, rfl, ?_⟩
          have HF := hid (HEd.out.trans hE)
          clear hE
          refine hK.out _ _ ?hS72 (fun hHeld => ?_)
          case hS72 => (exact K6.out _ HF.out)
          clear hK K
          (try simp only [Act.put, List.setIfInBounds_toArray, List.set_cons_zero, List.set_cons_succ])
          refine wpAnyM_take (i := 23) (oi := { dst := some 39, op := Go.Op.unOp Go.UnOp.not 4 (Go.Operand.tmp 38), type := 4, pos := "filter.go:95", after := #[{ on := 22, ground := Go.Ground.data }, { on := 11, ground := Go.Ground.guard }], guard := some (11, false) }) (v := ?v73) rfl (by kernel_rfl) (fun _ _ _ h => h) (Or.inl ⟨by rfl, ?hy73⟩) (by assumption) ?rest73
          case hy73 => (intro wz hSw; (try dsimp only at hSw); go_simp; try with_reducible rfl)
          (try simp only [Act.put, List.setIfInBounds_toArray, List.set_cons_zero, List.set_cons_succ])
          refine wpAnyM_take (i := 24) (oi := { dst := some 40, op := Go.Op.pick (Go.Operand.tmp 27) (Go.Operand.const (Go.Value.bool true)) (Go.Operand.tmp 39), type := 4, pos := "filter.go:95", after := #[{ on := 11, ground := Go.Ground.data }, { on := 23, ground := Go.Ground.data }], guard := none }) (v := ?v74) rfl (by kernel_rfl) (fun _ _ _ h => h) (Or.inl ⟨by rfl, ?hy74⟩) (by assumption) ?rest74
          case hy74 => (intro wz hSw; (try dsimp only at hSw); go_simp; try with_reducible rfl)
          (try simp only [Act.put, List.setIfInBounds_toArray, List.set_cons_zero, List.set_cons_succ])
          refine wpAnyM_done (by kernel_rfl) ?_ _
          go_wp2_with fail
          go_ret
          exact ⟨congrArg (fun z => Ending.returned (.bool z)) (show false = eqCs (l.map toC) (l'.map toC) by rw [HST.out]; simp), HF.out⟩
      · have e2 : (m.toList == m'.toList) = false := by rw [ba_toList_beq, decide_eq_false he]
        have RES := hid (show false = eqCs (l.map toC) (l'.map toC) by rw [HST.out, decide_eq_false he]; simp)
        clear he
        refine wp_region_late (fun w' : World => w'.cell? ⟨b1, o1 + j * 2, none⟩ = some (.string m) ∧ w'.cell? ⟨b1, o1 + j * 2 + 1, none⟩ = some (.slice pa p.length pc) ∧ w'.cell? ⟨b2, o2 + j * 2, none⟩ = some (.string m') ∧ w'.cell? ⟨b2, o2 + j * 2 + 1, none⟩ = some (.slice pa' p'.length pc')) [] (by kernel_rfl) ?hS75 (fun hHeld => ?_)
        case hS75 => (exact K6.out _ HEd.out)
        generalize wr.drew = wd at *
        change wpAnyM _ _ _ _ _ _ 25 #[false, false, false, false, false, false, false, false, false, false, false, false, false, false, false, false, false, false, false, false, false, false, false, false, false] _ _
        refine wpAnyM_take (i := 0) (oi := { dst := some 16, op := Go.Op.move (Go.Operand.tmp 0), type := 38, pos := "filter.go:95", after := #[], guard := none }) (v := ?v76) rfl (by kernel_rfl) (fun _ _ _ h => h) (Or.inl ⟨by rfl, ?hy76⟩) (by assumption) ?rest76
        case hy76 => (intro wz hSw; (try dsimp only at hSw); go_simp; try with_reducible rfl)
        (try simp only [Act.put, List.setIfInBounds_toArray, List.set_cons_zero, List.set_cons_succ])
        refine wpAnyM_take (i := 1) (oi := { dst := some 17, op := Go.Op.move (Go.Operand.tmp 5), type := 3, pos := "filter.go:95", after := #[], guard := none }) (v := ?v77) rfl (by kernel_rfl) (fun _ _ _ h => h) (Or.inl ⟨by rfl, ?hy77⟩) (by assumption) ?rest77
        case hy77 => (intro wz hSw; (try dsimp only at hSw); go_simp; try with_reducible rfl)
        (try simp only [Act.put, List.setIfInBounds_toArray, List.set_cons_zero, List.set_cons_succ])
        refine wpAnyM_take (i := 2) (oi := { dst := some 18, op := Go.Op.indexAddr 38 (Go.Operand.tmp 16) (Go.Operand.tmp 17), type := 0, pos := "filter.go:95", after := #[{ on := 0, ground := Go.Ground.data }, { on := 1, ground := Go.Ground.data }], guard := none }) (v := ?v78) rfl (by kernel_rfl) (fun _ _ _ h => h) (Or.inl ⟨by rfl, ?hy78⟩) (by assumption) ?rest78
        case hy78 => (intro wz hSw; (try dsimp only at hSw); go_simp; try with_reducible rfl)
        (try simp only [Act.put, List.setIfInBounds_toArray, List.set_cons_zero, List.set_cons_succ])
        refine wpAnyM_take (i := 3) (oi := { dst := some 19, op := Go.Op.fieldAddr 96 (Go.Operand.tmp 18) 0, type := 0, pos := "filter.go:95", after := #[{ on := 2, ground := Go.Ground.data }], guard := none }) (v := ?v79) rfl (by kernel_rfl) (fun _ _ _ h => h) (Or.inl ⟨by rfl, ?hy79⟩) (by assumption) ?rest79
        case hy79 => (intro wz hSw; (try dsimp only at hSw); go_simp; try with_reducible rfl)
        (try simp only [Act.put, List.setIfInBounds_toArray, List.set_cons_zero, List.set_cons_succ])
        refine wpAnyM_take (i := 4) (oi := { dst := some 20, op := Go.Op.load 9 (Go.Operand.tmp 19), type := 9, pos := "filter.go:95", after := #[{ on := 3, ground := Go.Ground.data }], guard := none }) (v := ?v80) rfl (by kernel_rfl) (fun _ _ _ h => h) (Or.inl ⟨by rfl, ?hy80⟩) (by assumption) ?rest80
        case hy80 => (intro wz hSw; (try dsimp only at hSw); go_simp; try with_reducible rfl)
        (try simp only [Act.put, List.setIfInBounds_toArray, List.set_cons_zero, List.set_cons_succ])
        refine wpAnyM_take (i := 5) (oi := { dst := some 21, op := Go.Op.move (Go.Operand.tmp 1), type := 38, pos := "filter.go:95", after := #[], guard := none }) (v := ?v81) rfl (by kernel_rfl) (fun _ _ _ h => h) (Or.inl ⟨by rfl, ?hy81⟩) (by assumption) ?rest81
        case hy81 => (intro wz hSw; (try dsimp only at hSw); go_simp; try with_reducible rfl)
        (try simp only [Act.put, List.setIfInBounds_toArray, List.set_cons_zero, List.set_cons_succ])
        refine wpAnyM_take (i := 6) (oi := { dst := some 22, op := Go.Op.move (Go.Operand.tmp 5), type := 3, pos := "filter.go:95", after := #[], guard := none }) (v := ?v82) rfl (by kernel_rfl) (fun _ _ _ h => h) (Or.inl ⟨by rfl, ?hy82⟩) (by assumption) ?rest82
        case hy82 => (intro wz hSw; (try dsimp only at hSw); go_simp; try with_reducible rfl)
        (try simp only [Act.put, List.setIfInBounds_toArray, List.set_cons_zero, List.set_cons_succ])
        refine wpAnyM_take (i := 7) (oi := { dst := some 23, op := Go.Op.indexAddr 38 (Go.Operand.tmp 21) (Go.Operand.tmp 22), type := 0, pos := "filter.go:95", after := #[{ on := 5, ground := Go.Ground.data }, { on := 6, ground := Go.Ground.data }], guard := none }) (v := ?v83) rfl (by kernel_rfl) (fun _ _ _ h => h) (Or.inl ⟨by rfl, ?hy83⟩) (by assumption) ?rest83
        case hy83 => (intro wz hSw; (try dsimp only at hSw); go_simp; try with_reducible rfl)
        (try simp only [Act.put, List.setIfInBounds_toArray, List.set_cons_zero, List.set_cons_succ])
        refine wpAnyM_take (i := 8) (oi := { dst := some 24, op := Go.Op.fieldAddr 96 (Go.Operand.tmp 23) 0, type := 0, pos := "filter.go:95", after := #[{ on := 7, ground := Go.Ground.data }], guard := none }) (v := ?v84) rfl (by kernel_rfl) (fun _ _ _ h => h) (Or.inl ⟨by rfl, ?hy84⟩) (by assumption) ?rest84
        case hy84 => (intro wz hSw; (try dsimp only at hSw); go_simp; try with_reducible rfl)
        (try simp only [Act.put, List.setIfInBounds_toArray, List.set_cons_zero, List.set_cons_succ])
        refine wpAnyM_take (i := 9) (oi := { dst := some 25, op := Go.Op.load 9 (Go.Operand.tmp 24), type := 9, pos := "filter.go:95", after := #[{ on := 8, ground := Go.Ground.data }], guard := none }) (v := ?v85) rfl (by kernel_rfl) (fun _ _ _ h => h) (Or.inl ⟨by rfl, ?hy85⟩) (by assumption) ?rest85
        case hy85 => (intro wz hSw; (try dsimp only at hSw); go_simp; try with_reducible rfl)
        (try simp only [Act.put, List.setIfInBounds_toArray, List.set_cons_zero, List.set_cons_succ])
        refine wpAnyM_take (i := 10) (oi := { dst := some 26, op := Go.Op.binOp Go.BinOp.neq 9 (Go.Operand.tmp 20) (Go.Operand.tmp 25) 9, type := 4, pos := "filter.go:95", after := #[{ on := 4, ground := Go.Ground.data }, { on := 9, ground := Go.Ground.data }], guard := none }) (v := ?v86) rfl (by kernel_rfl) (fun _ _ _ h => h) (Or.inl ⟨by rfl, ?hy86⟩) (by assumption) ?rest86
        case hy86 => (intro wz hSw; (try dsimp only at hSw); go_simp; try with_reducible rfl)
        (try simp only [Act.put, List.setIfInBounds_toArray, List.set_cons_zero, List.set_cons_succ])
        refine wpAnyM_take (i := 11) (oi := { dst := some 27, op := Go.Op.move (Go.Operand.tmp 26), type := 4, pos := "filter.go:95", after := #[{ on := 10, ground := Go.Ground.data }], guard := none }) (v := ?v87) rfl (by kernel_rfl) (fun _ _ _ h => h) (Or.inl ⟨by rfl, ?hy87⟩) (by assumption) ?rest87
        case hy87 => (intro wz hSw; (try dsimp only at hSw); go_simp; try with_reducible rfl)
        (try simp only [Act.put, List.setIfInBounds_toArray, List.set_cons_zero, List.set_cons_succ])
        refine wpAnyM_take (i := 12) (oi := { dst := some 28, op := Go.Op.move (Go.Operand.tmp 0), type := 38, pos := "filter.go:95", after := #[{ on := 11, ground := Go.Ground.guard }], guard := some (11, false) }) (v := undef) rfl (by kernel_rfl) (fun _ _ _ h => h) (Or.inr ⟨by rfl, rfl⟩) (by assumption) ?_
        (try simp only [Act.put, List.setIfInBounds_toArray, List.set_cons_zero, List.set_cons_succ])
        refine wpAnyM_take (i := 13) (oi := { dst := some 29, op := Go.Op.move (Go.Operand.tmp 5), type := 3, pos := "filter.go:95", after := #[{ on := 11, ground := Go.Ground.guard }], guard := some (11, false) }) (v := undef) rfl (by kernel_rfl) (fun _ _ _ h => h) (Or.inr ⟨by rfl, rfl⟩) (by assumption) ?_
        (try simp only [Act.put, List.setIfInBounds_toArray, List.set_cons_zero, List.set_cons_succ])
        refine wpAnyM_take (i := 14) (oi := { dst := some 30, op := Go.Op.indexAddr 38 (Go.Operand.tmp 28) (Go.Operand.tmp 29), type := 0, pos := "filter.go:95", after := #[{ on := 12, ground := Go.Ground.data }, { on := 13, ground := Go.Ground.data }, { on := 11, ground := Go.Ground.guard }], guard := some (11, false) }) (v := undef) rfl (by kernel_rfl) (fun _ _ _ h => h) (Or.inr ⟨by rfl, rfl⟩) (by assumption) ?_
        (try simp only [Act.put, List.setIfInBounds_toArray, List.set_cons_zero, List.set_cons_succ])
        refine wpAnyM_take (i := 15) (oi := { dst := some 31, op := Go.Op.fieldAddr 96 (Go.Operand.tmp 30) 1, type := 0, pos := "filter.go:95", after := #[{ on := 14, ground := Go.Ground.data }, { on := 11, ground := Go.Ground.guard }], guard := some (11, false) }) (v := undef) rfl (by kernel_rfl) (fun _ _ _ h => h) (Or.inr ⟨by rfl, rfl⟩) (by assumption) ?_
        (try simp only [Act.put, List.setIfInBounds_toArray, List.set_cons_zero, List.set_cons_succ])
        refine wpAnyM_take (i := 16) (oi := { dst := some 32, op := Go.Op.load 22 (Go.Operand.tmp 31), type := 22, pos := "filter.go:95", after := #[{ on := 15, ground := Go.Ground.data }, { on := 11, ground := Go.Ground.guard }], guard := some (11, false) }) (v := undef) rfl (by kernel_rfl) (fun _ _ _ h => h) (Or.inr ⟨by rfl, rfl⟩) (by assumption) ?_
        (try simp only [Act.put, List.setIfInBounds_toArray, List.set_cons_zero, List.set_cons_succ])
        refine wpAnyM_take (i := 17) (oi := { dst := some 33, op := Go.Op.move (Go.Operand.tmp 1), type := 38, pos := "filter.go:95", after := #[{ on := 11, ground := Go.Ground.guard }], guard := some (11, false) }) (v := undef) rfl (by kernel_rfl) (fun _ _ _ h => h) (Or.inr ⟨by rfl, rfl⟩) (by assumption) ?_
        (try simp only [Act.put, List.setIfInBounds_toArray, List.set_cons_zero, List.set_cons_succ])
        refine wpAnyM_take (i := 18) (oi := { dst := some 34, op := Go.Op.move (Go.Operand.tmp 5), type := 3, pos := "filter.go:95", after := #[{ on := 11, ground := Go.Ground.guard }], guard := some (11, false) }) (v := undef) rfl (by kernel_rfl) (fun _ _ _ h => h) (Or.inr ⟨by rfl, rfl⟩) (by assumption) ?_
        (try simp only [Act.put, List.setIfInBounds_toArray, List.set_cons_zero, List.set_cons_succ])
        refine wpAnyM_take (i := 19) (oi := { dst := some 35, op := Go.Op.indexAddr 38 (Go.Operand.tmp 33) (Go.Operand.tmp 34), type := 0, pos := "filter.go:95", after := #[{ on := 17, ground := Go.Ground.data }, { on := 18, ground := Go.Ground.data }, { on := 11, ground := Go.Ground.guard }], guard := some (11, false) }) (v := undef) rfl (by kernel_rfl) (fun _ _ _ h => h) (Or.inr ⟨by rfl, rfl⟩) (by assumption) ?_
        (try simp only [Act.put, List.setIfInBounds_toArray, List.set_cons_zero, List.set_cons_succ])
        refine wpAnyM_take (i := 20) (oi := { dst := some 36, op := Go.Op.fieldAddr 96 (Go.Operand.tmp 35) 1, type := 0, pos := "filter.go:95", after := #[{ on := 19, ground := Go.Ground.data }, { on := 11, ground := Go.Ground.guard }], guard := some (11, false) }) (v := undef) rfl (by kernel_rfl) (fun _ _ _ h => h) (Or.inr ⟨by rfl, rfl⟩) (by assumption) ?_
        (try simp only [Act.put, List.setIfInBounds_toArray, List.set_cons_zero, List.set_cons_succ])
        refine wpAnyM_take (i := 21) (oi := { dst := some 37, op := Go.Op.load 22 (Go.Operand.tmp 36), type := 22, pos := "filter.go:95", after := #[{ on := 20, ground := Go.Ground.data }, { on := 11, ground := Go.Ground.guard }], guard := some (11, false) }) (v := undef) rfl (by kernel_rfl) (fun _ _ _ h => h) (Or.inr ⟨by rfl, rfl⟩) (by assumption) ?_
        (try simp only [Act.put, List.setIfInBounds_toArray, List.set_cons_zero, List.set_cons_succ])
        refine wpAnyM_take (i := 22) (oi := { dst := some 38, op := Go.Op.call { callee := Go.Callee.value (Go.Operand.func 61), args := #[Go.Operand.tmp 32, Go.Operand.tmp 37], argTypes := #[22, 22] }, type := 4, pos := "filter.go:95", after := #[{ on := 16, ground := Go.Ground.data }, { on := 21, ground := Go.Ground.data }, { on := 11, ground := Go.Ground.chain }, { on := 11, ground := Go.Ground.guard }], guard := some (11, false) }) (v := undef) rfl (by kernel_rfl) (fun _ _ _ h => h) (Or.inr ⟨by rfl, rfl⟩) (by assumption) ?_
        (try simp only [Act.put, List.setIfInBounds_toArray, List.set_cons_zero, List.set_cons_succ])
        refine wpAnyM_take (i := 23) (oi := { dst := some 39, op := Go.Op.unOp Go.UnOp.not 4 (Go.Operand.tmp 38), type := 4, pos := "filter.go:95", after := #[{ on := 22, ground := Go.Ground.data }, { on := 11, ground := Go.Ground.guard }], guard := some (11, false) }) (v := undef) rfl (by kernel_rfl) (fun _ _ _ h => h) (Or.inr ⟨by rfl, rfl⟩) (by assumption) ?_
        (try simp only [Act.put, List.setIfInBounds_toArray, List.set_cons_zero, List.set_cons_succ])
        refine wpAnyM_take (i := 24) (oi := { dst := some 40, op := Go.Op.pick (Go.Operand.tmp 27) (Go.Operand.const (Go.Value.bool true)) (Go.Operand.tmp 39), type := 4, pos := "filter.go:95", after := #[{ on := 11, ground := Go.Ground.data }, { on := 23, ground := Go.Ground.data }], guard := none }) (v := ?v88) rfl (by kernel_rfl) (fun _ _ _ h => h) (Or.inl ⟨by rfl, ?hy88⟩) (by assumption) ?rest88
        case hy88 => (intro wz hSw; (try dsimp only at hSw); go_simp; try with_reducible rfl)
        (try simp only [Act.put, List.setIfInBounds_toArray, List.set_cons_zero, List.set_cons_succ])
        refine wpAnyM_done (by kernel_rfl) ?_ _
        go_wp2_with fail
        go_ret
        exact ⟨congrArg (fun z => Ending.returned (.bool z)) RES.out, HEd.out⟩
    · have RES := hid (show true = eqCs (l.map toC) (l'.map toC) by
        have h := HP.out
        rw [List.drop_eq_nil_of_le (by rw [List.length_map]; omega), List.drop_eq_nil_of_le (by rw [List.length_map]; have := HL.out; omega)] at h
        rw [← h]; rfl)
      go_wp2_with fail
      go_ret
      exact ⟨congrArg (fun z => Ending.returned (.bool z)) RES.out, HE.out⟩
set_option maxHeartbeats 1000000 in
theorem tameC (l : List (ByteArray × List GE)) (v : Value) (w : World) (h : RepCs w v l) : Calls Try.prog 20 #[v] w fun e w' => e = .returned (.bool (l.all fun c => c.2.all ordE)) ∧ Ext w w' := by
  obtain ⟨a1, b1, o1, c1, rfl, s1, at1⟩ := h
  have HA1 := hid at1
  clear at1
  go_enter Try.func20, Try.ntmps20
  go_wp2_with fail
  go_loopw [7] (fun i wr => ∃ j : Nat, i = .int .i64 j ∧ j ≤ l.length ∧ Hid ((l.drop j).all (fun c => c.2.all ordE) = l.all fun c => c.2.all ordE) ∧ Hid (Ext w wr)) (fun i _ => l.length - (intOf i).toNat)
  case atStart => exact ⟨0, rfl, Nat.zero_le _, hid rfl, hid (Ext.refl _)⟩
  case round =>
    obtain ⟨j, rfl, hj, HP, HE⟩ := hrel
    by_cases hlt : j < l.length
    · obtain ⟨⟨m, p⟩, hx⟩ : ∃ x, l[j]? = some x := ⟨_, List.getElem?_eq_getElem hlt⟩
      obtain ⟨rfl, -, k1, pa, pc, k2, k3⟩ := HA1.out j _ hx
      have hst := all_step (f := fun c : ByteArray × List GE => c.2.all ordE) hx
      rw [HP.out] at hst
      obtain ⟨b, hb⟩ : ∃ b, p.all ordE = b := ⟨_, rfl⟩
      have HEQ := hid (fun (W : World) (E : Ext w W) => tame_any p _ W (k3.ext E))
      have hst2 : l.all (fun c => c.2.all ordE) = (p.all ordE && (l.drop (j + 1)).all fun c => c.2.all ordE) := hst
      rw [hb] at HEQ hst2
      have HST := hid hst2
      have q1 := HE.out.cellS k1
      have q2 := HE.out.cellS k2
      have p0 : (0 : Int) ≤ (j : Int) := by omega
      have p1 : (j : Int) < (l.length : Int) := by omega
      clear hx k1 k2 k3 hst hst2 hb
      cases b
      all_goals
        go_wp2_with (go_at_call 11; refine (HEQ.out _ (HE.out.alloc _)).mono ?_; rintro e w2 ⟨rfl, hE⟩; have HE2 := hid ((HE.out.alloc _).trans hE); clear hE)
      · go_ret
        exact ⟨congrArg (fun z => Ending.returned (.bool z)) (show false = l.all (fun c => c.2.all ordE) by rw [HST.out]; rfl), HE2.out⟩
      · exact ⟨⟨j + 1, by go_num, by omega, hid (by have h := HST.out; simpa using h.symm), HE2⟩, by simp [intOf]; omega⟩
    · have RES := hid (show true = l.all (fun c => c.2.all ordE) by rw [← HP.out, all_end (by omega)])
      go_wp2_with fail
      go_ret
      exact ⟨congrArg (fun z => Ending.returned (.bool z)) RES.out, HE.out⟩
theorem info_mc : (Try.prog.info? 169).map (fun i => (i.zero, i.size, i.bytes)) = some (some (.agg #[.string ByteArray.empty, .slice none 0 0]), 2, 40) := by kernel_rfl
def RowMC (S : Nat → Prop) (w : World) (xs : List Value) (l : List (ByteArray × List El)) : Prop :=
  xs.length = l.length * 2 ∧ ∀ (i : Nat) (c : ByteArray × List El), l[i]? = some c → xs[i * 2]? = some (.string c.1) ∧ ∃ pa pc, xs[i * 2 + 1]? = some (.slice pa c.2.length pc) ∧ RepPath S w (.slice pa c.2.length pc) c.2
theorem RowMC.nil (S : Nat → Prop) (w : World) : RowMC S w [] [] := ⟨rfl, fun i g h => by simp at h⟩
theorem RowMC.mono {S S' : Nat → Prop} {w w' : World} {xs : List Value} {l : List (ByteArray × List El)} (h : RowMC S w xs l) (hs : Same S w w') (hS : ∀ b, S b → b < w.heap.size → S' b) : RowMC S' w' xs l :=
  ⟨h.1, fun i c hc => by obtain ⟨h1, pa, pc, h2, h3⟩ := h.2 i c hc; exact ⟨h1, pa, pc, h2, h3.mono hs hS⟩⟩
theorem RowMC.snoc {S : Nat → Prop} {w : World} {xs : List Value} {l : List (ByteArray × List El)} (h : RowMC S w xs l) {m : ByteArray} {p : List El} {pa : Option Addr} {pc : Nat} (hp : RepPath S w (.slice pa p.length pc) p) : RowMC S w (xs ++ [.string m, .slice pa p.length pc]) (l ++ [(m, p)]) := by
  refine ⟨by simp [h.1]; omega, fun i c hc => ?_⟩
  by_cases hi : i < l.length
  · rw [List.getElem?_append_left hi] at hc
    obtain ⟨h1, pa', pc', h2, h3⟩ := h.2 i c hc
    exact ⟨by rw [List.getElem?_append_left (by rw [h.1]; omega)]; exact h1, pa', pc', by rw [List.getElem?_append_left (by rw [h.1]; omega)]; exact h2, h3⟩
  · have hi' : i = l.length := by have := (List.getElem?_eq_some_iff.1 hc).1; simp at this; omega
    subst hi'
    simp at hc
    subst hc
    refine ⟨?_, pa, pc, ?_, hp⟩
    · rw [List.getElem?_append_right (by rw [h.1]; omega), h.1, Nat.sub_self]; rfl
    · rw [List.getElem?_append_right (by rw [h.1]; omega), h.1, show l.length * 2 + 1 - l.length * 2 = 1 by omega]; rfl
theorem mc_of_row {S : Nat → Prop} {W : World} {base n : Nat} {v : Value} {xs : List Value} {l : List (ByteArray × List El)} (hown : W.ownsRow base 169 2 v n xs) (hrow : RowMC S W xs l) (hsz : l.length * 40 ≤ 140737488351232) : RepMC W v l := by
  have hn : n = l.length := by have := hown.1; have := hrow.1; omega
  obtain ⟨a, c, rfl⟩ := own_form hown
  subst hn
  by_cases h0 : 0 < l.length
  · obtain ⟨g, cap, hv, -, -⟩ := hown.form (by omega)
    simp only [Value.slice.injEq, true_and] at hv
    obtain ⟨rfl, rfl⟩ := hv
    refine ⟨_, g, _, rfl, hsz, fun i z hz => ?_⟩
    obtain ⟨k1, pa, pc, k2, k3⟩ := hrow.2 i z hz
    have hi := (List.getElem?_eq_some_iff.1 hz).1
    exact ⟨rfl, (hown.cellAt (i * 2) (by omega)).trans k1, pa, pc, (hown.cellAt (i * 2 + 1) (by omega)).trans k2, k3.mono (Same.refl _ _) (fun _ _ _ => trivial)⟩
  · exact ⟨a, 0, c, rfl, hsz, fun i z hz => by have := (List.getElem?_eq_some_iff.1 hz).1; omega⟩
set_option maxHeartbeats 2000000 in
theorem toConfs (l : List (ByteArray × List GE)) (v : Value) (w : World) (h : RepCs w v l) : Calls Try.prog 59 #[v] w fun e w' => ∃ v', e = .returned v' ∧ RepMC w' v' (l.map toC) ∧ Ext w w' := by
  obtain ⟨i0, hi, hz0, hz1, hz2⟩ := info_parts info_mc
  obtain ⟨a1, b1, o1, c1, rfl, s1, at1⟩ := h
  have HA1 := hid at1
  clear at1
  go_enter Try.func59, Try.ntmps59
  have HO0 := hid (World.ownsRow_lit (base := w.heap.size) (e := 169) (size := 2) w #[] 0 (Nat.le_refl _) (by decide) (by simp))
  go_wp2_with fail
  go_loopw [3, 9] (fun v i wr => ∃ (j : Nat) (xs : List Value), i = .int .i64 j ∧ j ≤ l.length ∧ Hid (wr.ownsRow w.heap.size 169 2 v j xs) ∧ Hid (RowMC (fun b => w.heap.size ≤ b ∧ some b ≠ v.ownBlock) wr xs ((l.map toC).take j)) ∧ Hid (Ext w wr)) (fun _ i _ => l.length - (intOf i).toNat)
  case atStart => exact ⟨0, [], rfl, Nat.zero_le _, hid (by have := HO0.out; simpa using this), hid (RowMC.nil _ _), hid ((Ext.refl w).alloc _)⟩
  case round =>
    obtain ⟨j, xs, rfl, hj, HO, HR, HE⟩ := hrel
    by_cases hlt : j < l.length
    · obtain ⟨⟨m, p⟩, hx⟩ : ∃ x, l[j]? = some x := ⟨_, List.getElem?_eq_getElem hlt⟩
      obtain ⟨rfl, -, k1, pa, pc, k2, k3⟩ := HA1.out j _ hx
      obtain ⟨sa, sc, rfl⟩ := own_form HO.out
      have HTK := hid (show (l.map toC).take (j + 1) = (l.map toC).take j ++ [(m, p.map toEl)] from take_snoc' (by rw [List.getElem?_map, hx]; rfl))
      have q1 := HE.out.cellS k1
      have q2 := HE.out.cellS k2
      have HG := hid k3
      have p0 : (0 : Int) ≤ (j : Int) := by omega
      have p1 : (j : Int) < (l.length : Int) := by omega
      clear hx k1 k2 k3
      go_upto_region 5 with fail
      have HBX := hid (heap_alloc_new wr (.cells #[.string m, .slice pa p.length pc] 96))
      have HEB := hid ((Ext.refl wr).alloc (.cells #[.string m, .slice pa p.length pc] 96))
      have HSB := hid (show wr.heap.size < (wr.alloc (.cells #[.string m, .slice pa p.length pc] 96)).heap.size by simp)
      generalize wr.alloc (.cells #[.string m, .slice pa p.length pc] 96) = wb at *
      have b0 := (cell_of_heap HBX.out 0).trans rfl
      have b1 := (cell_of_heap HBX.out 1).trans rfl
      have HOB := hid (ownsRow_ext HO.out HEB.out)
      have HBS := hid (Nat.le_trans HE.out.size (Nat.le_of_lt HSB.out))
      have HEd5 := hid (show Ext w wb.drew from (HE.out.trans HEB.out).drew)
      have HRB := hid (HR.out.mono (HEB.out.same _) (fun _ h _ => h))
      clear q1 q2
      generalize wr.heap.size = bb at *
      refine wp_region_late (fun w' : World => w'.cell? ⟨bb, 0, none⟩ = some (.string m) ∧ w'.cell? ⟨bb, 1, none⟩ = some (.slice pa p.length pc)) [8] (by kernel_rfl) ?hS89 (fun hHeld => ?_)
      case hS89 => (exact ⟨b0, b1⟩)
      change wpAnyM _ _ _ _ _ _ 10 #[false, false, false, false, false, false, false, false, false, false] _ _
      refine wpAnyM_take (i := 0) (oi := { dst := some 13, op := Go.Op.move (Go.Operand.tmp 3), type := 98, pos := "objects.go:167", after := #[], guard := none }) (v := ?v90) rfl (by kernel_rfl) (fun _ _ _ h => h) (Or.inl ⟨by rfl, ?hy90⟩) (by assumption) ?rest90
      case hy90 => (intro wz hSw; (try dsimp only at hSw); go_simp; try with_reducible rfl)
      (try simp only [Act.put, List.setIfInBounds_toArray, List.set_cons_zero, List.set_cons_succ])
      refine wpAnyM_takeY (i := 1) (oi := { dst := some 14, op := Go.Op.fieldAddr 96 (Go.Operand.tmp 5) 0, type := 0, pos := "objects.go:167", after := #[], guard := none }) (v := ?v91) rfl (by kernel_rfl) (fun _ _ _ h => h) (Or.inl ⟨by rfl, ?hy91⟩) (fun _ => by assumption) ?rest91
      case hy91 => (intro wz hSw; (try dsimp only at hSw); go_simp; try with_reducible rfl)
      (try simp only [Act.put, List.setIfInBounds_toArray, List.set_cons_zero, List.set_cons_succ])
      refine wpAnyM_take (i := 2) (oi := { dst := some 15, op := Go.Op.load 9 (Go.Operand.tmp 14), type := 9, pos := "objects.go:167", after := #[{ on := 1, ground := Go.Ground.data }], guard := none }) (v := ?v92) rfl (by kernel_rfl) (fun _ _ _ h => h) (Or.inl ⟨by rfl, ?hy92⟩) (by assumption) ?rest92
      case hy92 => (intro wz hSw; (try dsimp only at hSw); go_simp; try with_reducible rfl)
      (try simp only [Act.put, List.setIfInBounds_toArray, List.set_cons_zero, List.set_cons_succ])
      refine wpAnyM_take (i := 3) (oi := { dst := some 16, op := Go.Op.fieldAddr 96 (Go.Operand.tmp 5) 1, type := 0, pos := "objects.go:167", after := #[], guard := none }) (v := ?v93) rfl (by kernel_rfl) (fun _ _ _ h => h) (Or.inl ⟨by rfl, ?hy93⟩) (by assumption) ?rest93
      case hy93 => (intro wz hSw; (try dsimp only at hSw); go_simp; try with_reducible rfl)
      (try simp only [Act.put, List.setIfInBounds_toArray, List.set_cons_zero, List.set_cons_succ])
      refine wpAnyM_take (i := 4) (oi := { dst := some 17, op := Go.Op.load 22 (Go.Operand.tmp 16), type := 22, pos := "objects.go:167", after := #[{ on := 3, ground := Go.Ground.data }], guard := none }) (v := ?v94) rfl (by kernel_rfl) (fun _ _ _ h => h) (Or.inl ⟨by rfl, ?hy94⟩) (by assumption) ?rest94
      case hy94 => (intro wz hSw; (try dsimp only at hSw); go_simp; try with_reducible rfl)
      (try simp only [Act.put, List.setIfInBounds_toArray, List.set_cons_zero, List.set_cons_succ])
      refine wpAnyM_ready (rs := [5]) (by kernel_rfl) (by simp) ?_
      refine AllReadyM.cons (o := { dst := some 18, op := Go.Op.call { callee := Go.Callee.value (Go.Operand.func 46), args := #[Go.Operand.tmp 17], argTypes := #[22] }, type := 77, pos := "objects.go:167", after := #[{ on := 4, ground := Go.Ground.data }], guard := none }) rfl (fun K hK => ?_) AllReadyM.nil
      refine step_call _ rfl 46 [.tmp 17] #[22] rfl (by kernel_rfl) [_] rfl (toPath_any p _ _ (HG.out.ext HEd5.out)) ?_
      rintro en w5 ⟨pv, rfl, hT, hE⟩
      obtain ⟨qa, qc, rfl⟩ := hT.form
      rw [List.length_map]
      refine ⟨_, rfl, ?_⟩
      have HT5 := hid hT
      have HE5 := hid ((Ext.refl wb).drew.trans hE)
      clear hT hE
      refine hK.out _ _ ?hS95 (fun hHeld => ?_)
      case hS95 => (exact ⟨HE5.out.cellS b0, HE5.out.cellS b1⟩)
      clear hK K
      (try simp only [Act.put, List.setIfInBounds_toArray, List.set_cons_zero, List.set_cons_succ])
      refine wpAnyM_take (i := 6) (oi := { dst := some 19, op := Go.Op.build 169 #[(0, Go.Operand.tmp 15), (1, Go.Operand.tmp 18)], type := 169, pos := "objects.go:167", after := #[{ on := 2, ground := Go.Ground.data }, { on := 5, ground := Go.Ground.data }], guard := none }) (v := ?v96) rfl (by kernel_rfl) (fun _ _ _ h => h) (Or.inl ⟨by rfl, ?hy96⟩) (by assumption) ?rest96
      case hy96 => (intro wz hSw; (try dsimp only at hSw); go_simp; try with_reducible rfl)
      (try simp only [Act.put, List.setIfInBounds_toArray, List.set_cons_zero, List.set_cons_succ])
      refine wpAnyM_ready (rs := [7]) (by kernel_rfl) (by simp) ?_
      refine AllReadyM.cons (o := { dst := some 20, op := Go.Op.buildSlice 98 1 #[(0, Go.Operand.tmp 19)], type := 98, pos := "objects.go:167", after := #[{ on := 6, ground := Go.Ground.data }], guard := none }) rfl (fun K hK => ?_) AllReadyM.nil
      go_simp
      refine hK.out _ _ ?hS97 (fun hHeld => ?_)
      case hS97 => (exact ⟨(HE5.out.alloc _).cellS b0, (HE5.out.alloc _).cellS b1⟩)
      clear hK K
      (try simp only [Act.put, List.setIfInBounds_toArray, List.set_cons_zero, List.set_cons_succ])
      refine wpAnyM_ready (rs := [8]) (by kernel_rfl) (by simp) ?_
      refine AllReadyM.behind (o := { dst := some 21, op := Go.Op.call { callee := Go.Callee.builtin Go.Builtin.append, args := #[Go.Operand.tmp 13, Go.Operand.tmp 20], argTypes := #[98, 98] }, type := 98, pos := "objects.go:167", after := #[{ on := 0, ground := Go.Ground.data }, { on := 7, ground := Go.Ground.data }, { on := 5, ground := Go.Ground.chain }], guard := none }) rfl (by kernel_rfl) (fun K hK => ?_) AllReadyM.nil
      refine step_append_lies _ rfl (.tmp 13) (.tmp 20) 98 rfl w.heap.size 169 i0 _ 2 40 Try.underlying98 hi hz0 hz1 hz2 rfl (by decide) _ j xs rfl ((ownsRow_ext HOB.out HE5.out).alloc _) ⟨w5.heap.size, 0, none⟩ 1 1 [.string m, .slice qa p.length qc] rfl rfl (cells_new w5 [.string m, .slice qa p.length qc] _) (by simp [Value.oneCell']) (by decide) (by unfold maxLen; omega) (by omega) (by have := HBS.out; have := HE5.out.size; simp; omega) (w5.heap.size + 1) (by simp) ?_
      intro g6 cap6 w6 hown6 hg6 hat6 hlt6
      have ST := hid (row_step HBS.out HOB.out HE5.out hown6 hg6 hat6)
      have HO6 := hid hown6
      clear hown6 hg6 hat6 hlt6
      refine hK.out _ _ ?_
      clear hK K
      (try simp only [Act.put, List.setIfInBounds_toArray, List.set_cons_zero, List.set_cons_succ])
      refine wpAnyM_takeY (i := 9) (oi := { dst := some 3, op := Go.Op.assign (Go.Operand.tmp 21), type := 98, pos := "objects.go:167", after := #[{ on := 8, ground := Go.Ground.data }, { on := 8, ground := Go.Ground.chain }, { on := 0, ground := Go.Ground.phase }, { on := 1, ground := Go.Ground.phase }, { on := 2, ground := Go.Ground.phase }, { on := 3, ground := Go.Ground.phase }, { on := 4, ground := Go.Ground.phase }, { on := 5, ground := Go.Ground.phase }, { on := 6, ground := Go.Ground.phase }, { on := 7, ground := Go.Ground.phase }, { on := 8, ground := Go.Ground.phase }], guard := none }) (v := ?v98) rfl (by kernel_rfl) (fun _ _ _ h => h) (Or.inl ⟨by rfl, ?hy98⟩) (fun hcl => absurd (hcl 8 (by simp)) (by simp)) ?rest98
      case hy98 => (intro wz hSw; (try dsimp only at hSw); go_simp; try with_reducible rfl)
      (try simp only [Act.put, List.setIfInBounds_toArray, List.set_cons_zero, List.set_cons_succ])
      refine wpAnyM_done (by kernel_rfl) ?_ _
      go_wp2_with fail
      refine ⟨⟨j + 1, _, by go_num, by omega, HO6, hid ?_, hid (Below.trans (B := w.heap.size) (HE.out.trans HEB.out) ST.out.2.2.2.2.1)⟩, by simp [intOf]; omega⟩
      rw [HTK.out]
      have hh := (HRB.out.mono (S' := fun b => w.heap.size ≤ b ∧ some b ≠ (Value.slice (some ⟨g6, 0, none⟩) (j + 1) cap6).ownBlock) ST.out.1 (fun b hb hlt => ⟨hb.1, fun e => ST.out.2.1 b hlt hb.2 (Option.some.inj e)⟩)).snoc (m := m) (HT5.out.mono ST.out.2.2.1 (fun b hb hlt => ⟨Nat.le_trans HBS.out hb, fun e => ST.out.2.2.2.1 b hb hlt (Option.some.inj e)⟩))
      rw [List.length_map] at hh
      exact hh
    · have HMC := hid (mc_of_row HO.out (l := l.map toC) (by have h := HR.out; rwa [List.take_of_length_le (by rw [List.length_map]; omega)] at h) (by rw [List.length_map]; exact s1))
      go_wp2_with fail
      go_ret
      exact ⟨_, rfl, HMC.out, HE.out⟩
set_option maxHeartbeats 1000000 in
theorem implEqC (l l' : List (ByteArray × List GE)) (v v' : Value) (w : World) (h1 : RepCs w v l) (h2 : RepCs w v' l') : Calls Try.prog 21 #[v, v'] w fun e w' => e = .returned (.bool (eqCs (l.map toC) (l'.map toC))) ∧ Ext w w' := by
  have H1 := hid h1
  have H2 := hid h2
  obtain ⟨a1, b1, o1, c1, rfl, -⟩ := h1
  obtain ⟨a2, b2, o2, c2, rfl, -⟩ := h2
  have HC1 := hid (fun (W : World) (E : Ext w W) => toConfs l _ W (H1.out.ext E))
  have HC2 := hid (fun (W : World) (E : Ext w W) => toConfs l' _ W (H2.out.ext E))
  have HC3 := hid (fun (W : World) u1 u2 h1 h2 => confsEq (l.map toC) (l'.map toC) u1 u2 W h1 h2)
  have tk : True := trivial
  clear H1 H2
  go_enter Try.func21, Try.ntmps21
  go_wp2_with (first
    | (go_at_call 59; have _t := tk; refine (HC1.out _ (Ext.refl _)).mono ?_; rintro e w2 ⟨u1, rfl, hR, hE⟩; have hR0 := hR; obtain ⟨x1, x2, x3, rfl, -⟩ := hR; rw [List.length_map] at hR0; have HR1 := hid hR0; clear hR0; have HE1 := hid hE; clear hE tk _t)
    | (go_at_call 59; refine (HC2.out _ HE1.out).mono ?_; rintro e w3 ⟨u2, rfl, hR, hE⟩; have hR0 := hR; obtain ⟨y1, y2, y3, rfl, -⟩ := hR; rw [List.length_map] at hR0; have HR2 := hid hR0; clear hR0; have HR1' := hid (HR1.out.ext hE); have HE2 := hid (HE1.out.trans hE); clear hE)
    | (go_at_call 60; refine (HC3.out _ _ _ HR1'.out HR2.out).mono ?_; rintro e w4 ⟨rfl, hE⟩; have HE3 := hid (HE2.out.trans hE); clear hE))
  go_ret
  exact ⟨rfl, HE3.out⟩
end Go.Proofs.Ytempfaefopfobaa
