/- LkF: impl.fromField. -/
import Derived.Test.YtempfaefopfobaaLk
import Derived.Test.YtempfaefopfobaaSetG

set_option maxRecDepth 100000
namespace Go.Proofs.Ytempfaefopfobaa
open Go.ChangeShapes Go.WideShapes Go.ChangeAt Go.RowKit
set_option linter.unusedVariables false
set_option linter.unusedSimpArgs false

theorem hasD_clean (d : GV) : hasD [cleanG d] = !(kcode (plainT d) == 0) := by
  have e : kcode (plainT (cleanG d)) = kcode (plainT d) := by
    rw [clean_eq]
    cases plainT d <;> simp [fromT, plainT, kcode, zeroG]
  simp only [hasD, e]
set_option maxHeartbeats 8000000 in
theorem fromField_0 (w : World) (name : ByteArray) (hname : name.size ≤ 140737488351232) (t : GS) (ht : t.tag = 1) (p1 p2 p3 p4 p5 : Option Addr) (hR : RepS Any w t [.pointer p1, .pointer p2, .pointer p3, .pointer p4, .pointer p5, .bool false]) (hb : BackOK 107 1 t) (ds : List GV) (hk : hasD ds = false) :
    Calls Try.prog 127 #[.agg #[.string name, .pointer p1, .pointer p2, .pointer p3, .pointer p4, .pointer p5, .bool false, .nilIface]] w fun e w' => ∃ g' cs', e = .returned (.agg cs'.toArray) ∧ g'.tag = 5 ∧ Lk g' (.fld name t ds) ∧ RepGS (fun b => w.heap.size ≤ b) w' g' cs' ∧ Ext w w' := by
  have HNZ := hid hname
  have HC := hid (fun W (hW : Ext w W) => hb ht W _ (hR.ext hW))
  have HK := hid hk
  skip
  clear hname hR hb hk  ht
  go_enter Try.func127, Try.ntmps127
  go_upto_region 1 with fail
  have HX0 := hid (first_heap w (.cells #[.string name, .pointer p1, .pointer p2, .pointer p3, .pointer p4, .pointer p5, .bool false, .nilIface] 212) (.cells #[.string ⟨#[]⟩, .bool false, .string ⟨#[]⟩, .string ⟨#[]⟩, .slice none 0 0, .slice none 0 0, .string ⟨#[]⟩, .slice none 0 0] 156))
  have HX1 := hid (second_heap w (.cells #[.string name, .pointer p1, .pointer p2, .pointer p3, .pointer p4, .pointer p5, .bool false, .nilIface] 212) (.cells #[.string ⟨#[]⟩, .bool false, .string ⟨#[]⟩, .string ⟨#[]⟩, .slice none 0 0, .slice none 0 0, .string ⟨#[]⟩, .slice none 0 0] 156))
  have HE1 := hid (((Ext.refl w).alloc (.cells #[.string name, .pointer p1, .pointer p2, .pointer p3, .pointer p4, .pointer p5, .bool false, .nilIface] 212)).alloc (.cells #[.string ⟨#[]⟩, .bool false, .string ⟨#[]⟩, .string ⟨#[]⟩, .slice none 0 0, .slice none 0 0, .string ⟨#[]⟩, .slice none 0 0] 156))
  have HSZ := hid (show ((w.alloc (.cells #[.string name, .pointer p1, .pointer p2, .pointer p3, .pointer p4, .pointer p5, .bool false, .nilIface] 212)).alloc (.cells #[.string ⟨#[]⟩, .bool false, .string ⟨#[]⟩, .string ⟨#[]⟩, .slice none 0 0, .slice none 0 0, .string ⟨#[]⟩, .slice none 0 0] 156)).heap.size = w.heap.size + 2 by simp)
  generalize (w.alloc (.cells #[.string name, .pointer p1, .pointer p2, .pointer p3, .pointer p4, .pointer p5, .bool false, .nilIface] 212)).alloc (.cells #[.string ⟨#[]⟩, .bool false, .string ⟨#[]⟩, .string ⟨#[]⟩, .slice none 0 0, .slice none 0 0, .string ⟨#[]⟩, .slice none 0 0] 156) = w1 at *
  have X0d := hid (show w1.drew.heap[w.heap.size]? = some (.cells #[.string name, .pointer p1, .pointer p2, .pointer p3, .pointer p4, .pointer p5, .bool false, .nilIface] 212) from (Ext.refl w1).drew.block HX0.out)
  have X1d := hid (show w1.drew.heap[w.heap.size + 1]? = some (.cells #[.string ⟨#[]⟩, .bool false, .string ⟨#[]⟩, .string ⟨#[]⟩, .slice none 0 0, .slice none 0 0, .string ⟨#[]⟩, .slice none 0 0] 156) from (Ext.refl w1).drew.block HX1.out)
  have HEd := hid (HE1.out.drew)
  have HSd := hid (show w.heap.size + 2 ≤ w1.drew.heap.size by have h : w1.drew.heap.size = w1.heap.size := rfl; rw [h, HSZ.out]; exact Nat.le_refl _)
  refine wp_region_late (fun w' : World => w'.cell? ⟨w.heap.size, 0, none⟩ = some (.string name) ∧ w'.cell? ⟨w.heap.size, 1, none⟩ = some (.pointer p1) ∧ w'.cell? ⟨w.heap.size, 2, none⟩ = some (.pointer p2) ∧ w'.cell? ⟨w.heap.size, 3, none⟩ = some (.pointer p3) ∧ w'.cell? ⟨w.heap.size, 4, none⟩ = some (.pointer p4) ∧ w'.cell? ⟨w.heap.size, 5, none⟩ = some (.pointer p5) ∧ w'.cell? ⟨w.heap.size, 6, none⟩ = some (.bool false) ∧ w'.cell? ⟨w.heap.size, 7, none⟩ = some (.nilIface)) [] (by kernel_rfl) ?hS1 (fun hHeld => ?_)
  case hS1 => (obtain ⟨⟨s0, s1, s2, s3, s4, s5, s6, s7⟩, -⟩ := slot8 X0d.out; exact ⟨s0, s1, s2, s3, s4, s5, s6, s7⟩)
  generalize w1.drew = wd at *
  change wpAnyM _ _ _ _ _ _ 8 #[false, false, false, false, false, false, false, false] _ _
  refine wpAnyM_take (i := 0) (oi := { dst := some 4, op := Go.Op.fieldAddr 212 (Go.Operand.tmp 1) 0, type := 0, pos := "convert.go:293", after := #[], guard := none }) (v := ?v2) rfl (by kernel_rfl) (fun _ _ _ h => h) (Or.inl ⟨by rfl, ?hy2⟩) (by assumption) ?rest2
  case hy2 => (intro wz hSw; (try dsimp only at hSw); go_simp; try with_reducible rfl)
  (try simp only [Act.put, List.setIfInBounds_toArray, List.set_cons_zero, List.set_cons_succ])
  refine wpAnyM_take (i := 1) (oi := { dst := some 5, op := Go.Op.load 9 (Go.Operand.tmp 4), type := 9, pos := "convert.go:293", after := #[{ on := 0, ground := Go.Ground.data }], guard := none }) (v := ?v3) rfl (by kernel_rfl) (fun _ _ _ h => h) (Or.inl ⟨by rfl, ?hy3⟩) (by assumption) ?rest3
  case hy3 => (intro wz hSw; (try dsimp only at hSw); go_simp; try with_reducible rfl)
  (try simp only [Act.put, List.setIfInBounds_toArray, List.set_cons_zero, List.set_cons_succ])
  refine wpAnyM_take (i := 2) (oi := { dst := some 6, op := Go.Op.fieldAddr 212 (Go.Operand.tmp 1) 1, type := 0, pos := "convert.go:293", after := #[], guard := none }) (v := ?v4) rfl (by kernel_rfl) (fun _ _ _ h => h) (Or.inl ⟨by rfl, ?hy4⟩) (by assumption) ?rest4
  case hy4 => (intro wz hSw; (try dsimp only at hSw); go_simp; try with_reducible rfl)
  (try simp only [Act.put, List.setIfInBounds_toArray, List.set_cons_zero, List.set_cons_succ])
  refine wpAnyM_take (i := 3) (oi := { dst := some 7, op := Go.Op.load 126 (Go.Operand.tmp 6), type := 126, pos := "convert.go:293", after := #[{ on := 2, ground := Go.Ground.data }], guard := none }) (v := ?v5) rfl (by kernel_rfl) (fun _ _ _ h => h) (Or.inl ⟨by rfl, ?hy5⟩) (by assumption) ?rest5
  case hy5 => (intro wz hSw; (try dsimp only at hSw); go_simp; try with_reducible rfl)
  (try simp only [Act.put, List.setIfInBounds_toArray, List.set_cons_zero, List.set_cons_succ])
  refine wpAnyM_ready (rs := [4, 6]) (by kernel_rfl) (by simp) ?_
  refine AllReadyM.cons (o := { dst := some 8, op := Go.Op.call { callee := Go.Callee.value (Go.Operand.func 107), args := #[Go.Operand.tmp 7], argTypes := #[126] }, type := 55, pos := "convert.go:293", after := #[{ on := 3, ground := Go.Ground.data }], guard := none }) rfl (fun K hK => ?_) ?more6
  · have tkn : True := trivial
    refine step_call _ rfl 107 [.tmp 7] #[126] rfl (by kernel_rfl) [_] rfl (HC.out wd (HEd.out.trans (Ext.refl wd))) ?_
    rintro en w3 ⟨gr, cs_, rfl, hgt, hlk, hg, hE⟩
    obtain ⟨b1, b2, b3, b4, b5, b6, b7, b8, b9, b10, rfl⟩ := hg.formR hgt
    refine ⟨_, rfl, ?_⟩
    have HG := hid (hg.weak (S' := fun b => wd.heap.size ≤ b ∧ b < w3.heap.size) (fun b h1 h2 => ⟨h1, h2⟩))
    have HGT := hid hgt
    have HLK := hid hlk
    have F1 := hid hE
    clear hg hgt hlk hE
    refine hK.out _ _ ?hS7 (fun hHeld => ?_)
    case hS7 => (obtain ⟨⟨s0, s1, s2, s3, s4, s5, s6, s7⟩, -⟩ := slot8 (F1.out.block X0d.out); exact ⟨s0, s1, s2, s3, s4, s5, s6, s7⟩)
    clear hK K
    (try simp only [Act.put, List.setIfInBounds_toArray, List.set_cons_zero, List.set_cons_succ])
    refine wpAnyM_ready (rs := [5, 6]) (by kernel_rfl) (by simp) ?_
    refine AllReadyM.cons (o := { dst := some 9, op := Go.Op.build 156 #[(0, Go.Operand.tmp 5), (1, Go.Operand.tmp 8)], type := 156, pos := "convert.go:293", after := #[{ on := 1, ground := Go.Ground.data }, { on := 4, ground := Go.Ground.data }], guard := none }) rfl (fun K hK => ?_) ?more8
    · have tkn : True := trivial
      go_simp
      refine hK.out _ _ ?hS9 (fun hHeld => ?_)
      case hS9 => (obtain ⟨⟨s0, s1, s2, s3, s4, s5, s6, s7⟩, -⟩ := slot8 (F1.out.block X0d.out); exact ⟨s0, s1, s2, s3, s4, s5, s6, s7⟩)
      clear hK K
      (try simp only [Act.put, List.setIfInBounds_toArray, List.set_cons_zero, List.set_cons_succ])
      refine wpAnyM_ready (rs := [6]) (by kernel_rfl) (by simp) ?_
      refine AllReadyM.cons (o := { dst := some 3, op := Go.Op.alloc 156, type := 0, pos := "convert.go:293", after := #[], guard := none }) rfl (fun K hK => ?_) AllReadyM.nil
      go_simp
      have XO := hid (heap_alloc_new w3 (.cells #[.string ⟨#[]⟩, .bool false, .string ⟨#[]⟩, .string ⟨#[]⟩, .slice none 0 0, .slice none 0 0, .string ⟨#[]⟩, .slice none 0 0] 156))
      have F2 := hid ((Ext.refl w3).alloc (.cells #[.string ⟨#[]⟩, .bool false, .string ⟨#[]⟩, .string ⟨#[]⟩, .slice none 0 0, .slice none 0 0, .string ⟨#[]⟩, .slice none 0 0] 156))
      have LO := hid (show w3.heap.size < (w3.alloc (.cells #[.string ⟨#[]⟩, .bool false, .string ⟨#[]⟩, .string ⟨#[]⟩, .slice none 0 0, .slice none 0 0, .string ⟨#[]⟩, .slice none 0 0] 156)).heap.size by simp)
      generalize w3.alloc (.cells #[.string ⟨#[]⟩, .bool false, .string ⟨#[]⟩, .string ⟨#[]⟩, .slice none 0 0, .slice none 0 0, .string ⟨#[]⟩, .slice none 0 0] 156) = w4 at *
      refine hK.out _ _ ?hS10 (fun hHeld => ?_)
      case hS10 => (obtain ⟨⟨s0, s1, s2, s3, s4, s5, s6, s7⟩, -⟩ := slot8 ((F1.out.trans F2.out).block X0d.out); exact ⟨s0, s1, s2, s3, s4, s5, s6, s7⟩)
      clear hK K
      (try simp only [Act.put, List.setIfInBounds_toArray, List.set_cons_zero, List.set_cons_succ])
      refine wpAnyM_ready (rs := [7]) (by kernel_rfl) (by simp) ?_
      refine AllReadyM.cons (o := { dst := none, op := Go.Op.store 156 (Go.Operand.tmp 3) (Go.Operand.tmp 9), type := 0, pos := "convert.go:293", after := #[{ on := 6, ground := Go.Ground.data }, { on := 5, ground := Go.Ground.data }, { on := 4, ground := Go.Ground.chain }, { on := 0, ground := Go.Ground.phase }, { on := 1, ground := Go.Ground.phase }, { on := 2, ground := Go.Ground.phase }, { on := 3, ground := Go.Ground.phase }, { on := 4, ground := Go.Ground.phase }, { on := 5, ground := Go.Ground.phase }, { on := 6, ground := Go.Ground.phase }], guard := none }) rfl (fun K hK => ?_) AllReadyM.nil
      have s1 := F1.out.size
      have s2 := F2.out.size
      have lo := LO.out
      have sd := HEd.out.size
      have G4 := (HG.out.ext F2.out).weak (S' := fun b => w.heap.size + 2 ≤ b ∧ b < w4.heap.size ∧ b ≠ w3.heap.size) (fun b hb hlt => by obtain ⟨hb1, hb2⟩ := hb; have := HSd.out; exact ⟨by omega, hlt, by omega⟩)
      have X4 := (Ext.refl w4).block XO.out
      obtain ⟨⟨y0, y1, y2, y3, y4, y5, y6, y7⟩, g0, g1, g2, g3, g4, g5, g6, g7⟩ := slot8 X4
      go_simp
      obtain ⟨w5, hw⟩ : ∃ x, x = setL w4 w3.heap.size 0 [.string name, .bool b1, .string b2, .string b3, .slice b4 b5 b6, .slice b7 b8 b9, .string b10, .slice none 0 0] := ⟨_, rfl⟩
      change K _ (setL w4 w3.heap.size 0 [.string name, .bool b1, .string b2, .string b3, .slice b4 b5 b6, .slice b7 b8 b9, .string b10, .slice none 0 0])
      rw [← hw]
      have XO5 := hid (show w5.heap[w3.heap.size]? = some (.cells #[.string name, .bool b1, .string b2, .string b3, .slice b4 b5 b6, .slice b7 b8 b9, .string b10, .slice none 0 0] 156) by rw [hw]; exact setL_all X4 [.string name, .bool b1, .string b2, .string b3, .slice b4 b5 b6, .slice b7 b8 b9, .string b10, .slice none 0 0] rfl)
      have hOR : ¬ w.heap.size + 1 = w3.heap.size := by have := HSd.out; omega
      have hOB : ¬ w.heap.size = w3.heap.size := by have := HSd.out; omega
      have X05 := hid (show w5.heap[w.heap.size]? = some (.cells #[.string name, .pointer p1, .pointer p2, .pointer p3, .pointer p4, .pointer p5, .bool false, .nilIface] 212) by rw [hw]; exact (setL_other hOB _).trans ((F1.out.trans F2.out).block X0d.out))
      have X15 := hid (show w5.heap[w.heap.size + 1]? = some (.cells #[.string ⟨#[]⟩, .bool false, .string ⟨#[]⟩, .string ⟨#[]⟩, .slice none 0 0, .slice none 0 0, .string ⟨#[]⟩, .slice none 0 0] 156) by rw [hw]; exact (setL_other hOR _).trans ((F1.out.trans F2.out).block X1d.out))
      have HE5 := hid (show Ext w w5 by rw [hw]; exact setL_below (HEd.out.trans (F1.out.trans F2.out)) (by omega) _ _)
      have G5 := hid (G4.mono (w' := w5) (S' := fun b => w.heap.size + 2 ≤ b ∧ b ≠ w3.heap.size) (fun b o hb ho => by rw [hw]; exact (setL_other hb.2.2 _).trans ho) (fun b hb _ => ⟨hb.1, hb.2.2⟩))
      have HO := hid (And.intro hOR hOB)
      have HS5 := hid (show w.heap.size + 2 ≤ w3.heap.size ∧ w3.heap.size < w5.heap.size from ⟨by have := HSd.out; omega, (Array.getElem?_eq_some_iff.1 XO5.out).1⟩)
      clear hw y0 y1 y2 y3 y4 y5 y6 y7 g0 g1 g2 g3 g4 g5 g6 g7 X4 G4 s1 s2 lo sd hOR hOB
      refine hK.out _ _ ?hS11 (fun hHeld => ?_)
      case hS11 => (obtain ⟨⟨s0, s1, s2, s3, s4, s5, s6, s7⟩, -⟩ := slot8 X05.out; exact ⟨s0, s1, s2, s3, s4, s5, s6, s7⟩)
      clear hK K
      (try simp only [Act.put, List.setIfInBounds_toArray, List.set_cons_zero, List.set_cons_succ])
      refine wpAnyM_done (by kernel_rfl) ?_ _
      obtain ⟨⟨x0, x1, x2, x3, x4, x5, x6, x7⟩, -⟩ := slot8 X05.out
      obtain ⟨⟨y0, y1, y2, y3, y4, y5, y6, y7⟩, g0, g1, g2, g3, g4, g5, g6, g7⟩ := slot8 XO5.out
      obtain ⟨⟨q0, q1, q2, q3, q4, q5, q6, q7⟩, s0, s1, s2, s3, s4, s5, s6, s7⟩ := slot8 X15.out
      go_wp2_with fail
      change bodyPost _ _ _ _ _ (setL w5 (w.heap.size + 1) 0 [.string name, .bool b1, .string b2, .string b3, .slice b4 b5 b6, .slice b7 b8 b9, .string b10, .slice none 0 0])
      have e6 := setL_all X15.out [.string name, .bool b1, .string b2, .string b3, .slice b4 b5 b6, .slice b7 b8 b9, .string b10, .slice none 0 0] rfl
      have x6 := setL_below HE5.out (show w.heap.size ≤ w.heap.size + 1 by omega) 0 [.string name, .bool b1, .string b2, .string b3, .slice b4 b5 b6, .slice b7 b8 b9, .string b10, .slice none 0 0]
      have g6 := G5.out.mono (w' := setL w5 (w.heap.size + 1) 0 [.string name, .bool b1, .string b2, .string b3, .slice b4 b5 b6, .slice b7 b8 b9, .string b10, .slice none 0 0]) (S' := fun b => w.heap.size ≤ b) (fun b o hb ho => (setL_other (by have := hb.1; omega) _).trans ho) (fun b hb _ => by have := hb.1; omega)
      generalize setL w5 (w.heap.size + 1) 0 [.string name, .bool b1, .string b2, .string b3, .slice b4 b5 b6, .slice b7 b8 b9, .string b10, .slice none 0 0] = WF at *
      clear y0 y1 y2 y3 y4 y5 y6 y7
      obtain ⟨⟨y0, y1, y2, y3, y4, y5, y6, y7⟩, -⟩ := slot8 e6
      refine bodyPost_ret (v := .agg #[.string name, .bool b1, .string b2, .string b3, .slice b4 b5 b6, .slice b7 b8 b9, .string b10, .slice none 0 0]) (by simp [results, Try.results127, go_sem, y0, y1, y2, y3, y4, y5, y6, y7]) rfl ⟨.fld name gr [], ([.string name, .bool b1, .string b2, .string b3, .slice b4 b5 b6, .slice b7 b8 b9, .string b10, .slice none 0 0] : List Value), rfl, rfl, .fld _ _ _ _ _ HK.out.symm (fun x y h _ _ => absurd (HK.out.symm.trans h) (by decide)) HLK.out, .fld (db := 0) (dO := 0) HNZ.out HGT.out g6 ⟨Nat.le_refl _, fun h => absurd h (by simp), fun i hi => absurd hi (by simp)⟩ (fun i g cs hg => by simp at hg), x6⟩
    refine AllReadyM.cons (o := { dst := some 3, op := Go.Op.alloc 156, type := 0, pos := "convert.go:293", after := #[], guard := none }) rfl (fun K hK => ?_) AllReadyM.nil
    go_simp
    have XO := hid (heap_alloc_new w3 (.cells #[.string ⟨#[]⟩, .bool false, .string ⟨#[]⟩, .string ⟨#[]⟩, .slice none 0 0, .slice none 0 0, .string ⟨#[]⟩, .slice none 0 0] 156))
    have F2 := hid ((Ext.refl w3).alloc (.cells #[.string ⟨#[]⟩, .bool false, .string ⟨#[]⟩, .string ⟨#[]⟩, .slice none 0 0, .slice none 0 0, .string ⟨#[]⟩, .slice none 0 0] 156))
    have LO := hid (show w3.heap.size < (w3.alloc (.cells #[.string ⟨#[]⟩, .bool false, .string ⟨#[]⟩, .string ⟨#[]⟩, .slice none 0 0, .slice none 0 0, .string ⟨#[]⟩, .slice none 0 0] 156)).heap.size by simp)
    generalize w3.alloc (.cells #[.string ⟨#[]⟩, .bool false, .string ⟨#[]⟩, .string ⟨#[]⟩, .slice none 0 0, .slice none 0 0, .string ⟨#[]⟩, .slice none 0 0] 156) = w4 at *
    refine hK.out _ _ ?hS12 (fun hHeld => ?_)
    case hS12 => (obtain ⟨⟨s0, s1, s2, s3, s4, s5, s6, s7⟩, -⟩ := slot8 ((F1.out.trans F2.out).block X0d.out); exact ⟨s0, s1, s2, s3, s4, s5, s6, s7⟩)
    clear hK K
    (try simp only [Act.put, List.setIfInBounds_toArray, List.set_cons_zero, List.set_cons_succ])
    refine wpAnyM_ready (rs := [5]) (by kernel_rfl) (by simp) ?_
    refine AllReadyM.cons (o := { dst := some 9, op := Go.Op.build 156 #[(0, Go.Operand.tmp 5), (1, Go.Operand.tmp 8)], type := 156, pos := "convert.go:293", after := #[{ on := 1, ground := Go.Ground.data }, { on := 4, ground := Go.Ground.data }], guard := none }) rfl (fun K hK => ?_) AllReadyM.nil
    go_simp
    refine hK.out _ _ ?hS13 (fun hHeld => ?_)
    case hS13 => (obtain ⟨⟨s0, s1, s2, s3, s4, s5, s6, s7⟩, -⟩ := slot8 ((F1.out.trans F2.out).block X0d.out); exact ⟨s0, s1, s2, s3, s4, s5, s6, s7⟩)
    clear hK K
    (try simp only [Act.put, List.setIfInBounds_toArray, List.set_cons_zero, List.set_cons_succ])
    refine wpAnyM_ready (rs := [7]) (by kernel_rfl) (by simp) ?_
    refine AllReadyM.cons (o := { dst := none, op := Go.Op.store 156 (Go.Operand.tmp 3) (Go.Operand.tmp 9), type := 0, pos := "convert.go:293", after := #[{ on := 6, ground := Go.Ground.data }, { on := 5, ground := Go.Ground.data }, { on := 4, ground := Go.Ground.chain }, { on := 0, ground := Go.Ground.phase }, { on := 1, ground := Go.Ground.phase }, { on := 2, ground := Go.Ground.phase }, { on := 3, ground := Go.Ground.phase }, { on := 4, ground := Go.Ground.phase }, { on := 5, ground := Go.Ground.phase }, { on := 6, ground := Go.Ground.phase }], guard := none }) rfl (fun K hK => ?_) AllReadyM.nil
    have s1 := F1.out.size
    have s2 := F2.out.size
    have lo := LO.out
    have sd := HEd.out.size
    have G4 := (HG.out.ext F2.out).weak (S' := fun b => w.heap.size + 2 ≤ b ∧ b < w4.heap.size ∧ b ≠ w3.heap.size) (fun b hb hlt => by obtain ⟨hb1, hb2⟩ := hb; have := HSd.out; exact ⟨by omega, hlt, by omega⟩)
    have X4 := (Ext.refl w4).block XO.out
    obtain ⟨⟨y0, y1, y2, y3, y4, y5, y6, y7⟩, g0, g1, g2, g3, g4, g5, g6, g7⟩ := slot8 X4
    go_simp
    obtain ⟨w5, hw⟩ : ∃ x, x = setL w4 w3.heap.size 0 [.string name, .bool b1, .string b2, .string b3, .slice b4 b5 b6, .slice b7 b8 b9, .string b10, .slice none 0 0] := ⟨_, rfl⟩
    change K _ (setL w4 w3.heap.size 0 [.string name, .bool b1, .string b2, .string b3, .slice b4 b5 b6, .slice b7 b8 b9, .string b10, .slice none 0 0])
    rw [← hw]
    have XO5 := hid (show w5.heap[w3.heap.size]? = some (.cells #[.string name, .bool b1, .string b2, .string b3, .slice b4 b5 b6, .slice b7 b8 b9, .string b10, .slice none 0 0] 156) by rw [hw]; exact setL_all X4 [.string name, .bool b1, .string b2, .string b3, .slice b4 b5 b6, .slice b7 b8 b9, .string b10, .slice none 0 0] rfl)
    have hOR : ¬ w.heap.size + 1 = w3.heap.size := by have := HSd.out; omega
    have hOB : ¬ w.heap.size = w3.heap.size := by have := HSd.out; omega
    have X05 := hid (show w5.heap[w.heap.size]? = some (.cells #[.string name, .pointer p1, .pointer p2, .pointer p3, .pointer p4, .pointer p5, .bool false, .nilIface] 212) by rw [hw]; exact (setL_other hOB _).trans ((F1.out.trans F2.out).block X0d.out))
    have X15 := hid (show w5.heap[w.heap.size + 1]? = some (.cells #[.string ⟨#[]⟩, .bool false, .string ⟨#[]⟩, .string ⟨#[]⟩, .slice none 0 0, .slice none 0 0, .string ⟨#[]⟩, .slice none 0 0] 156) by rw [hw]; exact (setL_other hOR _).trans ((F1.out.trans F2.out).block X1d.out))
    have HE5 := hid (show Ext w w5 by rw [hw]; exact setL_below (HEd.out.trans (F1.out.trans F2.out)) (by omega) _ _)
    have G5 := hid (G4.mono (w' := w5) (S' := fun b => w.heap.size + 2 ≤ b ∧ b ≠ w3.heap.size) (fun b o hb ho => by rw [hw]; exact (setL_other hb.2.2 _).trans ho) (fun b hb _ => ⟨hb.1, hb.2.2⟩))
    have HO := hid (And.intro hOR hOB)
    have HS5 := hid (show w.heap.size + 2 ≤ w3.heap.size ∧ w3.heap.size < w5.heap.size from ⟨by have := HSd.out; omega, (Array.getElem?_eq_some_iff.1 XO5.out).1⟩)
    clear hw y0 y1 y2 y3 y4 y5 y6 y7 g0 g1 g2 g3 g4 g5 g6 g7 X4 G4 s1 s2 lo sd hOR hOB
    refine hK.out _ _ ?hS14 (fun hHeld => ?_)
    case hS14 => (obtain ⟨⟨s0, s1, s2, s3, s4, s5, s6, s7⟩, -⟩ := slot8 X05.out; exact ⟨s0, s1, s2, s3, s4, s5, s6, s7⟩)
    clear hK K
    (try simp only [Act.put, List.setIfInBounds_toArray, List.set_cons_zero, List.set_cons_succ])
    refine wpAnyM_done (by kernel_rfl) ?_ _
    obtain ⟨⟨x0, x1, x2, x3, x4, x5, x6, x7⟩, -⟩ := slot8 X05.out
    obtain ⟨⟨y0, y1, y2, y3, y4, y5, y6, y7⟩, g0, g1, g2, g3, g4, g5, g6, g7⟩ := slot8 XO5.out
    obtain ⟨⟨q0, q1, q2, q3, q4, q5, q6, q7⟩, s0, s1, s2, s3, s4, s5, s6, s7⟩ := slot8 X15.out
    go_wp2_with fail
    change bodyPost _ _ _ _ _ (setL w5 (w.heap.size + 1) 0 [.string name, .bool b1, .string b2, .string b3, .slice b4 b5 b6, .slice b7 b8 b9, .string b10, .slice none 0 0])
    have e6 := setL_all X15.out [.string name, .bool b1, .string b2, .string b3, .slice b4 b5 b6, .slice b7 b8 b9, .string b10, .slice none 0 0] rfl
    have x6 := setL_below HE5.out (show w.heap.size ≤ w.heap.size + 1 by omega) 0 [.string name, .bool b1, .string b2, .string b3, .slice b4 b5 b6, .slice b7 b8 b9, .string b10, .slice none 0 0]
    have g6 := G5.out.mono (w' := setL w5 (w.heap.size + 1) 0 [.string name, .bool b1, .string b2, .string b3, .slice b4 b5 b6, .slice b7 b8 b9, .string b10, .slice none 0 0]) (S' := fun b => w.heap.size ≤ b) (fun b o hb ho => (setL_other (by have := hb.1; omega) _).trans ho) (fun b hb _ => by have := hb.1; omega)
    generalize setL w5 (w.heap.size + 1) 0 [.string name, .bool b1, .string b2, .string b3, .slice b4 b5 b6, .slice b7 b8 b9, .string b10, .slice none 0 0] = WF at *
    clear y0 y1 y2 y3 y4 y5 y6 y7
    obtain ⟨⟨y0, y1, y2, y3, y4, y5, y6, y7⟩, -⟩ := slot8 e6
    refine bodyPost_ret (v := .agg #[.string name, .bool b1, .string b2, .string b3, .slice b4 b5 b6, .slice b7 b8 b9, .string b10, .slice none 0 0]) (by simp [results, Try.results127, go_sem, y0, y1, y2, y3, y4, y5, y6, y7]) rfl ⟨.fld name gr [], ([.string name, .bool b1, .string b2, .string b3, .slice b4 b5 b6, .slice b7 b8 b9, .string b10, .slice none 0 0] : List Value), rfl, rfl, .fld _ _ _ _ _ HK.out.symm (fun x y h _ _ => absurd (HK.out.symm.trans h) (by decide)) HLK.out, .fld (db := 0) (dO := 0) HNZ.out HGT.out g6 ⟨Nat.le_refl _, fun h => absurd h (by simp), fun i hi => absurd hi (by simp)⟩ (fun i g cs hg => by simp at hg), x6⟩
  refine AllReadyM.cons (o := { dst := some 3, op := Go.Op.alloc 156, type := 0, pos := "convert.go:293", after := #[], guard := none }) rfl (fun K hK => ?_) AllReadyM.nil
  go_simp
  have XO := hid (heap_alloc_new wd (.cells #[.string ⟨#[]⟩, .bool false, .string ⟨#[]⟩, .string ⟨#[]⟩, .slice none 0 0, .slice none 0 0, .string ⟨#[]⟩, .slice none 0 0] 156))
  have F1 := hid ((Ext.refl wd).alloc (.cells #[.string ⟨#[]⟩, .bool false, .string ⟨#[]⟩, .string ⟨#[]⟩, .slice none 0 0, .slice none 0 0, .string ⟨#[]⟩, .slice none 0 0] 156))
  have LO := hid (show wd.heap.size < (wd.alloc (.cells #[.string ⟨#[]⟩, .bool false, .string ⟨#[]⟩, .string ⟨#[]⟩, .slice none 0 0, .slice none 0 0, .string ⟨#[]⟩, .slice none 0 0] 156)).heap.size by simp)
  generalize wd.alloc (.cells #[.string ⟨#[]⟩, .bool false, .string ⟨#[]⟩, .string ⟨#[]⟩, .slice none 0 0, .slice none 0 0, .string ⟨#[]⟩, .slice none 0 0] 156) = w3 at *
  refine hK.out _ _ ?hS15 (fun hHeld => ?_)
  case hS15 => (obtain ⟨⟨s0, s1, s2, s3, s4, s5, s6, s7⟩, -⟩ := slot8 (F1.out.block X0d.out); exact ⟨s0, s1, s2, s3, s4, s5, s6, s7⟩)
  clear hK K
  (try simp only [Act.put, List.setIfInBounds_toArray, List.set_cons_zero, List.set_cons_succ])
  refine wpAnyM_ready (rs := [4]) (by kernel_rfl) (by simp) ?_
  refine AllReadyM.cons (o := { dst := some 8, op := Go.Op.call { callee := Go.Callee.value (Go.Operand.func 107), args := #[Go.Operand.tmp 7], argTypes := #[126] }, type := 55, pos := "convert.go:293", after := #[{ on := 3, ground := Go.Ground.data }], guard := none }) rfl (fun K hK => ?_) AllReadyM.nil
  refine step_call _ rfl 107 [.tmp 7] #[126] rfl (by kernel_rfl) [_] rfl (HC.out w3 (HEd.out.trans F1.out)) ?_
  rintro en w4 ⟨gr, cs_, rfl, hgt, hlk, hg, hE⟩
  obtain ⟨b1, b2, b3, b4, b5, b6, b7, b8, b9, b10, rfl⟩ := hg.formR hgt
  refine ⟨_, rfl, ?_⟩
  have HG := hid (hg.weak (S' := fun b => w3.heap.size ≤ b ∧ b < w4.heap.size) (fun b h1 h2 => ⟨h1, h2⟩))
  have HGT := hid hgt
  have HLK := hid hlk
  have F2 := hid hE
  clear hg hgt hlk hE
  refine hK.out _ _ ?hS16 (fun hHeld => ?_)
  case hS16 => (obtain ⟨⟨s0, s1, s2, s3, s4, s5, s6, s7⟩, -⟩ := slot8 ((F1.out.trans F2.out).block X0d.out); exact ⟨s0, s1, s2, s3, s4, s5, s6, s7⟩)
  clear hK K
  (try simp only [Act.put, List.setIfInBounds_toArray, List.set_cons_zero, List.set_cons_succ])
  refine wpAnyM_ready (rs := [5]) (by kernel_rfl) (by simp) ?_
  refine AllReadyM.cons (o := { dst := some 9, op := Go.Op.build 156 #[(0, Go.Operand.tmp 5), (1, Go.Operand.tmp 8)], type := 156, pos := "convert.go:293", after := #[{ on := 1, ground := Go.Ground.data }, { on := 4, ground := Go.Ground.data }], guard := none }) rfl (fun K hK => ?_) AllReadyM.nil
  go_simp
  refine hK.out _ _ ?hS17 (fun hHeld => ?_)
  case hS17 => (obtain ⟨⟨s0, s1, s2, s3, s4, s5, s6, s7⟩, -⟩ := slot8 ((F1.out.trans F2.out).block X0d.out); exact ⟨s0, s1, s2, s3, s4, s5, s6, s7⟩)
  clear hK K
  (try simp only [Act.put, List.setIfInBounds_toArray, List.set_cons_zero, List.set_cons_succ])
  refine wpAnyM_ready (rs := [7]) (by kernel_rfl) (by simp) ?_
  refine AllReadyM.cons (o := { dst := none, op := Go.Op.store 156 (Go.Operand.tmp 3) (Go.Operand.tmp 9), type := 0, pos := "convert.go:293", after := #[{ on := 6, ground := Go.Ground.data }, { on := 5, ground := Go.Ground.data }, { on := 4, ground := Go.Ground.chain }, { on := 0, ground := Go.Ground.phase }, { on := 1, ground := Go.Ground.phase }, { on := 2, ground := Go.Ground.phase }, { on := 3, ground := Go.Ground.phase }, { on := 4, ground := Go.Ground.phase }, { on := 5, ground := Go.Ground.phase }, { on := 6, ground := Go.Ground.phase }], guard := none }) rfl (fun K hK => ?_) AllReadyM.nil
  have s1 := F1.out.size
  have s2 := F2.out.size
  have lo := LO.out
  have sd := HEd.out.size
  have G4 := (HG.out.ext (Ext.refl w4)).weak (S' := fun b => w.heap.size + 2 ≤ b ∧ b < w4.heap.size ∧ b ≠ wd.heap.size) (fun b hb hlt => by obtain ⟨hb1, hb2⟩ := hb; have := HSd.out; exact ⟨by omega, hlt, by omega⟩)
  have X4 := F2.out.block XO.out
  obtain ⟨⟨y0, y1, y2, y3, y4, y5, y6, y7⟩, g0, g1, g2, g3, g4, g5, g6, g7⟩ := slot8 X4
  go_simp
  obtain ⟨w5, hw⟩ : ∃ x, x = setL w4 wd.heap.size 0 [.string name, .bool b1, .string b2, .string b3, .slice b4 b5 b6, .slice b7 b8 b9, .string b10, .slice none 0 0] := ⟨_, rfl⟩
  change K _ (setL w4 wd.heap.size 0 [.string name, .bool b1, .string b2, .string b3, .slice b4 b5 b6, .slice b7 b8 b9, .string b10, .slice none 0 0])
  rw [← hw]
  have XO5 := hid (show w5.heap[wd.heap.size]? = some (.cells #[.string name, .bool b1, .string b2, .string b3, .slice b4 b5 b6, .slice b7 b8 b9, .string b10, .slice none 0 0] 156) by rw [hw]; exact setL_all X4 [.string name, .bool b1, .string b2, .string b3, .slice b4 b5 b6, .slice b7 b8 b9, .string b10, .slice none 0 0] rfl)
  have hOR : ¬ w.heap.size + 1 = wd.heap.size := by have := HSd.out; omega
  have hOB : ¬ w.heap.size = wd.heap.size := by have := HSd.out; omega
  have X05 := hid (show w5.heap[w.heap.size]? = some (.cells #[.string name, .pointer p1, .pointer p2, .pointer p3, .pointer p4, .pointer p5, .bool false, .nilIface] 212) by rw [hw]; exact (setL_other hOB _).trans ((F1.out.trans F2.out).block X0d.out))
  have X15 := hid (show w5.heap[w.heap.size + 1]? = some (.cells #[.string ⟨#[]⟩, .bool false, .string ⟨#[]⟩, .string ⟨#[]⟩, .slice none 0 0, .slice none 0 0, .string ⟨#[]⟩, .slice none 0 0] 156) by rw [hw]; exact (setL_other hOR _).trans ((F1.out.trans F2.out).block X1d.out))
  have HE5 := hid (show Ext w w5 by rw [hw]; exact setL_below (HEd.out.trans (F1.out.trans F2.out)) (by omega) _ _)
  have G5 := hid (G4.mono (w' := w5) (S' := fun b => w.heap.size + 2 ≤ b ∧ b ≠ wd.heap.size) (fun b o hb ho => by rw [hw]; exact (setL_other hb.2.2 _).trans ho) (fun b hb _ => ⟨hb.1, hb.2.2⟩))
  have HO := hid (And.intro hOR hOB)
  have HS5 := hid (show w.heap.size + 2 ≤ wd.heap.size ∧ wd.heap.size < w5.heap.size from ⟨by have := HSd.out; omega, (Array.getElem?_eq_some_iff.1 XO5.out).1⟩)
  clear hw y0 y1 y2 y3 y4 y5 y6 y7 g0 g1 g2 g3 g4 g5 g6 g7 X4 G4 s1 s2 lo sd hOR hOB
  refine hK.out _ _ ?hS18 (fun hHeld => ?_)
  case hS18 => (obtain ⟨⟨s0, s1, s2, s3, s4, s5, s6, s7⟩, -⟩ := slot8 X05.out; exact ⟨s0, s1, s2, s3, s4, s5, s6, s7⟩)
  clear hK K
  (try simp only [Act.put, List.setIfInBounds_toArray, List.set_cons_zero, List.set_cons_succ])
  refine wpAnyM_done (by kernel_rfl) ?_ _
  obtain ⟨⟨x0, x1, x2, x3, x4, x5, x6, x7⟩, -⟩ := slot8 X05.out
  obtain ⟨⟨y0, y1, y2, y3, y4, y5, y6, y7⟩, g0, g1, g2, g3, g4, g5, g6, g7⟩ := slot8 XO5.out
  obtain ⟨⟨q0, q1, q2, q3, q4, q5, q6, q7⟩, s0, s1, s2, s3, s4, s5, s6, s7⟩ := slot8 X15.out
  go_wp2_with fail
  change bodyPost _ _ _ _ _ (setL w5 (w.heap.size + 1) 0 [.string name, .bool b1, .string b2, .string b3, .slice b4 b5 b6, .slice b7 b8 b9, .string b10, .slice none 0 0])
  have e6 := setL_all X15.out [.string name, .bool b1, .string b2, .string b3, .slice b4 b5 b6, .slice b7 b8 b9, .string b10, .slice none 0 0] rfl
  have x6 := setL_below HE5.out (show w.heap.size ≤ w.heap.size + 1 by omega) 0 [.string name, .bool b1, .string b2, .string b3, .slice b4 b5 b6, .slice b7 b8 b9, .string b10, .slice none 0 0]
  have g6 := G5.out.mono (w' := setL w5 (w.heap.size + 1) 0 [.string name, .bool b1, .string b2, .string b3, .slice b4 b5 b6, .slice b7 b8 b9, .string b10, .slice none 0 0]) (S' := fun b => w.heap.size ≤ b) (fun b o hb ho => (setL_other (by have := hb.1; omega) _).trans ho) (fun b hb _ => by have := hb.1; omega)
  generalize setL w5 (w.heap.size + 1) 0 [.string name, .bool b1, .string b2, .string b3, .slice b4 b5 b6, .slice b7 b8 b9, .string b10, .slice none 0 0] = WF at *
  clear y0 y1 y2 y3 y4 y5 y6 y7
  obtain ⟨⟨y0, y1, y2, y3, y4, y5, y6, y7⟩, -⟩ := slot8 e6
  refine bodyPost_ret (v := .agg #[.string name, .bool b1, .string b2, .string b3, .slice b4 b5 b6, .slice b7 b8 b9, .string b10, .slice none 0 0]) (by simp [results, Try.results127, go_sem, y0, y1, y2, y3, y4, y5, y6, y7]) rfl ⟨.fld name gr [], ([.string name, .bool b1, .string b2, .string b3, .slice b4 b5 b6, .slice b7 b8 b9, .string b10, .slice none 0 0] : List Value), rfl, rfl, .fld _ _ _ _ _ HK.out.symm (fun x y h _ _ => absurd (HK.out.symm.trans h) (by decide)) HLK.out, .fld (db := 0) (dO := 0) HNZ.out HGT.out g6 ⟨Nat.le_refl _, fun h => absurd h (by simp), fun i hi => absurd hi (by simp)⟩ (fun i g cs hg => by simp at hg), x6⟩
set_option maxHeartbeats 8000000 in
theorem fromField_d (w : World) (name : ByteArray) (hname : name.size ≤ 140737488351232) (t : GS) (ht : t.tag = 1) (p1 p2 p3 p4 p5 : Option Addr) (hR : RepS Any w t [.pointer p1, .pointer p2, .pointer p3, .pointer p4, .pointer p5, .bool false]) (hb : BackOK 107 1 t) (d : GV) (ds : List GV) (ty : TypeId) (xv : Value) (hx : RepT Any w (plainT d) (.iface ty xv)) (hk : (kcode (plainT d) == 0) = false) :
    Calls Try.prog 127 #[.agg #[.string name, .pointer p1, .pointer p2, .pointer p3, .pointer p4, .pointer p5, .bool false, .iface ty xv]] w fun e w' => ∃ g' cs', e = .returned (.agg cs'.toArray) ∧ g'.tag = 5 ∧ Lk g' (.fld name t (d :: ds)) ∧ RepGS (fun b => w.heap.size ≤ b) w' g' cs' ∧ Ext w w' := by
  have HNZ := hid hname
  have HC := hid (fun W (hW : Ext w W) => hb ht W _ (hR.ext hW))
  have HK := hid hk
  have HX := hid hx
  clear hname hR hb hk hx ht
  go_enter Try.func127, Try.ntmps127
  go_upto_region 1 with fail
  have HX0 := hid (first_heap w (.cells #[.string name, .pointer p1, .pointer p2, .pointer p3, .pointer p4, .pointer p5, .bool false, .iface ty xv] 212) (.cells #[.string ⟨#[]⟩, .bool false, .string ⟨#[]⟩, .string ⟨#[]⟩, .slice none 0 0, .slice none 0 0, .string ⟨#[]⟩, .slice none 0 0] 156))
  have HX1 := hid (second_heap w (.cells #[.string name, .pointer p1, .pointer p2, .pointer p3, .pointer p4, .pointer p5, .bool false, .iface ty xv] 212) (.cells #[.string ⟨#[]⟩, .bool false, .string ⟨#[]⟩, .string ⟨#[]⟩, .slice none 0 0, .slice none 0 0, .string ⟨#[]⟩, .slice none 0 0] 156))
  have HE1 := hid (((Ext.refl w).alloc (.cells #[.string name, .pointer p1, .pointer p2, .pointer p3, .pointer p4, .pointer p5, .bool false, .iface ty xv] 212)).alloc (.cells #[.string ⟨#[]⟩, .bool false, .string ⟨#[]⟩, .string ⟨#[]⟩, .slice none 0 0, .slice none 0 0, .string ⟨#[]⟩, .slice none 0 0] 156))
  have HSZ := hid (show ((w.alloc (.cells #[.string name, .pointer p1, .pointer p2, .pointer p3, .pointer p4, .pointer p5, .bool false, .iface ty xv] 212)).alloc (.cells #[.string ⟨#[]⟩, .bool false, .string ⟨#[]⟩, .string ⟨#[]⟩, .slice none 0 0, .slice none 0 0, .string ⟨#[]⟩, .slice none 0 0] 156)).heap.size = w.heap.size + 2 by simp)
  generalize (w.alloc (.cells #[.string name, .pointer p1, .pointer p2, .pointer p3, .pointer p4, .pointer p5, .bool false, .iface ty xv] 212)).alloc (.cells #[.string ⟨#[]⟩, .bool false, .string ⟨#[]⟩, .string ⟨#[]⟩, .slice none 0 0, .slice none 0 0, .string ⟨#[]⟩, .slice none 0 0] 156) = w1 at *
  have X0d := hid (show w1.drew.heap[w.heap.size]? = some (.cells #[.string name, .pointer p1, .pointer p2, .pointer p3, .pointer p4, .pointer p5, .bool false, .iface ty xv] 212) from (Ext.refl w1).drew.block HX0.out)
  have X1d := hid (show w1.drew.heap[w.heap.size + 1]? = some (.cells #[.string ⟨#[]⟩, .bool false, .string ⟨#[]⟩, .string ⟨#[]⟩, .slice none 0 0, .slice none 0 0, .string ⟨#[]⟩, .slice none 0 0] 156) from (Ext.refl w1).drew.block HX1.out)
  have HEd := hid (HE1.out.drew)
  have HSd := hid (show w.heap.size + 2 ≤ w1.drew.heap.size by have h : w1.drew.heap.size = w1.heap.size := rfl; rw [h, HSZ.out]; exact Nat.le_refl _)
  refine wp_region_late (fun w' : World => w'.cell? ⟨w.heap.size, 0, none⟩ = some (.string name) ∧ w'.cell? ⟨w.heap.size, 1, none⟩ = some (.pointer p1) ∧ w'.cell? ⟨w.heap.size, 2, none⟩ = some (.pointer p2) ∧ w'.cell? ⟨w.heap.size, 3, none⟩ = some (.pointer p3) ∧ w'.cell? ⟨w.heap.size, 4, none⟩ = some (.pointer p4) ∧ w'.cell? ⟨w.heap.size, 5, none⟩ = some (.pointer p5) ∧ w'.cell? ⟨w.heap.size, 6, none⟩ = some (.bool false) ∧ w'.cell? ⟨w.heap.size, 7, none⟩ = some (.iface ty xv)) [] (by kernel_rfl) ?hS19 (fun hHeld => ?_)
  case hS19 => (obtain ⟨⟨s0, s1, s2, s3, s4, s5, s6, s7⟩, -⟩ := slot8 X0d.out; exact ⟨s0, s1, s2, s3, s4, s5, s6, s7⟩)
  generalize w1.drew = wd at *
  change wpAnyM _ _ _ _ _ _ 8 #[false, false, false, false, false, false, false, false] _ _
  refine wpAnyM_take (i := 0) (oi := { dst := some 4, op := Go.Op.fieldAddr 212 (Go.Operand.tmp 1) 0, type := 0, pos := "convert.go:293", after := #[], guard := none }) (v := ?v20) rfl (by kernel_rfl) (fun _ _ _ h => h) (Or.inl ⟨by rfl, ?hy20⟩) (by assumption) ?rest20
  case hy20 => (intro wz hSw; (try dsimp only at hSw); go_simp; try with_reducible rfl)
  (try simp only [Act.put, List.setIfInBounds_toArray, List.set_cons_zero, List.set_cons_succ])
  refine wpAnyM_take (i := 1) (oi := { dst := some 5, op := Go.Op.load 9 (Go.Operand.tmp 4), type := 9, pos := "convert.go:293", after := #[{ on := 0, ground := Go.Ground.data }], guard := none }) (v := ?v21) rfl (by kernel_rfl) (fun _ _ _ h => h) (Or.inl ⟨by rfl, ?hy21⟩) (by assumption) ?rest21
  case hy21 => (intro wz hSw; (try dsimp only at hSw); go_simp; try with_reducible rfl)
  (try simp only [Act.put, List.setIfInBounds_toArray, List.set_cons_zero, List.set_cons_succ])
  refine wpAnyM_take (i := 2) (oi := { dst := some 6, op := Go.Op.fieldAddr 212 (Go.Operand.tmp 1) 1, type := 0, pos := "convert.go:293", after := #[], guard := none }) (v := ?v22) rfl (by kernel_rfl) (fun _ _ _ h => h) (Or.inl ⟨by rfl, ?hy22⟩) (by assumption) ?rest22
  case hy22 => (intro wz hSw; (try dsimp only at hSw); go_simp; try with_reducible rfl)
  (try simp only [Act.put, List.setIfInBounds_toArray, List.set_cons_zero, List.set_cons_succ])
  refine wpAnyM_take (i := 3) (oi := { dst := some 7, op := Go.Op.load 126 (Go.Operand.tmp 6), type := 126, pos := "convert.go:293", after := #[{ on := 2, ground := Go.Ground.data }], guard := none }) (v := ?v23) rfl (by kernel_rfl) (fun _ _ _ h => h) (Or.inl ⟨by rfl, ?hy23⟩) (by assumption) ?rest23
  case hy23 => (intro wz hSw; (try dsimp only at hSw); go_simp; try with_reducible rfl)
  (try simp only [Act.put, List.setIfInBounds_toArray, List.set_cons_zero, List.set_cons_succ])
  refine wpAnyM_ready (rs := [4, 6]) (by kernel_rfl) (by simp) ?_
  refine AllReadyM.cons (o := { dst := some 8, op := Go.Op.call { callee := Go.Callee.value (Go.Operand.func 107), args := #[Go.Operand.tmp 7], argTypes := #[126] }, type := 55, pos := "convert.go:293", after := #[{ on := 3, ground := Go.Ground.data }], guard := none }) rfl (fun K hK => ?_) ?more24
  · have tkn : True := trivial
    refine step_call _ rfl 107 [.tmp 7] #[126] rfl (by kernel_rfl) [_] rfl (HC.out wd (HEd.out.trans (Ext.refl wd))) ?_
    rintro en w3 ⟨gr, cs_, rfl, hgt, hlk, hg, hE⟩
    obtain ⟨b1, b2, b3, b4, b5, b6, b7, b8, b9, b10, rfl⟩ := hg.formR hgt
    refine ⟨_, rfl, ?_⟩
    have HG := hid (hg.weak (S' := fun b => wd.heap.size ≤ b ∧ b < w3.heap.size) (fun b h1 h2 => ⟨h1, h2⟩))
    have HGT := hid hgt
    have HLK := hid hlk
    have F1 := hid hE
    clear hg hgt hlk hE
    refine hK.out _ _ ?hS25 (fun hHeld => ?_)
    case hS25 => (obtain ⟨⟨s0, s1, s2, s3, s4, s5, s6, s7⟩, -⟩ := slot8 (F1.out.block X0d.out); exact ⟨s0, s1, s2, s3, s4, s5, s6, s7⟩)
    clear hK K
    (try simp only [Act.put, List.setIfInBounds_toArray, List.set_cons_zero, List.set_cons_succ])
    refine wpAnyM_ready (rs := [5, 6]) (by kernel_rfl) (by simp) ?_
    refine AllReadyM.cons (o := { dst := some 9, op := Go.Op.build 156 #[(0, Go.Operand.tmp 5), (1, Go.Operand.tmp 8)], type := 156, pos := "convert.go:293", after := #[{ on := 1, ground := Go.Ground.data }, { on := 4, ground := Go.Ground.data }], guard := none }) rfl (fun K hK => ?_) ?more26
    · have tkn : True := trivial
      go_simp
      refine hK.out _ _ ?hS27 (fun hHeld => ?_)
      case hS27 => (obtain ⟨⟨s0, s1, s2, s3, s4, s5, s6, s7⟩, -⟩ := slot8 (F1.out.block X0d.out); exact ⟨s0, s1, s2, s3, s4, s5, s6, s7⟩)
      clear hK K
      (try simp only [Act.put, List.setIfInBounds_toArray, List.set_cons_zero, List.set_cons_succ])
      refine wpAnyM_ready (rs := [6]) (by kernel_rfl) (by simp) ?_
      refine AllReadyM.cons (o := { dst := some 3, op := Go.Op.alloc 156, type := 0, pos := "convert.go:293", after := #[], guard := none }) rfl (fun K hK => ?_) AllReadyM.nil
      go_simp
      have XO := hid (heap_alloc_new w3 (.cells #[.string ⟨#[]⟩, .bool false, .string ⟨#[]⟩, .string ⟨#[]⟩, .slice none 0 0, .slice none 0 0, .string ⟨#[]⟩, .slice none 0 0] 156))
      have F2 := hid ((Ext.refl w3).alloc (.cells #[.string ⟨#[]⟩, .bool false, .string ⟨#[]⟩, .string ⟨#[]⟩, .slice none 0 0, .slice none 0 0, .string ⟨#[]⟩, .slice none 0 0] 156))
      have LO := hid (show w3.heap.size < (w3.alloc (.cells #[.string ⟨#[]⟩, .bool false, .string ⟨#[]⟩, .string ⟨#[]⟩, .slice none 0 0, .slice none 0 0, .string ⟨#[]⟩, .slice none 0 0] 156)).heap.size by simp)
      generalize w3.alloc (.cells #[.string ⟨#[]⟩, .bool false, .string ⟨#[]⟩, .string ⟨#[]⟩, .slice none 0 0, .slice none 0 0, .string ⟨#[]⟩, .slice none 0 0] 156) = w4 at *
      refine hK.out _ _ ?hS28 (fun hHeld => ?_)
      case hS28 => (obtain ⟨⟨s0, s1, s2, s3, s4, s5, s6, s7⟩, -⟩ := slot8 ((F1.out.trans F2.out).block X0d.out); exact ⟨s0, s1, s2, s3, s4, s5, s6, s7⟩)
      clear hK K
      (try simp only [Act.put, List.setIfInBounds_toArray, List.set_cons_zero, List.set_cons_succ])
      refine wpAnyM_ready (rs := [7]) (by kernel_rfl) (by simp) ?_
      refine AllReadyM.cons (o := { dst := none, op := Go.Op.store 156 (Go.Operand.tmp 3) (Go.Operand.tmp 9), type := 0, pos := "convert.go:293", after := #[{ on := 6, ground := Go.Ground.data }, { on := 5, ground := Go.Ground.data }, { on := 4, ground := Go.Ground.chain }, { on := 0, ground := Go.Ground.phase }, { on := 1, ground := Go.Ground.phase }, { on := 2, ground := Go.Ground.phase }, { on := 3, ground := Go.Ground.phase }, { on := 4, ground := Go.Ground.phase }, { on := 5, ground := Go.Ground.phase }, { on := 6, ground := Go.Ground.phase }], guard := none }) rfl (fun K hK => ?_) AllReadyM.nil
      have s1 := F1.out.size
      have s2 := F2.out.size
      have lo := LO.out
      have sd := HEd.out.size
      have G4 := (HG.out.ext F2.out).weak (S' := fun b => w.heap.size + 2 ≤ b ∧ b < w4.heap.size ∧ b ≠ w3.heap.size) (fun b hb hlt => by obtain ⟨hb1, hb2⟩ := hb; have := HSd.out; exact ⟨by omega, hlt, by omega⟩)
      have X4 := (Ext.refl w4).block XO.out
      obtain ⟨⟨y0, y1, y2, y3, y4, y5, y6, y7⟩, g0, g1, g2, g3, g4, g5, g6, g7⟩ := slot8 X4
      go_simp
      obtain ⟨w5, hw⟩ : ∃ x, x = setL w4 w3.heap.size 0 [.string name, .bool b1, .string b2, .string b3, .slice b4 b5 b6, .slice b7 b8 b9, .string b10, .slice none 0 0] := ⟨_, rfl⟩
      change K _ (setL w4 w3.heap.size 0 [.string name, .bool b1, .string b2, .string b3, .slice b4 b5 b6, .slice b7 b8 b9, .string b10, .slice none 0 0])
      rw [← hw]
      have XO5 := hid (show w5.heap[w3.heap.size]? = some (.cells #[.string name, .bool b1, .string b2, .string b3, .slice b4 b5 b6, .slice b7 b8 b9, .string b10, .slice none 0 0] 156) by rw [hw]; exact setL_all X4 [.string name, .bool b1, .string b2, .string b3, .slice b4 b5 b6, .slice b7 b8 b9, .string b10, .slice none 0 0] rfl)
      have hOR : ¬ w.heap.size + 1 = w3.heap.size := by have := HSd.out; omega
      have hOB : ¬ w.heap.size = w3.heap.size := by have := HSd.out; omega
      have X05 := hid (show w5.heap[w.heap.size]? = some (.cells #[.string name, .pointer p1, .pointer p2, .pointer p3, .pointer p4, .pointer p5, .bool false, .iface ty xv] 212) by rw [hw]; exact (setL_other hOB _).trans ((F1.out.trans F2.out).block X0d.out))
      have X15 := hid (show w5.heap[w.heap.size + 1]? = some (.cells #[.string ⟨#[]⟩, .bool false, .string ⟨#[]⟩, .string ⟨#[]⟩, .slice none 0 0, .slice none 0 0, .string ⟨#[]⟩, .slice none 0 0] 156) by rw [hw]; exact (setL_other hOR _).trans ((F1.out.trans F2.out).block X1d.out))
      have HE5 := hid (show Ext w w5 by rw [hw]; exact setL_below (HEd.out.trans (F1.out.trans F2.out)) (by omega) _ _)
      have G5 := hid (G4.mono (w' := w5) (S' := fun b => w.heap.size + 2 ≤ b ∧ b ≠ w3.heap.size) (fun b o hb ho => by rw [hw]; exact (setL_other hb.2.2 _).trans ho) (fun b hb _ => ⟨hb.1, hb.2.2⟩))
      have HO := hid (And.intro hOR hOB)
      have HS5 := hid (show w.heap.size + 2 ≤ w3.heap.size ∧ w3.heap.size < w5.heap.size from ⟨by have := HSd.out; omega, (Array.getElem?_eq_some_iff.1 XO5.out).1⟩)
      clear hw y0 y1 y2 y3 y4 y5 y6 y7 g0 g1 g2 g3 g4 g5 g6 g7 X4 G4 s1 s2 lo sd hOR hOB
      refine hK.out _ _ ?hS29 (fun hHeld => ?_)
      case hS29 => (obtain ⟨⟨s0, s1, s2, s3, s4, s5, s6, s7⟩, -⟩ := slot8 X05.out; exact ⟨s0, s1, s2, s3, s4, s5, s6, s7⟩)
      clear hK K
      (try simp only [Act.put, List.setIfInBounds_toArray, List.set_cons_zero, List.set_cons_succ])
      refine wpAnyM_done (by kernel_rfl) ?_ _
      obtain ⟨⟨x0, x1, x2, x3, x4, x5, x6, x7⟩, -⟩ := slot8 X05.out
      obtain ⟨⟨y0, y1, y2, y3, y4, y5, y6, y7⟩, g0, g1, g2, g3, g4, g5, g6, g7⟩ := slot8 XO5.out
      go_upto_region 4 with (go_at_call 101; refine (fromTree_any (plainT d) Any _ _ (HX.out.ext HE5.out)).mono ?_; rintro e w6 ⟨cs6, rfl, hT, hE⟩; obtain ⟨r1, r2, r3, r4, r5, r6, r7, r8, r9, r10, rfl⟩ := hT.form; have HT6 := hid hT; have F6 := hid hE; have XO6 := hid (hE.block XO5.out); have X16 := hid (hE.block X15.out); clear hT hE x0 x1 x2 x3 x4 x5 x6 x7 y0 y1 y2 y3 y4 y5 y6 y7 g0 g1 g2 g3 g4 g5 g6 g7; obtain ⟨⟨y0, y1, y2, y3, y4, y5, y6, y7⟩, g0, g1, g2, g3, g4, g5, g6, g7⟩ := slot8 XO6.out; have y7' := fun o => ((Ext.refl w6).alloc o).cellS y7; have g7' := fun o => free_of_heap (((Ext.refl w6).alloc o).block XO6.out) 7)
      have E7 := hid ((Ext.refl w6).alloc (.cells #[.int .i64 r1, .int .i64 r2, .float .f64 r3, .string r4, .slice r5 r6 r7, .slice r8 r9 r10] 32))
      have XV7 := hid (heap_alloc_new w6 (.cells #[.int .i64 r1, .int .i64 r2, .float .f64 r3, .string r4, .slice r5 r6 r7, .slice r8 r9 r10] 32))
      have s5 := HS5.out
      have s6 := F6.out.size
      have hOV : ¬ w6.heap.size = w3.heap.size := by omega
      change Code.wp _ _ _ _ (setL (w6.alloc (.cells #[.int .i64 r1, .int .i64 r2, .float .f64 r3, .string r4, .slice r5 r6 r7, .slice r8 r9 r10] 32)) w3.heap.size 7 [.slice (some ⟨w6.heap.size, 0, none⟩) 1 1])
      obtain ⟨w8, hw⟩ : ∃ x, x = setL (w6.alloc (.cells #[.int .i64 r1, .int .i64 r2, .float .f64 r3, .string r4, .slice r5 r6 r7, .slice r8 r9 r10] 32)) w3.heap.size 7 [.slice (some ⟨w6.heap.size, 0, none⟩) 1 1] := ⟨_, rfl⟩
      rw [← hw]
      have XO8 := hid (show w8.heap[w3.heap.size]? = some (.cells #[.string name, .bool b1, .string b2, .string b3, .slice b4 b5 b6, .slice b7 b8 b9, .string b10, .slice (some ⟨w6.heap.size, 0, none⟩) 1 1] 156) by rw [hw]; have h := setL_heap [.slice (some ⟨w6.heap.size, 0, none⟩) 1 1] [.string name, .bool b1, .string b2, .string b3, .slice b4 b5 b6, .slice b7 b8 b9, .string b10] [.slice none 0 0] (show (w6.alloc (.cells #[.int .i64 r1, .int .i64 r2, .float .f64 r3, .string r4, .slice r5 r6 r7, .slice r8 r9 r10] 32)).heap[w3.heap.size]? = some (.cells (([.string name, .bool b1, .string b2, .string b3, .slice b4 b5 b6, .slice b7 b8 b9, .string b10] : List Value) ++ ([.slice none 0 0] : List Value)).toArray 156) from E7.out.block XO6.out) (by simp); simpa using h)
      have X18 := hid (show w8.heap[w.heap.size + 1]? = some (.cells #[.string ⟨#[]⟩, .bool false, .string ⟨#[]⟩, .string ⟨#[]⟩, .slice none 0 0, .slice none 0 0, .string ⟨#[]⟩, .slice none 0 0] 156) by rw [hw]; exact (setL_other HO.out.1 _).trans (E7.out.block X16.out))
      have HE8 := hid (show Ext w w8 by rw [hw]; exact setL_below (HE5.out.trans (F6.out.trans E7.out)) (by omega) _ _)
      have G8 := hid ((G5.out.ext (F6.out.trans E7.out)).mono (w' := w8) (S' := fun b => w.heap.size + 2 ≤ b ∧ b ≠ w3.heap.size) (fun b o hb ho => by rw [hw]; exact (setL_other hb.2 _).trans ho) (fun _ h _ => h))
      have XV8 := hid (show w8.heap[w6.heap.size]? = some (.cells #[.int .i64 r1, .int .i64 r2, .float .f64 r3, .string r4, .slice r5 r6 r7, .slice r8 r9 r10] 32) by rw [hw]; exact (setL_other hOV _).trans XV7.out)
      have T8 := hid ((HT6.out.ext E7.out).mono (w' := w8) (S' := fun b => w5.heap.size ≤ b) (fun b o hb ho => by rw [hw]; exact (setL_other (by have hb' : w5.heap.size ≤ b := hb; omega) _).trans ho) (fun _ h _ => h))
      clear hw y7' g7' y0 y1 y2 y3 y4 y5 y6 y7 g0 g1 g2 g3 g4 g5 g6 g7
      obtain ⟨⟨y0, y1, y2, y3, y4, y5, y6, y7⟩, -⟩ := slot8 XO8.out
      obtain ⟨⟨q0, q1, q2, q3, q4, q5, q6, q7⟩, s0, s1, s2, s3, s4, s5, s6, s7⟩ := slot8 X18.out
      go_wp2_with fail
      change bodyPost _ _ _ _ _ (setL w8 (w.heap.size + 1) 0 [.string name, .bool b1, .string b2, .string b3, .slice b4 b5 b6, .slice b7 b8 b9, .string b10, .slice (some ⟨w6.heap.size, 0, none⟩) 1 1])
      have e6 := setL_all X18.out [.string name, .bool b1, .string b2, .string b3, .slice b4 b5 b6, .slice b7 b8 b9, .string b10, .slice (some ⟨w6.heap.size, 0, none⟩) 1 1] rfl
      have x6 := setL_below HE8.out (show w.heap.size ≤ w.heap.size + 1 by omega) 0 [.string name, .bool b1, .string b2, .string b3, .slice b4 b5 b6, .slice b7 b8 b9, .string b10, .slice (some ⟨w6.heap.size, 0, none⟩) 1 1]
      have g6 := G8.out.mono (w' := setL w8 (w.heap.size + 1) 0 [.string name, .bool b1, .string b2, .string b3, .slice b4 b5 b6, .slice b7 b8 b9, .string b10, .slice (some ⟨w6.heap.size, 0, none⟩) 1 1]) (S' := fun b => w.heap.size ≤ b) (fun b o hb ho => (setL_other (by have := hb.1; omega) _).trans ho) (fun b hb _ => by have := hb.1; omega)
      have hVR : ¬ w6.heap.size = w.heap.size + 1 := by omega
      have t6 := T8.out.mono (w' := setL w8 (w.heap.size + 1) 0 [.string name, .bool b1, .string b2, .string b3, .slice b4 b5 b6, .slice b7 b8 b9, .string b10, .slice (some ⟨w6.heap.size, 0, none⟩) 1 1]) (S' := fun b => w.heap.size ≤ b) (fun b o hb ho => (setL_other (by have hb' : w5.heap.size ≤ b := hb; omega) _).trans ho) (fun b hb _ => by have hb' : w5.heap.size ≤ b := hb; omega)
      have v6 : (setL w8 (w.heap.size + 1) 0 [.string name, .bool b1, .string b2, .string b3, .slice b4 b5 b6, .slice b7 b8 b9, .string b10, .slice (some ⟨w6.heap.size, 0, none⟩) 1 1]).heap[w6.heap.size]? = some (.cells #[.int .i64 r1, .int .i64 r2, .float .f64 r3, .string r4, .slice r5 r6 r7, .slice r8 r9 r10] 32) := (setL_other hVR _).trans XV8.out
      rw [← clean_eq] at t6
      have hvc : w.heap.size ≤ w6.heap.size := by omega
      generalize setL w8 (w.heap.size + 1) 0 [.string name, .bool b1, .string b2, .string b3, .slice b4 b5 b6, .slice b7 b8 b9, .string b10, .slice (some ⟨w6.heap.size, 0, none⟩) 1 1] = WF at *
      clear y0 y1 y2 y3 y4 y5 y6 y7
      obtain ⟨⟨y0, y1, y2, y3, y4, y5, y6, y7⟩, -⟩ := slot8 e6
      obtain ⟨hone1, hone2⟩ := one_row (S := fun b => w.heap.size ≤ b) (k := 6) (RepGV (fun b => w.heap.size ≤ b) WF) (cleanG d) v6 rfl hvc t6
      refine bodyPost_ret (v := .agg #[.string name, .bool b1, .string b2, .string b3, .slice b4 b5 b6, .slice b7 b8 b9, .string b10, .slice (some ⟨w6.heap.size, 0, none⟩) 1 1]) (by simp [results, Try.results127, go_sem, y0, y1, y2, y3, y4, y5, y6, y7]) rfl ⟨.fld name gr [cleanG d], ([.string name, .bool b1, .string b2, .string b3, .slice b4 b5 b6, .slice b7 b8 b9, .string b10, .slice (some ⟨w6.heap.size, 0, none⟩) 1 1] : List Value), rfl, rfl, .fld _ _ _ _ _ (by rw [hasD_clean]; rfl) (fun x y _ hx' hy => by simp at hx' hy; subst hx' hy; exact clean_idem _) HLK.out, (.fld (db := w6.heap.size) (dO := 0) HNZ.out HGT.out g6 hone1 hone2), x6⟩
    refine AllReadyM.cons (o := { dst := some 3, op := Go.Op.alloc 156, type := 0, pos := "convert.go:293", after := #[], guard := none }) rfl (fun K hK => ?_) AllReadyM.nil
    go_simp
    have XO := hid (heap_alloc_new w3 (.cells #[.string ⟨#[]⟩, .bool false, .string ⟨#[]⟩, .string ⟨#[]⟩, .slice none 0 0, .slice none 0 0, .string ⟨#[]⟩, .slice none 0 0] 156))
    have F2 := hid ((Ext.refl w3).alloc (.cells #[.string ⟨#[]⟩, .bool false, .string ⟨#[]⟩, .string ⟨#[]⟩, .slice none 0 0, .slice none 0 0, .string ⟨#[]⟩, .slice none 0 0] 156))
    have LO := hid (show w3.heap.size < (w3.alloc (.cells #[.string ⟨#[]⟩, .bool false, .string ⟨#[]⟩, .string ⟨#[]⟩, .slice none 0 0, .slice none 0 0, .string ⟨#[]⟩, .slice none 0 0] 156)).heap.size by simp)
    generalize w3.alloc (.cells #[.string ⟨#[]⟩, .bool false, .string ⟨#[]⟩, .string ⟨#[]⟩, .slice none 0 0, .slice none 0 0, .string ⟨#[]⟩, .slice none 0 0] 156) = w4 at *
    refine hK.out _ _ ?hS30 (fun hHeld => ?_)
    case hS30 => (obtain ⟨⟨s0, s1, s2, s3, s4, s5, s6, s7⟩, -⟩ := slot8 ((F1.out.trans F2.out).block X0d.out); exact ⟨s0, s1, s2, s3, s4, s5, s6, s7⟩)
    clear hK K
    (try simp only [Act.put, List.setIfInBounds_toArray, List.set_cons_zero, List.set_cons_succ])
    refine wpAnyM_ready (rs := [5]) (by kernel_rfl) (by simp) ?_
    refine AllReadyM.cons (o := { dst := some 9, op := Go.Op.build 156 #[(0, Go.Operand.tmp 5), (1, Go.Operand.tmp 8)], type := 156, pos := "convert.go:293", after := #[{ on := 1, ground := Go.Ground.data }, { on := 4, ground := Go.Ground.data }], guard := none }) rfl (fun K hK => ?_) AllReadyM.nil
    go_simp
    refine hK.out _ _ ?hS31 (fun hHeld => ?_)
    case hS31 => (obtain ⟨⟨s0, s1, s2, s3, s4, s5, s6, s7⟩, -⟩ := slot8 ((F1.out.trans F2.out).block X0d.out); exact ⟨s0, s1, s2, s3, s4, s5, s6, s7⟩)
    clear hK K
    (try simp only [Act.put, List.setIfInBounds_toArray, List.set_cons_zero, List.set_cons_succ])
    refine wpAnyM_ready (rs := [7]) (by kernel_rfl) (by simp) ?_
    refine AllReadyM.cons (o := { dst := none, op := Go.Op.store 156 (Go.Operand.tmp 3) (Go.Operand.tmp 9), type := 0, pos := "convert.go:293", after := #[{ on := 6, ground := Go.Ground.data }, { on := 5, ground := Go.Ground.data }, { on := 4, ground := Go.Ground.chain }, { on := 0, ground := Go.Ground.phase }, { on := 1, ground := Go.Ground.phase }, { on := 2, ground := Go.Ground.phase }, { on := 3, ground := Go.Ground.phase }, { on := 4, ground := Go.Ground.phase }, { on := 5, ground := Go.Ground.phase }, { on := 6, ground := Go.Ground.phase }], guard := none }) rfl (fun K hK => ?_) AllReadyM.nil
    have s1 := F1.out.size
    have s2 := F2.out.size
    have lo := LO.out
    have sd := HEd.out.size
    have G4 := (HG.out.ext F2.out).weak (S' := fun b => w.heap.size + 2 ≤ b ∧ b < w4.heap.size ∧ b ≠ w3.heap.size) (fun b hb hlt => by obtain ⟨hb1, hb2⟩ := hb; have := HSd.out; exact ⟨by omega, hlt, by omega⟩)
    have X4 := (Ext.refl w4).block XO.out
    obtain ⟨⟨y0, y1, y2, y3, y4, y5, y6, y7⟩, g0, g1, g2, g3, g4, g5, g6, g7⟩ := slot8 X4
    go_simp
    obtain ⟨w5, hw⟩ : ∃ x, x = setL w4 w3.heap.size 0 [.string name, .bool b1, .string b2, .string b3, .slice b4 b5 b6, .slice b7 b8 b9, .string b10, .slice none 0 0] := ⟨_, rfl⟩
    change K _ (setL w4 w3.heap.size 0 [.string name, .bool b1, .string b2, .string b3, .slice b4 b5 b6, .slice b7 b8 b9, .string b10, .slice none 0 0])
    rw [← hw]
    have XO5 := hid (show w5.heap[w3.heap.size]? = some (.cells #[.string name, .bool b1, .string b2, .string b3, .slice b4 b5 b6, .slice b7 b8 b9, .string b10, .slice none 0 0] 156) by rw [hw]; exact setL_all X4 [.string name, .bool b1, .string b2, .string b3, .slice b4 b5 b6, .slice b7 b8 b9, .string b10, .slice none 0 0] rfl)
    have hOR : ¬ w.heap.size + 1 = w3.heap.size := by have := HSd.out; omega
    have hOB : ¬ w.heap.size = w3.heap.size := by have := HSd.out; omega
    have X05 := hid (show w5.heap[w.heap.size]? = some (.cells #[.string name, .pointer p1, .pointer p2, .pointer p3, .pointer p4, .pointer p5, .bool false, .iface ty xv] 212) by rw [hw]; exact (setL_other hOB _).trans ((F1.out.trans F2.out).block X0d.out))
    have X15 := hid (show w5.heap[w.heap.size + 1]? = some (.cells #[.string ⟨#[]⟩, .bool false, .string ⟨#[]⟩, .string ⟨#[]⟩, .slice none 0 0, .slice none 0 0, .string ⟨#[]⟩, .slice none 0 0] 156) by rw [hw]; exact (setL_other hOR _).trans ((F1.out.trans F2.out).block X1d.out))
    have HE5 := hid (show Ext w w5 by rw [hw]; exact setL_below (HEd.out.trans (F1.out.trans F2.out)) (by omega) _ _)
    have G5 := hid (G4.mono (w' := w5) (S' := fun b => w.heap.size + 2 ≤ b ∧ b ≠ w3.heap.size) (fun b o hb ho => by rw [hw]; exact (setL_other hb.2.2 _).trans ho) (fun b hb _ => ⟨hb.1, hb.2.2⟩))
    have HO := hid (And.intro hOR hOB)
    have HS5 := hid (show w.heap.size + 2 ≤ w3.heap.size ∧ w3.heap.size < w5.heap.size from ⟨by have := HSd.out; omega, (Array.getElem?_eq_some_iff.1 XO5.out).1⟩)
    clear hw y0 y1 y2 y3 y4 y5 y6 y7 g0 g1 g2 g3 g4 g5 g6 g7 X4 G4 s1 s2 lo sd hOR hOB
    refine hK.out _ _ ?hS32 (fun hHeld => ?_)
    case hS32 => (obtain ⟨⟨s0, s1, s2, s3, s4, s5, s6, s7⟩, -⟩ := slot8 X05.out; exact ⟨s0, s1, s2, s3, s4, s5, s6, s7⟩)
    clear hK K
    (try simp only [Act.put, List.setIfInBounds_toArray, List.set_cons_zero, List.set_cons_succ])
    refine wpAnyM_done (by kernel_rfl) ?_ _
    obtain ⟨⟨x0, x1, x2, x3, x4, x5, x6, x7⟩, -⟩ := slot8 X05.out
    obtain ⟨⟨y0, y1, y2, y3, y4, y5, y6, y7⟩, g0, g1, g2, g3, g4, g5, g6, g7⟩ := slot8 XO5.out
    go_upto_region 4 with (go_at_call 101; refine (fromTree_any (plainT d) Any _ _ (HX.out.ext HE5.out)).mono ?_; rintro e w6 ⟨cs6, rfl, hT, hE⟩; obtain ⟨r1, r2, r3, r4, r5, r6, r7, r8, r9, r10, rfl⟩ := hT.form; have HT6 := hid hT; have F6 := hid hE; have XO6 := hid (hE.block XO5.out); have X16 := hid (hE.block X15.out); clear hT hE x0 x1 x2 x3 x4 x5 x6 x7 y0 y1 y2 y3 y4 y5 y6 y7 g0 g1 g2 g3 g4 g5 g6 g7; obtain ⟨⟨y0, y1, y2, y3, y4, y5, y6, y7⟩, g0, g1, g2, g3, g4, g5, g6, g7⟩ := slot8 XO6.out; have y7' := fun o => ((Ext.refl w6).alloc o).cellS y7; have g7' := fun o => free_of_heap (((Ext.refl w6).alloc o).block XO6.out) 7)
    have E7 := hid ((Ext.refl w6).alloc (.cells #[.int .i64 r1, .int .i64 r2, .float .f64 r3, .string r4, .slice r5 r6 r7, .slice r8 r9 r10] 32))
    have XV7 := hid (heap_alloc_new w6 (.cells #[.int .i64 r1, .int .i64 r2, .float .f64 r3, .string r4, .slice r5 r6 r7, .slice r8 r9 r10] 32))
    have s5 := HS5.out
    have s6 := F6.out.size
    have hOV : ¬ w6.heap.size = w3.heap.size := by omega
    change Code.wp _ _ _ _ (setL (w6.alloc (.cells #[.int .i64 r1, .int .i64 r2, .float .f64 r3, .string r4, .slice r5 r6 r7, .slice r8 r9 r10] 32)) w3.heap.size 7 [.slice (some ⟨w6.heap.size, 0, none⟩) 1 1])
    obtain ⟨w8, hw⟩ : ∃ x, x = setL (w6.alloc (.cells #[.int .i64 r1, .int .i64 r2, .float .f64 r3, .string r4, .slice r5 r6 r7, .slice r8 r9 r10] 32)) w3.heap.size 7 [.slice (some ⟨w6.heap.size, 0, none⟩) 1 1] := ⟨_, rfl⟩
    rw [← hw]
    have XO8 := hid (show w8.heap[w3.heap.size]? = some (.cells #[.string name, .bool b1, .string b2, .string b3, .slice b4 b5 b6, .slice b7 b8 b9, .string b10, .slice (some ⟨w6.heap.size, 0, none⟩) 1 1] 156) by rw [hw]; have h := setL_heap [.slice (some ⟨w6.heap.size, 0, none⟩) 1 1] [.string name, .bool b1, .string b2, .string b3, .slice b4 b5 b6, .slice b7 b8 b9, .string b10] [.slice none 0 0] (show (w6.alloc (.cells #[.int .i64 r1, .int .i64 r2, .float .f64 r3, .string r4, .slice r5 r6 r7, .slice r8 r9 r10] 32)).heap[w3.heap.size]? = some (.cells (([.string name, .bool b1, .string b2, .string b3, .slice b4 b5 b6, .slice b7 b8 b9, .string b10] : List Value) ++ ([.slice none 0 0] : List Value)).toArray 156) from E7.out.block XO6.out) (by simp); simpa using h)
    have X18 := hid (show w8.heap[w.heap.size + 1]? = some (.cells #[.string ⟨#[]⟩, .bool false, .string ⟨#[]⟩, .string ⟨#[]⟩, .slice none 0 0, .slice none 0 0, .string ⟨#[]⟩, .slice none 0 0] 156) by rw [hw]; exact (setL_other HO.out.1 _).trans (E7.out.block X16.out))
    have HE8 := hid (show Ext w w8 by rw [hw]; exact setL_below (HE5.out.trans (F6.out.trans E7.out)) (by omega) _ _)
    have G8 := hid ((G5.out.ext (F6.out.trans E7.out)).mono (w' := w8) (S' := fun b => w.heap.size + 2 ≤ b ∧ b ≠ w3.heap.size) (fun b o hb ho => by rw [hw]; exact (setL_other hb.2 _).trans ho) (fun _ h _ => h))
    have XV8 := hid (show w8.heap[w6.heap.size]? = some (.cells #[.int .i64 r1, .int .i64 r2, .float .f64 r3, .string r4, .slice r5 r6 r7, .slice r8 r9 r10] 32) by rw [hw]; exact (setL_other hOV _).trans XV7.out)
    have T8 := hid ((HT6.out.ext E7.out).mono (w' := w8) (S' := fun b => w5.heap.size ≤ b) (fun b o hb ho => by rw [hw]; exact (setL_other (by have hb' : w5.heap.size ≤ b := hb; omega) _).trans ho) (fun _ h _ => h))
    clear hw y7' g7' y0 y1 y2 y3 y4 y5 y6 y7 g0 g1 g2 g3 g4 g5 g6 g7
    obtain ⟨⟨y0, y1, y2, y3, y4, y5, y6, y7⟩, -⟩ := slot8 XO8.out
    obtain ⟨⟨q0, q1, q2, q3, q4, q5, q6, q7⟩, s0, s1, s2, s3, s4, s5, s6, s7⟩ := slot8 X18.out
    go_wp2_with fail
    change bodyPost _ _ _ _ _ (setL w8 (w.heap.size + 1) 0 [.string name, .bool b1, .string b2, .string b3, .slice b4 b5 b6, .slice b7 b8 b9, .string b10, .slice (some ⟨w6.heap.size, 0, none⟩) 1 1])
    have e6 := setL_all X18.out [.string name, .bool b1, .string b2, .string b3, .slice b4 b5 b6, .slice b7 b8 b9, .string b10, .slice (some ⟨w6.heap.size, 0, none⟩) 1 1] rfl
    have x6 := setL_below HE8.out (show w.heap.size ≤ w.heap.size + 1 by omega) 0 [.string name, .bool b1, .string b2, .string b3, .slice b4 b5 b6, .slice b7 b8 b9, .string b10, .slice (some ⟨w6.heap.size, 0, none⟩) 1 1]
    have g6 := G8.out.mono (w' := setL w8 (w.heap.size + 1) 0 [.string name, .bool b1, .string b2, .string b3, .slice b4 b5 b6, .slice b7 b8 b9, .string b10, .slice (some ⟨w6.heap.size, 0, none⟩) 1 1]) (S' := fun b => w.heap.size ≤ b) (fun b o hb ho => (setL_other (by have := hb.1; omega) _).trans ho) (fun b hb _ => by have := hb.1; omega)
    have hVR : ¬ w6.heap.size = w.heap.size + 1 := by omega
    have t6 := T8.out.mono (w' := setL w8 (w.heap.size + 1) 0 [.string name, .bool b1, .string b2, .string b3, .slice b4 b5 b6, .slice b7 b8 b9, .string b10, .slice (some ⟨w6.heap.size, 0, none⟩) 1 1]) (S' := fun b => w.heap.size ≤ b) (fun b o hb ho => (setL_other (by have hb' : w5.heap.size ≤ b := hb; omega) _).trans ho) (fun b hb _ => by have hb' : w5.heap.size ≤ b := hb; omega)
    have v6 : (setL w8 (w.heap.size + 1) 0 [.string name, .bool b1, .string b2, .string b3, .slice b4 b5 b6, .slice b7 b8 b9, .string b10, .slice (some ⟨w6.heap.size, 0, none⟩) 1 1]).heap[w6.heap.size]? = some (.cells #[.int .i64 r1, .int .i64 r2, .float .f64 r3, .string r4, .slice r5 r6 r7, .slice r8 r9 r10] 32) := (setL_other hVR _).trans XV8.out
    rw [← clean_eq] at t6
    have hvc : w.heap.size ≤ w6.heap.size := by omega
    generalize setL w8 (w.heap.size + 1) 0 [.string name, .bool b1, .string b2, .string b3, .slice b4 b5 b6, .slice b7 b8 b9, .string b10, .slice (some ⟨w6.heap.size, 0, none⟩) 1 1] = WF at *
    clear y0 y1 y2 y3 y4 y5 y6 y7
    obtain ⟨⟨y0, y1, y2, y3, y4, y5, y6, y7⟩, -⟩ := slot8 e6
    obtain ⟨hone1, hone2⟩ := one_row (S := fun b => w.heap.size ≤ b) (k := 6) (RepGV (fun b => w.heap.size ≤ b) WF) (cleanG d) v6 rfl hvc t6
    refine bodyPost_ret (v := .agg #[.string name, .bool b1, .string b2, .string b3, .slice b4 b5 b6, .slice b7 b8 b9, .string b10, .slice (some ⟨w6.heap.size, 0, none⟩) 1 1]) (by simp [results, Try.results127, go_sem, y0, y1, y2, y3, y4, y5, y6, y7]) rfl ⟨.fld name gr [cleanG d], ([.string name, .bool b1, .string b2, .string b3, .slice b4 b5 b6, .slice b7 b8 b9, .string b10, .slice (some ⟨w6.heap.size, 0, none⟩) 1 1] : List Value), rfl, rfl, .fld _ _ _ _ _ (by rw [hasD_clean]; rfl) (fun x y _ hx' hy => by simp at hx' hy; subst hx' hy; exact clean_idem _) HLK.out, (.fld (db := w6.heap.size) (dO := 0) HNZ.out HGT.out g6 hone1 hone2), x6⟩
  refine AllReadyM.cons (o := { dst := some 3, op := Go.Op.alloc 156, type := 0, pos := "convert.go:293", after := #[], guard := none }) rfl (fun K hK => ?_) AllReadyM.nil
  go_simp
  have XO := hid (heap_alloc_new wd (.cells #[.string ⟨#[]⟩, .bool false, .string ⟨#[]⟩, .string ⟨#[]⟩, .slice none 0 0, .slice none 0 0, .string ⟨#[]⟩, .slice none 0 0] 156))
  have F1 := hid ((Ext.refl wd).alloc (.cells #[.string ⟨#[]⟩, .bool false, .string ⟨#[]⟩, .string ⟨#[]⟩, .slice none 0 0, .slice none 0 0, .string ⟨#[]⟩, .slice none 0 0] 156))
  have LO := hid (show wd.heap.size < (wd.alloc (.cells #[.string ⟨#[]⟩, .bool false, .string ⟨#[]⟩, .string ⟨#[]⟩, .slice none 0 0, .slice none 0 0, .string ⟨#[]⟩, .slice none 0 0] 156)).heap.size by simp)
  generalize wd.alloc (.cells #[.string ⟨#[]⟩, .bool false, .string ⟨#[]⟩, .string ⟨#[]⟩, .slice none 0 0, .slice none 0 0, .string ⟨#[]⟩, .slice none 0 0] 156) = w3 at *
  refine hK.out _ _ ?hS33 (fun hHeld => ?_)
  case hS33 => (obtain ⟨⟨s0, s1, s2, s3, s4, s5, s6, s7⟩, -⟩ := slot8 (F1.out.block X0d.out); exact ⟨s0, s1, s2, s3, s4, s5, s6, s7⟩)
  clear hK K
  (try simp only [Act.put, List.setIfInBounds_toArray, List.set_cons_zero, List.set_cons_succ])
  refine wpAnyM_ready (rs := [4]) (by kernel_rfl) (by simp) ?_
  refine AllReadyM.cons (o := { dst := some 8, op := Go.Op.call { callee := Go.Callee.value (Go.Operand.func 107), args := #[Go.Operand.tmp 7], argTypes := #[126] }, type := 55, pos := "convert.go:293", after := #[{ on := 3, ground := Go.Ground.data }], guard := none }) rfl (fun K hK => ?_) AllReadyM.nil
  refine step_call _ rfl 107 [.tmp 7] #[126] rfl (by kernel_rfl) [_] rfl (HC.out w3 (HEd.out.trans F1.out)) ?_
  rintro en w4 ⟨gr, cs_, rfl, hgt, hlk, hg, hE⟩
  obtain ⟨b1, b2, b3, b4, b5, b6, b7, b8, b9, b10, rfl⟩ := hg.formR hgt
  refine ⟨_, rfl, ?_⟩
  have HG := hid (hg.weak (S' := fun b => w3.heap.size ≤ b ∧ b < w4.heap.size) (fun b h1 h2 => ⟨h1, h2⟩))
  have HGT := hid hgt
  have HLK := hid hlk
  have F2 := hid hE
  clear hg hgt hlk hE
  refine hK.out _ _ ?hS34 (fun hHeld => ?_)
  case hS34 => (obtain ⟨⟨s0, s1, s2, s3, s4, s5, s6, s7⟩, -⟩ := slot8 ((F1.out.trans F2.out).block X0d.out); exact ⟨s0, s1, s2, s3, s4, s5, s6, s7⟩)
  clear hK K
  (try simp only [Act.put, List.setIfInBounds_toArray, List.set_cons_zero, List.set_cons_succ])
  refine wpAnyM_ready (rs := [5]) (by kernel_rfl) (by simp) ?_
  refine AllReadyM.cons (o := { dst := some 9, op := Go.Op.build 156 #[(0, Go.Operand.tmp 5), (1, Go.Operand.tmp 8)], type := 156, pos := "convert.go:293", after := #[{ on := 1, ground := Go.Ground.data }, { on := 4, ground := Go.Ground.data }], guard := none }) rfl (fun K hK => ?_) AllReadyM.nil
  go_simp
  refine hK.out _ _ ?hS35 (fun hHeld => ?_)
  case hS35 => (obtain ⟨⟨s0, s1, s2, s3, s4, s5, s6, s7⟩, -⟩ := slot8 ((F1.out.trans F2.out).block X0d.out); exact ⟨s0, s1, s2, s3, s4, s5, s6, s7⟩)
  clear hK K
  (try simp only [Act.put, List.setIfInBounds_toArray, List.set_cons_zero, List.set_cons_succ])
  refine wpAnyM_ready (rs := [7]) (by kernel_rfl) (by simp) ?_
  refine AllReadyM.cons (o := { dst := none, op := Go.Op.store 156 (Go.Operand.tmp 3) (Go.Operand.tmp 9), type := 0, pos := "convert.go:293", after := #[{ on := 6, ground := Go.Ground.data }, { on := 5, ground := Go.Ground.data }, { on := 4, ground := Go.Ground.chain }, { on := 0, ground := Go.Ground.phase }, { on := 1, ground := Go.Ground.phase }, { on := 2, ground := Go.Ground.phase }, { on := 3, ground := Go.Ground.phase }, { on := 4, ground := Go.Ground.phase }, { on := 5, ground := Go.Ground.phase }, { on := 6, ground := Go.Ground.phase }], guard := none }) rfl (fun K hK => ?_) AllReadyM.nil
  have s1 := F1.out.size
  have s2 := F2.out.size
  have lo := LO.out
  have sd := HEd.out.size
  have G4 := (HG.out.ext (Ext.refl w4)).weak (S' := fun b => w.heap.size + 2 ≤ b ∧ b < w4.heap.size ∧ b ≠ wd.heap.size) (fun b hb hlt => by obtain ⟨hb1, hb2⟩ := hb; have := HSd.out; exact ⟨by omega, hlt, by omega⟩)
  have X4 := F2.out.block XO.out
  obtain ⟨⟨y0, y1, y2, y3, y4, y5, y6, y7⟩, g0, g1, g2, g3, g4, g5, g6, g7⟩ := slot8 X4
  go_simp
  obtain ⟨w5, hw⟩ : ∃ x, x = setL w4 wd.heap.size 0 [.string name, .bool b1, .string b2, .string b3, .slice b4 b5 b6, .slice b7 b8 b9, .string b10, .slice none 0 0] := ⟨_, rfl⟩
  change K _ (setL w4 wd.heap.size 0 [.string name, .bool b1, .string b2, .string b3, .slice b4 b5 b6, .slice b7 b8 b9, .string b10, .slice none 0 0])
  rw [← hw]
  have XO5 := hid (show w5.heap[wd.heap.size]? = some (.cells #[.string name, .bool b1, .string b2, .string b3, .slice b4 b5 b6, .slice b7 b8 b9, .string b10, .slice none 0 0] 156) by rw [hw]; exact setL_all X4 [.string name, .bool b1, .string b2, .string b3, .slice b4 b5 b6, .slice b7 b8 b9, .string b10, .slice none 0 0] rfl)
  have hOR : ¬ w.heap.size + 1 = wd.heap.size := by have := HSd.out; omega
  have hOB : ¬ w.heap.size = wd.heap.size := by have := HSd.out; omega
  have X05 := hid (show w5.heap[w.heap.size]? = some (.cells #[.string name, .pointer p1, .pointer p2, .pointer p3, .pointer p4, .pointer p5, .bool false, .iface ty xv] 212) by rw [hw]; exact (setL_other hOB _).trans ((F1.out.trans F2.out).block X0d.out))
  have X15 := hid (show w5.heap[w.heap.size + 1]? = some (.cells #[.string ⟨#[]⟩, .bool false, .string ⟨#[]⟩, .string ⟨#[]⟩, .slice none 0 0, .slice none 0 0, .string ⟨#[]⟩, .slice none 0 0] 156) by rw [hw]; exact (setL_other hOR _).trans ((F1.out.trans F2.out).block X1d.out))
  have HE5 := hid (show Ext w w5 by rw [hw]; exact setL_below (HEd.out.trans (F1.out.trans F2.out)) (by omega) _ _)
  have G5 := hid (G4.mono (w' := w5) (S' := fun b => w.heap.size + 2 ≤ b ∧ b ≠ wd.heap.size) (fun b o hb ho => by rw [hw]; exact (setL_other hb.2.2 _).trans ho) (fun b hb _ => ⟨hb.1, hb.2.2⟩))
  have HO := hid (And.intro hOR hOB)
  have HS5 := hid (show w.heap.size + 2 ≤ wd.heap.size ∧ wd.heap.size < w5.heap.size from ⟨by have := HSd.out; omega, (Array.getElem?_eq_some_iff.1 XO5.out).1⟩)
  clear hw y0 y1 y2 y3 y4 y5 y6 y7 g0 g1 g2 g3 g4 g5 g6 g7 X4 G4 s1 s2 lo sd hOR hOB
  refine hK.out _ _ ?hS36 (fun hHeld => ?_)
  case hS36 => (obtain ⟨⟨s0, s1, s2, s3, s4, s5, s6, s7⟩, -⟩ := slot8 X05.out; exact ⟨s0, s1, s2, s3, s4, s5, s6, s7⟩)
  clear hK K
  (try simp only [Act.put, List.setIfInBounds_toArray, List.set_cons_zero, List.set_cons_succ])
  refine wpAnyM_done (by kernel_rfl) ?_ _
  obtain ⟨⟨x0, x1, x2, x3, x4, x5, x6, x7⟩, -⟩ := slot8 X05.out
  obtain ⟨⟨y0, y1, y2, y3, y4, y5, y6, y7⟩, g0, g1, g2, g3, g4, g5, g6, g7⟩ := slot8 XO5.out
  go_upto_region 4 with (go_at_call 101; refine (fromTree_any (plainT d) Any _ _ (HX.out.ext HE5.out)).mono ?_; rintro e w6 ⟨cs6, rfl, hT, hE⟩; obtain ⟨r1, r2, r3, r4, r5, r6, r7, r8, r9, r10, rfl⟩ := hT.form; have HT6 := hid hT; have F6 := hid hE; have XO6 := hid (hE.block XO5.out); have X16 := hid (hE.block X15.out); clear hT hE x0 x1 x2 x3 x4 x5 x6 x7 y0 y1 y2 y3 y4 y5 y6 y7 g0 g1 g2 g3 g4 g5 g6 g7; obtain ⟨⟨y0, y1, y2, y3, y4, y5, y6, y7⟩, g0, g1, g2, g3, g4, g5, g6, g7⟩ := slot8 XO6.out; have y7' := fun o => ((Ext.refl w6).alloc o).cellS y7; have g7' := fun o => free_of_heap (((Ext.refl w6).alloc o).block XO6.out) 7)
  have E7 := hid ((Ext.refl w6).alloc (.cells #[.int .i64 r1, .int .i64 r2, .float .f64 r3, .string r4, .slice r5 r6 r7, .slice r8 r9 r10] 32))
  have XV7 := hid (heap_alloc_new w6 (.cells #[.int .i64 r1, .int .i64 r2, .float .f64 r3, .string r4, .slice r5 r6 r7, .slice r8 r9 r10] 32))
  have s5 := HS5.out
  have s6 := F6.out.size
  have hOV : ¬ w6.heap.size = wd.heap.size := by omega
  change Code.wp _ _ _ _ (setL (w6.alloc (.cells #[.int .i64 r1, .int .i64 r2, .float .f64 r3, .string r4, .slice r5 r6 r7, .slice r8 r9 r10] 32)) wd.heap.size 7 [.slice (some ⟨w6.heap.size, 0, none⟩) 1 1])
  obtain ⟨w8, hw⟩ : ∃ x, x = setL (w6.alloc (.cells #[.int .i64 r1, .int .i64 r2, .float .f64 r3, .string r4, .slice r5 r6 r7, .slice r8 r9 r10] 32)) wd.heap.size 7 [.slice (some ⟨w6.heap.size, 0, none⟩) 1 1] := ⟨_, rfl⟩
  rw [← hw]
  have XO8 := hid (show w8.heap[wd.heap.size]? = some (.cells #[.string name, .bool b1, .string b2, .string b3, .slice b4 b5 b6, .slice b7 b8 b9, .string b10, .slice (some ⟨w6.heap.size, 0, none⟩) 1 1] 156) by rw [hw]; have h := setL_heap [.slice (some ⟨w6.heap.size, 0, none⟩) 1 1] [.string name, .bool b1, .string b2, .string b3, .slice b4 b5 b6, .slice b7 b8 b9, .string b10] [.slice none 0 0] (show (w6.alloc (.cells #[.int .i64 r1, .int .i64 r2, .float .f64 r3, .string r4, .slice r5 r6 r7, .slice r8 r9 r10] 32)).heap[wd.heap.size]? = some (.cells (([.string name, .bool b1, .string b2, .string b3, .slice b4 b5 b6, .slice b7 b8 b9, .string b10] : List Value) ++ ([.slice none 0 0] : List Value)).toArray 156) from E7.out.block XO6.out) (by simp); simpa using h)
  have X18 := hid (show w8.heap[w.heap.size + 1]? = some (.cells #[.string ⟨#[]⟩, .bool false, .string ⟨#[]⟩, .string ⟨#[]⟩, .slice none 0 0, .slice none 0 0, .string ⟨#[]⟩, .slice none 0 0] 156) by rw [hw]; exact (setL_other HO.out.1 _).trans (E7.out.block X16.out))
  have HE8 := hid (show Ext w w8 by rw [hw]; exact setL_below (HE5.out.trans (F6.out.trans E7.out)) (by omega) _ _)
  have G8 := hid ((G5.out.ext (F6.out.trans E7.out)).mono (w' := w8) (S' := fun b => w.heap.size + 2 ≤ b ∧ b ≠ wd.heap.size) (fun b o hb ho => by rw [hw]; exact (setL_other hb.2 _).trans ho) (fun _ h _ => h))
  have XV8 := hid (show w8.heap[w6.heap.size]? = some (.cells #[.int .i64 r1, .int .i64 r2, .float .f64 r3, .string r4, .slice r5 r6 r7, .slice r8 r9 r10] 32) by rw [hw]; exact (setL_other hOV _).trans XV7.out)
  have T8 := hid ((HT6.out.ext E7.out).mono (w' := w8) (S' := fun b => w5.heap.size ≤ b) (fun b o hb ho => by rw [hw]; exact (setL_other (by have hb' : w5.heap.size ≤ b := hb; omega) _).trans ho) (fun _ h _ => h))
  clear hw y7' g7' y0 y1 y2 y3 y4 y5 y6 y7 g0 g1 g2 g3 g4 g5 g6 g7
  obtain ⟨⟨y0, y1, y2, y3, y4, y5, y6, y7⟩, -⟩ := slot8 XO8.out
  obtain ⟨⟨q0, q1, q2, q3, q4, q5, q6, q7⟩, s0, s1, s2, s3, s4, s5, s6, s7⟩ := slot8 X18.out
  go_wp2_with fail
  change bodyPost _ _ _ _ _ (setL w8 (w.heap.size + 1) 0 [.string name, .bool b1, .string b2, .string b3, .slice b4 b5 b6, .slice b7 b8 b9, .string b10, .slice (some ⟨w6.heap.size, 0, none⟩) 1 1])
  have e6 := setL_all X18.out [.string name, .bool b1, .string b2, .string b3, .slice b4 b5 b6, .slice b7 b8 b9, .string b10, .slice (some ⟨w6.heap.size, 0, none⟩) 1 1] rfl
  have x6 := setL_below HE8.out (show w.heap.size ≤ w.heap.size + 1 by omega) 0 [.string name, .bool b1, .string b2, .string b3, .slice b4 b5 b6, .slice b7 b8 b9, .string b10, .slice (some ⟨w6.heap.size, 0, none⟩) 1 1]
  have g6 := G8.out.mono (w' := setL w8 (w.heap.size + 1) 0 [.string name, .bool b1, .string b2, .string b3, .slice b4 b5 b6, .slice b7 b8 b9, .string b10, .slice (some ⟨w6.heap.size, 0, none⟩) 1 1]) (S' := fun b => w.heap.size ≤ b) (fun b o hb ho => (setL_other (by have := hb.1; omega) _).trans ho) (fun b hb _ => by have := hb.1; omega)
  have hVR : ¬ w6.heap.size = w.heap.size + 1 := by omega
  have t6 := T8.out.mono (w' := setL w8 (w.heap.size + 1) 0 [.string name, .bool b1, .string b2, .string b3, .slice b4 b5 b6, .slice b7 b8 b9, .string b10, .slice (some ⟨w6.heap.size, 0, none⟩) 1 1]) (S' := fun b => w.heap.size ≤ b) (fun b o hb ho => (setL_other (by have hb' : w5.heap.size ≤ b := hb; omega) _).trans ho) (fun b hb _ => by have hb' : w5.heap.size ≤ b := hb; omega)
  have v6 : (setL w8 (w.heap.size + 1) 0 [.string name, .bool b1, .string b2, .string b3, .slice b4 b5 b6, .slice b7 b8 b9, .string b10, .slice (some ⟨w6.heap.size, 0, none⟩) 1 1]).heap[w6.heap.size]? = some (.cells #[.int .i64 r1, .int .i64 r2, .float .f64 r3, .string r4, .slice r5 r6 r7, .slice r8 r9 r10] 32) := (setL_other hVR _).trans XV8.out
  rw [← clean_eq] at t6
  have hvc : w.heap.size ≤ w6.heap.size := by omega
  generalize setL w8 (w.heap.size + 1) 0 [.string name, .bool b1, .string b2, .string b3, .slice b4 b5 b6, .slice b7 b8 b9, .string b10, .slice (some ⟨w6.heap.size, 0, none⟩) 1 1] = WF at *
  clear y0 y1 y2 y3 y4 y5 y6 y7
  obtain ⟨⟨y0, y1, y2, y3, y4, y5, y6, y7⟩, -⟩ := slot8 e6
  obtain ⟨hone1, hone2⟩ := one_row (S := fun b => w.heap.size ≤ b) (k := 6) (RepGV (fun b => w.heap.size ≤ b) WF) (cleanG d) v6 rfl hvc t6
  refine bodyPost_ret (v := .agg #[.string name, .bool b1, .string b2, .string b3, .slice b4 b5 b6, .slice b7 b8 b9, .string b10, .slice (some ⟨w6.heap.size, 0, none⟩) 1 1]) (by simp [results, Try.results127, go_sem, y0, y1, y2, y3, y4, y5, y6, y7]) rfl ⟨.fld name gr [cleanG d], ([.string name, .bool b1, .string b2, .string b3, .slice b4 b5 b6, .slice b7 b8 b9, .string b10, .slice (some ⟨w6.heap.size, 0, none⟩) 1 1] : List Value), rfl, rfl, .fld _ _ _ _ _ (by rw [hasD_clean]; rfl) (fun x y _ hx' hy => by simp at hx' hy; subst hx' hy; exact clean_idem _) HLK.out, (.fld (db := w6.heap.size) (dO := 0) HNZ.out HGT.out g6 hone1 hone2), x6⟩
theorem fromField_of (name : ByteArray) (t : GS) (ds : List GV) (ih : BackOK 107 1 t) : BackOK 127 5 (.fld name t ds) := by
  intro _ w cs hR
  cases hR with
  | @fld _ _ _ c0 c1 c2 c3 c4 c5 x h1 ht he hd =>
    obtain ⟨p1, p2, p3, p4, p5, e⟩ := he.formR ht
    simp only [List.cons.injEq, and_true] at e
    obtain ⟨rfl, rfl, rfl, rfl, rfl, rfl⟩ := e
    cases ds with
    | nil =>
      cases hd
      exact fromField_0 w name h1 t ht p1 p2 p3 p4 p5 he ih [] rfl
    | cons d ds =>
      have hd' : RepT Any w (plainT d) x := hd
      cases hk : (kcode (plainT d) == 0)
      · have gen : ∀ td, RepT Any w td x → (kcode td == 0) = false → ∃ ty xv, x = .iface ty xv := fun td h hk => by
          cases h <;> first | (cases hk; done) | exact ⟨_, _, rfl⟩
        obtain ⟨ty, xv, rfl⟩ := gen _ hd' hk
        exact fromField_d w name h1 t ht p1 p2 p3 p4 p5 he ih d ds ty xv hd' hk
      · have gen : ∀ td, RepT Any w td x → (kcode td == 0) = true → x = .nilIface := fun td h hk => by
          cases h <;> first | rfl | (cases hk; done)
        have hx := gen _ hd' hk
        subst hx
        exact fromField_0 w name h1 t ht p1 p2 p3 p4 p5 he ih (d :: ds) (by simp [hasD, hk])
end Go.Proofs.Ytempfaefopfobaa
