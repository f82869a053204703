/- LkM: impl.fromMapType. -/
import Derived.Test.YtempfaefopfobaaLkF
import Derived.Test.YtempfaefopfobaaToSch

set_option maxRecDepth 100000
namespace Go.Proofs.Ytempfaefopfobaa
open Go.ChangeShapes Go.WideShapes Go.ChangeAt Go.RowKit
set_option linter.unusedVariables false
set_option linter.unusedSimpArgs false

/-- the cells of fields that are handed out -/
def RowG (S : Nat → Prop) (w : World) (xs : List Value) (gs : List GS) : Prop :=
  xs.length = gs.length * 8 ∧ ∀ (i : Nat) (g : GS), gs[i]? = some g → g.tag = 5 ∧ ∃ cs : List Value, cs.length = 8 ∧ (∀ (j : Nat) (u : Value), cs[j]? = some u → xs[i * 8 + j]? = some u) ∧ RepGS S w g cs
theorem RowG.nil (S : Nat → Prop) (w : World) : RowG S w [] [] := ⟨rfl, fun i p h => by simp at h⟩
theorem RowG.mono {S S' : Nat → Prop} {w w' : World} {xs : List Value} {gs : List GS} (h : RowG S w xs gs) (hs : Same S w w') (hS : ∀ b, S b → b < w.heap.size → S' b) : RowG S' w' xs gs :=
  ⟨h.1, fun i g hg => by obtain ⟨h1, cs, h2, h3, h4⟩ := h.2 i g hg; exact ⟨h1, cs, h2, h3, h4.mono hs hS⟩⟩
theorem RowG.snoc {S : Nat → Prop} {w : World} {xs cs : List Value} {gs : List GS} (h : RowG S w xs gs) {g : GS} (ht : g.tag = 5) (hl : cs.length = 8) (hx : RepGS S w g cs) : RowG S w (xs ++ cs) (gs ++ [g]) := by
  refine ⟨by simp [h.1, hl]; omega, fun i g' hg => ?_⟩
  by_cases hi : i < gs.length
  · rw [List.getElem?_append_left hi] at hg
    obtain ⟨h1, cs', h2, h3, h4⟩ := h.2 i g' hg
    refine ⟨h1, cs', h2, fun j u hu => ?_, h4⟩
    have hj := (List.getElem?_eq_some_iff.1 hu).1
    rw [List.getElem?_append_left (by rw [h.1]; omega)]
    exact h3 j u hu
  · have hi' : i = gs.length := by have := (List.getElem?_eq_some_iff.1 hg).1; simp at this; omega
    subst hi'
    simp at hg
    subst hg
    refine ⟨ht, cs, hl, fun j u hu => ?_, hx⟩
    rw [List.getElem?_append_right (by rw [h.1]; omega), h.1, show gs.length * 8 + j - gs.length * 8 = j by omega]
    exact hu
theorem sl_of_rowG {S : Nat → Prop} {w : World} {base n c : Nat} {a : Option Addr} {xs : List Value} {gs : List GS} {e : TypeId} (hown : w.ownsRow base e 8 (.slice a n c) n xs) (hrow : RowG S w xs gs) (hS : ∀ b, base ≤ b → S b) :
    ∃ fb, SlAt S w 8 a fb 0 gs.length c ∧ n = gs.length ∧ (∀ g ∈ gs, g.tag = 5) ∧ ∀ (i : Nat) (g : GS) (cs : List Value), gs[i]? = some g → cs.length = 8 → cellsAt w fb (0 + i * 8) cs → RepGS S w g cs := by
  have hn : n = gs.length := by have := hown.1; have := hrow.1; omega
  subst hn
  have htag : ∀ g ∈ gs, g.tag = 5 := fun g hg => by
    obtain ⟨i, hi⟩ := List.mem_iff_getElem?.1 hg
    exact (hrow.2 i g hi).1
  rcases Nat.eq_zero_or_pos gs.length with h0 | h0
  · obtain rfl : gs = [] := List.eq_nil_of_length_eq_zero h0
    exact ⟨0, ⟨Nat.zero_le _, fun h => absurd h (by simp), fun i hi => absurd hi (by simp)⟩, rfl, htag, fun i g cs hg => by simp at hg⟩
  · have hle : gs.length ≤ c := by
      rcases hown.2 with ⟨h1, h2⟩ | ⟨g, cap, cur, hv, -, -, hle, -⟩
      · omega
      · simp only [Value.slice.injEq] at hv
        obtain ⟨-, -, rfl⟩ := hv
        exact hle
    obtain ⟨fb, cap, hv, hb, -⟩ := hown.form (by omega)
    simp only [Value.slice.injEq, true_and] at hv
    obtain ⟨rfl, rfl⟩ := hv
    have hc : ∀ (i : Nat) (g : GS) (cs : List Value), gs[i]? = some g → (∀ (j : Nat) (u : Value), cs[j]? = some u → xs[i * 8 + j]? = some u) → cs.length = 8 → cellsAt w fb (0 + i * 8) cs := fun i g cs hg h hl j u hu => by
      have hi := (List.getElem?_eq_some_iff.1 hg).1
      have hj := (List.getElem?_eq_some_iff.1 hu).1
      rw [show 0 + i * 8 + j = i * 8 + j by omega]
      exact (hown.cellAt (i * 8 + j) (by omega)).trans (h j u hu)
    refine ⟨fb, ⟨hle, fun _ => ⟨rfl, hS _ hb⟩, fun i hi => ?_⟩, rfl, htag, fun i g cs hg hl hcs => ?_⟩
    · obtain ⟨g, hg⟩ : ∃ g, gs[i]? = some g := ⟨_, List.getElem?_eq_getElem hi⟩
      obtain ⟨-, cs, h2, h3, -⟩ := hrow.2 i g hg
      exact ⟨cs, h2, hc i g cs hg h3 h2⟩
    · obtain ⟨-, cs', h2, h3, h4⟩ := hrow.2 i g hg
      rw [cellsAt_unique hcs (hc i g cs' hg h3 h2) (hl.trans h2.symm)]
      exact h4
theorem infoFT : (Try.prog.info? 156).map (fun i => (i.zero, i.size, i.bytes)) = some (some (.agg #[.string ByteArray.empty, .bool false, .string ByteArray.empty, .string ByteArray.empty, .slice none 0 0, .slice none 0 0, .string ByteArray.empty, .slice none 0 0]), 8, 144) := by kernel_rfl
set_option maxHeartbeats 2000000 in
theorem fromMapType_any (w : World) (mb : Nat) (fs : List GS) (el : GS) (rel : ByteArray) (hel : el.tag = 1) (fa : Option Addr) (fb fo fc : Nat) (p1 p2 p3 p4 p5 : Option Addr) (hmb : w.heap[mb]? = some (.cells #[.slice fa fs.length fc, .slice none 0 0, .pointer p1, .pointer p2, .pointer p3, .pointer p4, .pointer p5, .bool false, .string rel] 195)) (hR : RepS Any w el [.pointer p1, .pointer p2, .pointer p3, .pointer p4, .pointer p5, .bool false]) (hrel : rel.size ≤ 140737488351232)
    (hb : fs.length * 144 ≤ 140737488351232) (hF : SlAt Any w 8 fa fb fo fs.length fc) (hft : ∀ g ∈ fs, g.tag = 5) (hf : ∀ (i : Nat) (g : GS) (cs : List Value), fs[i]? = some g → cs.length = 8 → cellsAt w fb (fo + i * 8) cs → RepS Any w g cs)
    (ihe : BackOK 107 1 el) (ihf : ∀ (i : Nat) (g : GS), fs[i]? = some g → BackOK 127 5 g) :
    Calls Try.prog 108 #[.pointer (some ⟨mb, 0, none⟩)] w fun e w' => ∃ g' cs', e = .returned (.agg cs'.toArray) ∧ g'.tag = 4 ∧ Lk g' (.mp fs el rel) ∧ RepGS (fun b => w.heap.size ≤ b) w' g' cs' ∧ Ext w w' := by
  obtain ⟨i0, hi, hz0, hz1, hz2⟩ := info_parts infoFT
  have HC := hid (fun W (hW : Ext w W) => ihe hel W _ (hR.ext hW))
  have HIF := hid ihf
  have HF := hid hF
  have HFt := hid hft
  have HFr := hid hf
  have HMB := hid hmb
  have HRZ := hid hrel
  clear hR ihe ihf hF hft hf hmb hrel hel
  go_enter Try.func108, Try.ntmps108
  go_upto_region 1 with fail
  have HX1 := hid (heap_alloc_new w (.cells #[.slice none 0 0, .bool false, .string ⟨#[]⟩, .string ⟨#[]⟩, .slice none 0 0, .slice none 0 0, .string ⟨#[]⟩, .string ⟨#[]⟩] 153))
  have HE1 := hid ((Ext.refl w).alloc (.cells #[.slice none 0 0, .bool false, .string ⟨#[]⟩, .string ⟨#[]⟩, .slice none 0 0, .slice none 0 0, .string ⟨#[]⟩, .string ⟨#[]⟩] 153))
  have HSZ := hid (show (w.alloc (.cells #[.slice none 0 0, .bool false, .string ⟨#[]⟩, .string ⟨#[]⟩, .slice none 0 0, .slice none 0 0, .string ⟨#[]⟩, .string ⟨#[]⟩] 153)).heap.size = w.heap.size + 1 by simp)
  generalize w.alloc (.cells #[.slice none 0 0, .bool false, .string ⟨#[]⟩, .string ⟨#[]⟩, .slice none 0 0, .slice none 0 0, .string ⟨#[]⟩, .string ⟨#[]⟩] 153) = w1 at *
  have HMd := hid (show w1.drew.heap[mb]? = some (.cells #[.slice fa fs.length fc, .slice none 0 0, .pointer p1, .pointer p2, .pointer p3, .pointer p4, .pointer p5, .bool false, .string rel] 195) from (HE1.out.drew).block HMB.out)
  have X1d := hid (show w1.drew.heap[w.heap.size]? = some (.cells #[.slice none 0 0, .bool false, .string ⟨#[]⟩, .string ⟨#[]⟩, .slice none 0 0, .slice none 0 0, .string ⟨#[]⟩, .string ⟨#[]⟩] 153) from (Ext.refl w1).drew.block HX1.out)
  have HEd := hid (HE1.out.drew)
  have HSd := hid (show w.heap.size + 1 ≤ w1.drew.heap.size by have h : w1.drew.heap.size = w1.heap.size := rfl; rw [h, HSZ.out]; exact Nat.le_refl _)
  go_cut [3] from 4 (fun p wx => ∃ (O : Nat) (gr : GS), ∃ b1 b2 b3 b4 b5 b6 b7 b8 b9 b10, p = .pointer (some ⟨O, 0, none⟩) ∧ Hid (gr.tag = 1) ∧ Hid (Lk gr el) ∧ Hid (wx.heap[O]? = some (.cells #[.slice none 0 0, .bool b1, .string b2, .string b3, .slice b4 b5 b6, .slice b7 b8 b9, .string b10, .string rel] 153)) ∧ Hid (wx.heap[w.heap.size]? = some (.cells #[.slice none 0 0, .bool false, .string ⟨#[]⟩, .string ⟨#[]⟩, .slice none 0 0, .slice none 0 0, .string ⟨#[]⟩, .string ⟨#[]⟩] 153)) ∧ Hid (Ext w wx) ∧ Hid (RepGS (fun b => w.heap.size + 1 ≤ b ∧ b < wx.heap.size ∧ b ≠ O) wx gr [.bool b1, .string b2, .string b3, .slice b4 b5 b6, .slice b7 b8 b9, .string b10]) ∧ Hid (w.heap.size < O ∧ O < wx.heap.size))
  case first =>
    refine wp_region_late (fun w' : World => w'.cell? ⟨mb, 2, none⟩ = some (.pointer p1) ∧ w'.cell? ⟨mb, 3, none⟩ = some (.pointer p2) ∧ w'.cell? ⟨mb, 4, none⟩ = some (.pointer p3) ∧ w'.cell? ⟨mb, 5, none⟩ = some (.pointer p4) ∧ w'.cell? ⟨mb, 6, none⟩ = some (.pointer p5) ∧ w'.cell? ⟨mb, 7, none⟩ = some (.bool false) ∧ w'.cell? ⟨mb, 8, none⟩ = some (.string rel)) [] (by kernel_rfl) ?hS17 (fun hHeld => ?_)
    case hS17 => (obtain ⟨⟨k0, k1, k2, k3, k4, k5, k6, k7, k8⟩, -⟩ := slot9 HMd.out; exact ⟨k2, k3, k4, k5, k6, k7, k8⟩)
    generalize w1.drew = wd at *
    change wpAnyM _ _ _ _ _ _ 12 #[false, false, false, false, false, false, false, false, false, false, false, false] _ _
    refine wpAnyM_take (i := 0) (oi := { dst := some 6, op := Go.Op.move (Go.Operand.tmp 0), type := 121, pos := "convert.go:277", after := #[], guard := none }) (v := ?v18) rfl (by kernel_rfl) (fun _ _ _ h => h) (Or.inl ⟨by rfl, ?hy18⟩) (by assumption) ?rest18
    case hy18 => (intro wz hSw; (try dsimp only at hSw); go_simp; try with_reducible rfl)
    (try simp only [Act.put, List.setIfInBounds_toArray, List.set_cons_zero, List.set_cons_succ])
    refine wpAnyM_take (i := 1) (oi := { dst := some 7, op := Go.Op.nilCheck (Go.Operand.tmp 6), type := 0, pos := "convert.go:277", after := #[{ on := 0, ground := Go.Ground.data }], guard := none }) (v := ?v19) rfl (by kernel_rfl) (fun _ _ _ h => h) (Or.inl ⟨by rfl, ?hy19⟩) (by assumption) ?rest19
    case hy19 => (intro wz hSw; (try dsimp only at hSw); go_simp; try with_reducible rfl)
    (try simp only [Act.put, List.setIfInBounds_toArray, List.set_cons_zero, List.set_cons_succ])
    refine wpAnyM_take (i := 2) (oi := { dst := some 8, op := Go.Op.fieldAddr 195 (Go.Operand.tmp 7) 2, type := 0, pos := "convert.go:277", after := #[{ on := 1, ground := Go.Ground.data }], guard := none }) (v := ?v20) rfl (by kernel_rfl) (fun _ _ _ h => h) (Or.inl ⟨by rfl, ?hy20⟩) (by assumption) ?rest20
    case hy20 => (intro wz hSw; (try dsimp only at hSw); go_simp; try with_reducible rfl)
    (try simp only [Act.put, List.setIfInBounds_toArray, List.set_cons_zero, List.set_cons_succ])
    refine wpAnyM_take (i := 3) (oi := { dst := some 9, op := Go.Op.load 126 (Go.Operand.tmp 8), type := 126, pos := "convert.go:277", after := #[{ on := 2, ground := Go.Ground.data }], guard := none }) (v := ?v21) rfl (by kernel_rfl) (fun _ _ _ h => h) (Or.inl ⟨by rfl, ?hy21⟩) (by assumption) ?rest21
    case hy21 => (intro wz hSw; (try dsimp only at hSw); go_simp; try with_reducible rfl)
    (try simp only [Act.put, List.setIfInBounds_toArray, List.set_cons_zero, List.set_cons_succ])
    refine wpAnyM_take (i := 5) (oi := { dst := some 11, op := Go.Op.move (Go.Operand.tmp 0), type := 121, pos := "convert.go:277", after := #[], guard := none }) (v := ?v22) rfl (by kernel_rfl) (fun _ _ _ h => h) (Or.inl ⟨by rfl, ?hy22⟩) (by assumption) ?rest22
    case hy22 => (intro wz hSw; (try dsimp only at hSw); go_simp; try with_reducible rfl)
    (try simp only [Act.put, List.setIfInBounds_toArray, List.set_cons_zero, List.set_cons_succ])
    refine wpAnyM_take (i := 6) (oi := { dst := some 12, op := Go.Op.nilCheck (Go.Operand.tmp 11), type := 0, pos := "convert.go:277", after := #[{ on := 5, ground := Go.Ground.data }], guard := none }) (v := ?v23) rfl (by kernel_rfl) (fun _ _ _ h => h) (Or.inl ⟨by rfl, ?hy23⟩) (by assumption) ?rest23
    case hy23 => (intro wz hSw; (try dsimp only at hSw); go_simp; try with_reducible rfl)
    (try simp only [Act.put, List.setIfInBounds_toArray, List.set_cons_zero, List.set_cons_succ])
    refine wpAnyM_take (i := 7) (oi := { dst := some 13, op := Go.Op.fieldAddr 195 (Go.Operand.tmp 12) 3, type := 0, pos := "convert.go:277", after := #[{ on := 6, ground := Go.Ground.data }], guard := none }) (v := ?v24) rfl (by kernel_rfl) (fun _ _ _ h => h) (Or.inl ⟨by rfl, ?hy24⟩) (by assumption) ?rest24
    case hy24 => (intro wz hSw; (try dsimp only at hSw); go_simp; try with_reducible rfl)
    (try simp only [Act.put, List.setIfInBounds_toArray, List.set_cons_zero, List.set_cons_succ])
    refine wpAnyM_take (i := 8) (oi := { dst := some 14, op := Go.Op.load 127 (Go.Operand.tmp 13), type := 127, pos := "convert.go:277", after := #[{ on := 7, ground := Go.Ground.data }], guard := none }) (v := ?v25) rfl (by kernel_rfl) (fun _ _ _ h => h) (Or.inl ⟨by rfl, ?hy25⟩) (by assumption) ?rest25
    case hy25 => (intro wz hSw; (try dsimp only at hSw); go_simp; try with_reducible rfl)
    (try simp only [Act.put, List.setIfInBounds_toArray, List.set_cons_zero, List.set_cons_succ])
    refine wpAnyM_ready (rs := [4, 10]) (by kernel_rfl) (by simp) ?_
    refine AllReadyM.cons (o := { dst := some 10, op := Go.Op.call { callee := Go.Callee.value (Go.Operand.func 107), args := #[Go.Operand.tmp 9], argTypes := #[126] }, type := 55, pos := "convert.go:277", after := #[{ on := 3, ground := Go.Ground.data }], guard := none }) rfl (fun K hK => ?_) ?more26
    · have tkn : True := trivial
      refine step_call _ rfl 107 [.tmp 9] #[126] rfl (by kernel_rfl) [_] rfl (HC.out wd (HEd.out.trans (Ext.refl wd))) ?_
      rintro en w3 ⟨gr, cs_, rfl, hgt, hlk, hg, hE⟩
      obtain ⟨b1, b2, b3, b4, b5, b6, b7, b8, b9, b10, rfl⟩ := hg.formR hgt
      refine ⟨_, rfl, ?_⟩
      have HG := hid (hg.weak (S' := fun b => wd.heap.size ≤ b ∧ b < w3.heap.size) (fun b h1 h2 => ⟨h1, h2⟩))
      have HGT := hid hgt
      have HLK := hid hlk
      have F1 := hid hE
      clear hg hgt hlk hE
      refine hK.out _ _ ?hS27 (fun hHeld => ?_)
      case hS27 => (obtain ⟨⟨k0, k1, k2, k3, k4, k5, k6, k7, k8⟩, -⟩ := slot9 (F1.out.block HMd.out); exact ⟨k2, k3, k4, k5, k6, k7, k8⟩)
      clear hK K
      (try simp only [Act.put, List.setIfInBounds_toArray, List.set_cons_zero, List.set_cons_succ])
      refine wpAnyM_ready (rs := [9, 10]) (by kernel_rfl) (by simp) ?_
      refine AllReadyM.cons (o := { dst := some 15, op := Go.Op.build 153 #[(1, Go.Operand.tmp 10), (2, Go.Operand.tmp 14)], type := 153, pos := "convert.go:277", after := #[{ on := 4, ground := Go.Ground.data }, { on := 8, ground := Go.Ground.data }], guard := none }) rfl (fun K hK => ?_) ?more28
      · have tkn : True := trivial
        go_simp
        refine hK.out _ _ ?hS29 (fun hHeld => ?_)
        case hS29 => (obtain ⟨⟨k0, k1, k2, k3, k4, k5, k6, k7, k8⟩, -⟩ := slot9 (F1.out.block HMd.out); exact ⟨k2, k3, k4, k5, k6, k7, k8⟩)
        clear hK K
        (try simp only [Act.put, List.setIfInBounds_toArray, List.set_cons_zero, List.set_cons_succ])
        refine wpAnyM_ready (rs := [10]) (by kernel_rfl) (by simp) ?_
        refine AllReadyM.cons (o := { dst := some 3, op := Go.Op.alloc 153, type := 0, pos := "convert.go:277", after := #[], guard := none }) rfl (fun K hK => ?_) AllReadyM.nil
        go_simp
        have XO := hid (heap_alloc_new w3 (.cells #[.slice none 0 0, .bool false, .string ⟨#[]⟩, .string ⟨#[]⟩, .slice none 0 0, .slice none 0 0, .string ⟨#[]⟩, .string ⟨#[]⟩] 153))
        have F2 := hid ((Ext.refl w3).alloc (.cells #[.slice none 0 0, .bool false, .string ⟨#[]⟩, .string ⟨#[]⟩, .slice none 0 0, .slice none 0 0, .string ⟨#[]⟩, .string ⟨#[]⟩] 153))
        have LO := hid (show w3.heap.size < (w3.alloc (.cells #[.slice none 0 0, .bool false, .string ⟨#[]⟩, .string ⟨#[]⟩, .slice none 0 0, .slice none 0 0, .string ⟨#[]⟩, .string ⟨#[]⟩] 153)).heap.size by simp)
        generalize w3.alloc (.cells #[.slice none 0 0, .bool false, .string ⟨#[]⟩, .string ⟨#[]⟩, .slice none 0 0, .slice none 0 0, .string ⟨#[]⟩, .string ⟨#[]⟩] 153) = w4 at *
        refine hK.out _ _ ?hS30 (fun hHeld => ?_)
        case hS30 => (obtain ⟨⟨k0, k1, k2, k3, k4, k5, k6, k7, k8⟩, -⟩ := slot9 ((F1.out.trans F2.out).block HMd.out); exact ⟨k2, k3, k4, k5, k6, k7, k8⟩)
        clear hK K
        (try simp only [Act.put, List.setIfInBounds_toArray, List.set_cons_zero, List.set_cons_succ])
        refine wpAnyM_ready (rs := [11]) (by kernel_rfl) (by simp) ?_
        refine AllReadyM.cons (o := { dst := none, op := Go.Op.store 153 (Go.Operand.tmp 3) (Go.Operand.tmp 15), type := 0, pos := "convert.go:277", after := #[{ on := 10, ground := Go.Ground.data }, { on := 9, ground := Go.Ground.data }, { on := 4, ground := Go.Ground.chain }, { on := 0, ground := Go.Ground.phase }, { on := 1, ground := Go.Ground.phase }, { on := 2, ground := Go.Ground.phase }, { on := 3, ground := Go.Ground.phase }, { on := 4, ground := Go.Ground.phase }, { on := 5, ground := Go.Ground.phase }, { on := 6, ground := Go.Ground.phase }, { on := 7, ground := Go.Ground.phase }, { on := 8, ground := Go.Ground.phase }, { on := 9, ground := Go.Ground.phase }, { on := 10, ground := Go.Ground.phase }], guard := none }) rfl (fun K hK => ?_) AllReadyM.nil
        have s1 := F1.out.size
        have s2 := F2.out.size
        have lo := LO.out
        have G4 := (HG.out.ext F2.out).weak (S' := fun b => w.heap.size + 1 ≤ b ∧ b < w4.heap.size ∧ b ≠ w3.heap.size) (fun b hb hlt => by obtain ⟨hb1, hb2⟩ := hb; have := HSd.out; exact ⟨by omega, hlt, by omega⟩)
        have X4 := (Ext.refl w4).block XO.out
        obtain ⟨⟨y0, y1, y2, y3, y4, y5, y6, y7⟩, g0, g1, g2, g3, g4, g5, g6, g7⟩ := slot8 X4
        go_simp
        obtain ⟨w5, hw⟩ : ∃ x, x = setL w4 w3.heap.size 0 [.slice none 0 0, .bool b1, .string b2, .string b3, .slice b4 b5 b6, .slice b7 b8 b9, .string b10, .string rel] := ⟨_, rfl⟩
        change K _ (setL w4 w3.heap.size 0 [.slice none 0 0, .bool b1, .string b2, .string b3, .slice b4 b5 b6, .slice b7 b8 b9, .string b10, .string rel])
        rw [← hw]
        have hOR : ¬ w.heap.size = w3.heap.size := by have := HSd.out; omega
        have XO5 := hid (show w5.heap[w3.heap.size]? = some (.cells #[.slice none 0 0, .bool b1, .string b2, .string b3, .slice b4 b5 b6, .slice b7 b8 b9, .string b10, .string rel] 153) by rw [hw]; exact setL_all X4 [.slice none 0 0, .bool b1, .string b2, .string b3, .slice b4 b5 b6, .slice b7 b8 b9, .string b10, .string rel] rfl)
        have X15 := hid (show w5.heap[w.heap.size]? = some (.cells #[.slice none 0 0, .bool false, .string ⟨#[]⟩, .string ⟨#[]⟩, .slice none 0 0, .slice none 0 0, .string ⟨#[]⟩, .string ⟨#[]⟩] 153) by rw [hw]; exact (setL_other hOR _).trans ((F1.out.trans F2.out).block X1d.out))
        have HE5 := hid (show Ext w w5 by rw [hw]; exact setL_below (HEd.out.trans (F1.out.trans F2.out)) (by have := HSd.out; omega) _ _)
        have G5 := hid (G4.mono (w' := w5) (S' := fun b => w.heap.size + 1 ≤ b ∧ b < w5.heap.size ∧ b ≠ w3.heap.size) (fun b o hb ho => by rw [hw]; exact (setL_other hb.2.2 _).trans ho) (fun b hb _ => ⟨hb.1, by rw [hw]; exact Nat.lt_of_lt_of_le hb.2.1 (setL_below (Below.refl 0 w4) (Nat.zero_le _) 0 _).size, hb.2.2⟩))
        have HO := hid (show w.heap.size < w3.heap.size ∧ w3.heap.size < w5.heap.size from ⟨by have := HSd.out; omega, (Array.getElem?_eq_some_iff.1 XO5.out).1⟩)
        clear hw y0 y1 y2 y3 y4 y5 y6 y7 g0 g1 g2 g3 g4 g5 g6 g7 X4 G4 s1 s2 lo hOR
        refine hK.out _ _ ?hS31 (fun hHeld => ?_)
        case hS31 => (obtain ⟨⟨k0, k1, k2, k3, k4, k5, k6, k7, k8⟩, -⟩ := slot9 (HE5.out.block HMB.out); exact ⟨k2, k3, k4, k5, k6, k7, k8⟩)
        clear hK K
        (try simp only [Act.put, List.setIfInBounds_toArray, List.set_cons_zero, List.set_cons_succ])
        refine wpAnyM_done (by kernel_rfl) ?_ _
        go_wp2_with fail
        go_meet
        exact ⟨w3.heap.size, gr, b1, b2, b3, b4, b5, b6, b7, b8, b9, b10, rfl, HGT, HLK, XO5, X15, HE5, G5, HO⟩
      refine AllReadyM.cons (o := { dst := some 3, op := Go.Op.alloc 153, type := 0, pos := "convert.go:277", after := #[], guard := none }) rfl (fun K hK => ?_) AllReadyM.nil
      go_simp
      have XO := hid (heap_alloc_new w3 (.cells #[.slice none 0 0, .bool false, .string ⟨#[]⟩, .string ⟨#[]⟩, .slice none 0 0, .slice none 0 0, .string ⟨#[]⟩, .string ⟨#[]⟩] 153))
      have F2 := hid ((Ext.refl w3).alloc (.cells #[.slice none 0 0, .bool false, .string ⟨#[]⟩, .string ⟨#[]⟩, .slice none 0 0, .slice none 0 0, .string ⟨#[]⟩, .string ⟨#[]⟩] 153))
      have LO := hid (show w3.heap.size < (w3.alloc (.cells #[.slice none 0 0, .bool false, .string ⟨#[]⟩, .string ⟨#[]⟩, .slice none 0 0, .slice none 0 0, .string ⟨#[]⟩, .string ⟨#[]⟩] 153)).heap.size by simp)
      generalize w3.alloc (.cells #[.slice none 0 0, .bool false, .string ⟨#[]⟩, .string ⟨#[]⟩, .slice none 0 0, .slice none 0 0, .string ⟨#[]⟩, .string ⟨#[]⟩] 153) = w4 at *
      refine hK.out _ _ ?hS32 (fun hHeld => ?_)
      case hS32 => (obtain ⟨⟨k0, k1, k2, k3, k4, k5, k6, k7, k8⟩, -⟩ := slot9 ((F1.out.trans F2.out).block HMd.out); exact ⟨k2, k3, k4, k5, k6, k7, k8⟩)
      clear hK K
      (try simp only [Act.put, List.setIfInBounds_toArray, List.set_cons_zero, List.set_cons_succ])
      refine wpAnyM_ready (rs := [9]) (by kernel_rfl) (by simp) ?_
      refine AllReadyM.cons (o := { dst := some 15, op := Go.Op.build 153 #[(1, Go.Operand.tmp 10), (2, Go.Operand.tmp 14)], type := 153, pos := "convert.go:277", after := #[{ on := 4, ground := Go.Ground.data }, { on := 8, ground := Go.Ground.data }], guard := none }) rfl (fun K hK => ?_) AllReadyM.nil
      go_simp
      refine hK.out _ _ ?hS33 (fun hHeld => ?_)
      case hS33 => (obtain ⟨⟨k0, k1, k2, k3, k4, k5, k6, k7, k8⟩, -⟩ := slot9 ((F1.out.trans F2.out).block HMd.out); exact ⟨k2, k3, k4, k5, k6, k7, k8⟩)
      clear hK K
      (try simp only [Act.put, List.setIfInBounds_toArray, List.set_cons_zero, List.set_cons_succ])
      refine wpAnyM_ready (rs := [11]) (by kernel_rfl) (by simp) ?_
      refine AllReadyM.cons (o := { dst := none, op := Go.Op.store 153 (Go.Operand.tmp 3) (Go.Operand.tmp 15), type := 0, pos := "convert.go:277", after := #[{ on := 10, ground := Go.Ground.data }, { on := 9, ground := Go.Ground.data }, { on := 4, ground := Go.Ground.chain }, { on := 0, ground := Go.Ground.phase }, { on := 1, ground := Go.Ground.phase }, { on := 2, ground := Go.Ground.phase }, { on := 3, ground := Go.Ground.phase }, { on := 4, ground := Go.Ground.phase }, { on := 5, ground := Go.Ground.phase }, { on := 6, ground := Go.Ground.phase }, { on := 7, ground := Go.Ground.phase }, { on := 8, ground := Go.Ground.phase }, { on := 9, ground := Go.Ground.phase }, { on := 10, ground := Go.Ground.phase }], guard := none }) rfl (fun K hK => ?_) AllReadyM.nil
      have s1 := F1.out.size
      have s2 := F2.out.size
      have lo := LO.out
      have G4 := (HG.out.ext F2.out).weak (S' := fun b => w.heap.size + 1 ≤ b ∧ b < w4.heap.size ∧ b ≠ w3.heap.size) (fun b hb hlt => by obtain ⟨hb1, hb2⟩ := hb; have := HSd.out; exact ⟨by omega, hlt, by omega⟩)
      have X4 := (Ext.refl w4).block XO.out
      obtain ⟨⟨y0, y1, y2, y3, y4, y5, y6, y7⟩, g0, g1, g2, g3, g4, g5, g6, g7⟩ := slot8 X4
      go_simp
      obtain ⟨w5, hw⟩ : ∃ x, x = setL w4 w3.heap.size 0 [.slice none 0 0, .bool b1, .string b2, .string b3, .slice b4 b5 b6, .slice b7 b8 b9, .string b10, .string rel] := ⟨_, rfl⟩
      change K _ (setL w4 w3.heap.size 0 [.slice none 0 0, .bool b1, .string b2, .string b3, .slice b4 b5 b6, .slice b7 b8 b9, .string b10, .string rel])
      rw [← hw]
      have hOR : ¬ w.heap.size = w3.heap.size := by have := HSd.out; omega
      have XO5 := hid (show w5.heap[w3.heap.size]? = some (.cells #[.slice none 0 0, .bool b1, .string b2, .string b3, .slice b4 b5 b6, .slice b7 b8 b9, .string b10, .string rel] 153) by rw [hw]; exact setL_all X4 [.slice none 0 0, .bool b1, .string b2, .string b3, .slice b4 b5 b6, .slice b7 b8 b9, .string b10, .string rel] rfl)
      have X15 := hid (show w5.heap[w.heap.size]? = some (.cells #[.slice none 0 0, .bool false, .string ⟨#[]⟩, .string ⟨#[]⟩, .slice none 0 0, .slice none 0 0, .string ⟨#[]⟩, .string ⟨#[]⟩] 153) by rw [hw]; exact (setL_other hOR _).trans ((F1.out.trans F2.out).block X1d.out))
      have HE5 := hid (show Ext w w5 by rw [hw]; exact setL_below (HEd.out.trans (F1.out.trans F2.out)) (by have := HSd.out; omega) _ _)
      have G5 := hid (G4.mono (w' := w5) (S' := fun b => w.heap.size + 1 ≤ b ∧ b < w5.heap.size ∧ b ≠ w3.heap.size) (fun b o hb ho => by rw [hw]; exact (setL_other hb.2.2 _).trans ho) (fun b hb _ => ⟨hb.1, by rw [hw]; exact Nat.lt_of_lt_of_le hb.2.1 (setL_below (Below.refl 0 w4) (Nat.zero_le _) 0 _).size, hb.2.2⟩))
      have HO := hid (show w.heap.size < w3.heap.size ∧ w3.heap.size < w5.heap.size from ⟨by have := HSd.out; omega, (Array.getElem?_eq_some_iff.1 XO5.out).1⟩)
      clear hw y0 y1 y2 y3 y4 y5 y6 y7 g0 g1 g2 g3 g4 g5 g6 g7 X4 G4 s1 s2 lo hOR
      refine hK.out _ _ ?hS34 (fun hHeld => ?_)
      case hS34 => (obtain ⟨⟨k0, k1, k2, k3, k4, k5, k6, k7, k8⟩, -⟩ := slot9 (HE5.out.block HMB.out); exact ⟨k2, k3, k4, k5, k6, k7, k8⟩)
      clear hK K
      (try simp only [Act.put, List.setIfInBounds_toArray, List.set_cons_zero, List.set_cons_succ])
      refine wpAnyM_done (by kernel_rfl) ?_ _
      go_wp2_with fail
      go_meet
      exact ⟨w3.heap.size, gr, b1, b2, b3, b4, b5, b6, b7, b8, b9, b10, rfl, HGT, HLK, XO5, X15, HE5, G5, HO⟩
    refine AllReadyM.cons (o := { dst := some 3, op := Go.Op.alloc 153, type := 0, pos := "convert.go:277", after := #[], guard := none }) rfl (fun K hK => ?_) AllReadyM.nil
    go_simp
    have XO := hid (heap_alloc_new wd (.cells #[.slice none 0 0, .bool false, .string ⟨#[]⟩, .string ⟨#[]⟩, .slice none 0 0, .slice none 0 0, .string ⟨#[]⟩, .string ⟨#[]⟩] 153))
    have F1 := hid ((Ext.refl wd).alloc (.cells #[.slice none 0 0, .bool false, .string ⟨#[]⟩, .string ⟨#[]⟩, .slice none 0 0, .slice none 0 0, .string ⟨#[]⟩, .string ⟨#[]⟩] 153))
    have LO := hid (show wd.heap.size < (wd.alloc (.cells #[.slice none 0 0, .bool false, .string ⟨#[]⟩, .string ⟨#[]⟩, .slice none 0 0, .slice none 0 0, .string ⟨#[]⟩, .string ⟨#[]⟩] 153)).heap.size by simp)
    generalize wd.alloc (.cells #[.slice none 0 0, .bool false, .string ⟨#[]⟩, .string ⟨#[]⟩, .slice none 0 0, .slice none 0 0, .string ⟨#[]⟩, .string ⟨#[]⟩] 153) = w3 at *
    refine hK.out _ _ ?hS35 (fun hHeld => ?_)
    case hS35 => (obtain ⟨⟨k0, k1, k2, k3, k4, k5, k6, k7, k8⟩, -⟩ := slot9 (F1.out.block HMd.out); exact ⟨k2, k3, k4, k5, k6, k7, k8⟩)
    clear hK K
    (try simp only [Act.put, List.setIfInBounds_toArray, List.set_cons_zero, List.set_cons_succ])
    refine wpAnyM_ready (rs := [4]) (by kernel_rfl) (by simp) ?_
    refine AllReadyM.cons (o := { dst := some 10, op := Go.Op.call { callee := Go.Callee.value (Go.Operand.func 107), args := #[Go.Operand.tmp 9], argTypes := #[126] }, type := 55, pos := "convert.go:277", after := #[{ on := 3, ground := Go.Ground.data }], guard := none }) rfl (fun K hK => ?_) AllReadyM.nil
    refine step_call _ rfl 107 [.tmp 9] #[126] rfl (by kernel_rfl) [_] rfl (HC.out w3 (HEd.out.trans F1.out)) ?_
    rintro en w4 ⟨gr, cs_, rfl, hgt, hlk, hg, hE⟩
    obtain ⟨b1, b2, b3, b4, b5, b6, b7, b8, b9, b10, rfl⟩ := hg.formR hgt
    refine ⟨_, rfl, ?_⟩
    have HG := hid (hg.weak (S' := fun b => w3.heap.size ≤ b ∧ b < w4.heap.size) (fun b h1 h2 => ⟨h1, h2⟩))
    have HGT := hid hgt
    have HLK := hid hlk
    have F2 := hid hE
    clear hg hgt hlk hE
    refine hK.out _ _ ?hS36 (fun hHeld => ?_)
    case hS36 => (obtain ⟨⟨k0, k1, k2, k3, k4, k5, k6, k7, k8⟩, -⟩ := slot9 ((F1.out.trans F2.out).block HMd.out); exact ⟨k2, k3, k4, k5, k6, k7, k8⟩)
    clear hK K
    (try simp only [Act.put, List.setIfInBounds_toArray, List.set_cons_zero, List.set_cons_succ])
    refine wpAnyM_ready (rs := [9]) (by kernel_rfl) (by simp) ?_
    refine AllReadyM.cons (o := { dst := some 15, op := Go.Op.build 153 #[(1, Go.Operand.tmp 10), (2, Go.Operand.tmp 14)], type := 153, pos := "convert.go:277", after := #[{ on := 4, ground := Go.Ground.data }, { on := 8, ground := Go.Ground.data }], guard := none }) rfl (fun K hK => ?_) AllReadyM.nil
    go_simp
    refine hK.out _ _ ?hS37 (fun hHeld => ?_)
    case hS37 => (obtain ⟨⟨k0, k1, k2, k3, k4, k5, k6, k7, k8⟩, -⟩ := slot9 ((F1.out.trans F2.out).block HMd.out); exact ⟨k2, k3, k4, k5, k6, k7, k8⟩)
    clear hK K
    (try simp only [Act.put, List.setIfInBounds_toArray, List.set_cons_zero, List.set_cons_succ])
    refine wpAnyM_ready (rs := [11]) (by kernel_rfl) (by simp) ?_
    refine AllReadyM.cons (o := { dst := none, op := Go.Op.store 153 (Go.Operand.tmp 3) (Go.Operand.tmp 15), type := 0, pos := "convert.go:277", after := #[{ on := 10, ground := Go.Ground.data }, { on := 9, ground := Go.Ground.data }, { on := 4, ground := Go.Ground.chain }, { on := 0, ground := Go.Ground.phase }, { on := 1, ground := Go.Ground.phase }, { on := 2, ground := Go.Ground.phase }, { on := 3, ground := Go.Ground.phase }, { on := 4, ground := Go.Ground.phase }, { on := 5, ground := Go.Ground.phase }, { on := 6, ground := Go.Ground.phase }, { on := 7, ground := Go.Ground.phase }, { on := 8, ground := Go.Ground.phase }, { on := 9, ground := Go.Ground.phase }, { on := 10, ground := Go.Ground.phase }], guard := none }) rfl (fun K hK => ?_) AllReadyM.nil
    have s1 := F1.out.size
    have s2 := F2.out.size
    have lo := LO.out
    have G4 := (HG.out.ext (Ext.refl w4)).weak (S' := fun b => w.heap.size + 1 ≤ b ∧ b < w4.heap.size ∧ b ≠ wd.heap.size) (fun b hb hlt => by obtain ⟨hb1, hb2⟩ := hb; have := HSd.out; exact ⟨by omega, hlt, by omega⟩)
    have X4 := F2.out.block XO.out
    obtain ⟨⟨y0, y1, y2, y3, y4, y5, y6, y7⟩, g0, g1, g2, g3, g4, g5, g6, g7⟩ := slot8 X4
    go_simp
    obtain ⟨w5, hw⟩ : ∃ x, x = setL w4 wd.heap.size 0 [.slice none 0 0, .bool b1, .string b2, .string b3, .slice b4 b5 b6, .slice b7 b8 b9, .string b10, .string rel] := ⟨_, rfl⟩
    change K _ (setL w4 wd.heap.size 0 [.slice none 0 0, .bool b1, .string b2, .string b3, .slice b4 b5 b6, .slice b7 b8 b9, .string b10, .string rel])
    rw [← hw]
    have hOR : ¬ w.heap.size = wd.heap.size := by have := HSd.out; omega
    have XO5 := hid (show w5.heap[wd.heap.size]? = some (.cells #[.slice none 0 0, .bool b1, .string b2, .string b3, .slice b4 b5 b6, .slice b7 b8 b9, .string b10, .string rel] 153) by rw [hw]; exact setL_all X4 [.slice none 0 0, .bool b1, .string b2, .string b3, .slice b4 b5 b6, .slice b7 b8 b9, .string b10, .string rel] rfl)
    have X15 := hid (show w5.heap[w.heap.size]? = some (.cells #[.slice none 0 0, .bool false, .string ⟨#[]⟩, .string ⟨#[]⟩, .slice none 0 0, .slice none 0 0, .string ⟨#[]⟩, .string ⟨#[]⟩] 153) by rw [hw]; exact (setL_other hOR _).trans ((F1.out.trans F2.out).block X1d.out))
    have HE5 := hid (show Ext w w5 by rw [hw]; exact setL_below (HEd.out.trans (F1.out.trans F2.out)) (by have := HSd.out; omega) _ _)
    have G5 := hid (G4.mono (w' := w5) (S' := fun b => w.heap.size + 1 ≤ b ∧ b < w5.heap.size ∧ b ≠ wd.heap.size) (fun b o hb ho => by rw [hw]; exact (setL_other hb.2.2 _).trans ho) (fun b hb _ => ⟨hb.1, by rw [hw]; exact Nat.lt_of_lt_of_le hb.2.1 (setL_below (Below.refl 0 w4) (Nat.zero_le _) 0 _).size, hb.2.2⟩))
    have HO := hid (show w.heap.size < wd.heap.size ∧ wd.heap.size < w5.heap.size from ⟨by have := HSd.out; omega, (Array.getElem?_eq_some_iff.1 XO5.out).1⟩)
    clear hw y0 y1 y2 y3 y4 y5 y6 y7 g0 g1 g2 g3 g4 g5 g6 g7 X4 G4 s1 s2 lo hOR
    refine hK.out _ _ ?hS38 (fun hHeld => ?_)
    case hS38 => (obtain ⟨⟨k0, k1, k2, k3, k4, k5, k6, k7, k8⟩, -⟩ := slot9 (HE5.out.block HMB.out); exact ⟨k2, k3, k4, k5, k6, k7, k8⟩)
    clear hK K
    (try simp only [Act.put, List.setIfInBounds_toArray, List.set_cons_zero, List.set_cons_succ])
    refine wpAnyM_done (by kernel_rfl) ?_ _
    go_wp2_with fail
    go_meet
    exact ⟨wd.heap.size, gr, b1, b2, b3, b4, b5, b6, b7, b8, b9, b10, rfl, HGT, HLK, XO5, X15, HE5, G5, HO⟩
  case rest =>
    rename World => w5
    obtain ⟨O, gr, b1, b2, b3, b4, b5, b6, b7, b8, b9, b10, rfl, HGT, HLK, XO5, X15, HE5, G5, HO⟩ := hcut
    clear X1d HEd HSd HMd HE1 HSZ HX1
    obtain ⟨⟨k0, k1, k2, k3, k4, k5, k6, k7, k8⟩, -⟩ := slot9 (HE5.out.block HMB.out)
    go_upto_region 3 with fail
    clear k0 k1 k2 k3 k4 k5 k6 k7 k8
    have hlen : fs.length * 144 ≤ 140737488351232 := hb
    go_loopw [21] (fun i wr => ∃ (k : Nat) (v : Value) (zs : List Value) (hs : List GS), i = .int .i64 k ∧ k ≤ fs.length ∧ Hid (wr.heap[O]? = some (.cells #[v, .bool b1, .string b2, .string b3, .slice b4 b5 b6, .slice b7 b8 b9, .string b10, .string rel] 153)) ∧ Hid (wr.heap[w.heap.size]? = some (.cells #[.slice none 0 0, .bool false, .string ⟨#[]⟩, .string ⟨#[]⟩, .slice none 0 0, .slice none 0 0, .string ⟨#[]⟩, .string ⟨#[]⟩] 153)) ∧ Hid (wr.ownsRow w5.heap.size 156 8 v k zs) ∧ Hid (RowG (fun b => w5.heap.size ≤ b ∧ some b ≠ v.ownBlock) wr zs hs) ∧ Hid (∀ (i : Nat) (x y : GS), hs[i]? = some x → fs[i]? = some y → Lk x y) ∧ Hid (Below O w5 wr) ∧ Hid (∀ b, O < b → b < w5.heap.size → wr.heap[b]? = w5.heap[b]?) ∧ Hid (w5.heap.size ≤ wr.heap.size)) (fun i _ => fs.length - (intOf i).toNat)
    case atStart => exact ⟨0, .slice none 0 0, [], [], rfl, Nat.zero_le _, XO5, X15, hid (World.ownsRow_nil _ _ _ _), hid (RowG.nil _ _), hid (fun i x y h => by simp at h), hid (Below.refl _ _), hid (fun b _ _ => rfl), hid (Nat.le_refl _)⟩
    case round =>
      obtain ⟨k, v, zs, hs, rfl, hk, HV, HR0, HW, HF2, HLL, HE, HM, HS⟩ := hrel
      obtain ⟨va, vc, rfl⟩ := own_form HW.out
      have hO := HO.out
      have HNV := hid (show some O ≠ (Value.slice va k vc).ownBlock from fun e => by have := own_ge HW.out _ e.symm; omega)
      have HEW := hid (show Ext w wr from Below.trans HE5.out (HE.out.mono (by omega)))
      by_cases h1 : k < fs.length
      · obtain ⟨g, hg⟩ : ∃ g, fs[k]? = some g := ⟨_, List.getElem?_eq_getElem h1⟩
        obtain ⟨sl1, sl2, sl3⟩ := HF.out
        obtain ⟨rfl, -⟩ := sl2 (by omega)
        obtain ⟨cs8, hc8, hcat⟩ := sl3 k h1
        have htag := HFt.out g (List.mem_of_getElem? hg)
        have hR8 := HFr.out k g cs8 hg hc8 hcat
        have hform := hR8.formF htag
        obtain ⟨e0, e1, e2, e3, e4, e5, ex, rfl, hx1, hx2⟩ := hform
        obtain ⟨v0, v1, v2, v3, v4, v5, v6, v7⟩ := cells8 (cellsAt_ext HEW.out hcat)
        have HPC := hid (fun W (hW : Ext w W) => HIF.out k g hg htag W _ (hR8.ext hW))
        have HG := hid hg
        have hi0 : (0 : Int) ≤ (k : Int) := by omega
        have hi1 : (k : Int) < (fs.length : Int) := by omega
        have hex : ex = .nilIface ∨ ∃ ty xv, ex = .iface ty xv := by
          by_cases hn : NullF g
          · exact .inl (hx1 hn)
          · exact .inr (hx2 hn)
        clear hg sl1 sl2 sl3 hcat htag hc8 hR8 hx1 hx2
        rcases hex with rfl | ⟨ty, xv, rfl⟩
        · go_upto_region 5 with fail
          have HB4 := hid (heap_alloc_new wr (.cells #[.string e0, .pointer e1, .pointer e2, .pointer e3, .pointer e4, .pointer e5, .bool false, .nilIface] 212))
          have HW4 := hid (((Ext.refl wr).alloc (.cells #[.string e0, .pointer e1, .pointer e2, .pointer e3, .pointer e4, .pointer e5, .bool false, .nilIface] 212)))
          generalize wr.alloc (.cells #[.string e0, .pointer e1, .pointer e2, .pointer e3, .pointer e4, .pointer e5, .bool false, .nilIface] 212) = w8 at *
          have HB5 := hid (show w8.drew.heap[wr.heap.size]? = some (.cells #[.string e0, .pointer e1, .pointer e2, .pointer e3, .pointer e4, .pointer e5, .bool false, .nilIface] 212) from (Ext.refl w8).drew.block HB4.out)
          have HWD := hid (HW4.out.drew)
          have HEDw := hid (HEW.out.trans HWD.out)
          have KB := hid (show ∀ w' : World, Ext wr w' → w'.heap[wr.heap.size]? = some (.cells #[.string e0, .pointer e1, .pointer e2, .pointer e3, .pointer e4, .pointer e5, .bool false, .nilIface] 212) → (fun w' : World => w'.cell? ⟨O, 0, none⟩ = some (.slice va k vc) ∧ w'.cell? ⟨wr.heap.size, 0, none⟩ = some (.string e0) ∧ w'.cell? ⟨wr.heap.size, 1, none⟩ = some (.pointer e1) ∧ w'.cell? ⟨wr.heap.size, 2, none⟩ = some (.pointer e2) ∧ w'.cell? ⟨wr.heap.size, 3, none⟩ = some (.pointer e3) ∧ w'.cell? ⟨wr.heap.size, 4, none⟩ = some (.pointer e4) ∧ w'.cell? ⟨wr.heap.size, 5, none⟩ = some (.pointer e5) ∧ w'.cell? ⟨wr.heap.size, 6, none⟩ = some (.bool false) ∧ w'.cell? ⟨wr.heap.size, 7, none⟩ = some (.nilIface)) w' from fun w' h hb => ⟨h.cellS ((cell_of_heap HV.out 0).trans rfl), (cell_of_heap hb 0).trans rfl, (cell_of_heap hb 1).trans rfl, (cell_of_heap hb 2).trans rfl, (cell_of_heap hb 3).trans rfl, (cell_of_heap hb 4).trans rfl, (cell_of_heap hb 5).trans rfl, (cell_of_heap hb 6).trans rfl, (cell_of_heap hb 7).trans rfl⟩)
          clear HB4 HW4
          refine wp_region_late (fun w' : World => w'.cell? ⟨O, 0, none⟩ = some (.slice va k vc) ∧ w'.cell? ⟨wr.heap.size, 0, none⟩ = some (.string e0) ∧ w'.cell? ⟨wr.heap.size, 1, none⟩ = some (.pointer e1) ∧ w'.cell? ⟨wr.heap.size, 2, none⟩ = some (.pointer e2) ∧ w'.cell? ⟨wr.heap.size, 3, none⟩ = some (.pointer e3) ∧ w'.cell? ⟨wr.heap.size, 4, none⟩ = some (.pointer e4) ∧ w'.cell? ⟨wr.heap.size, 5, none⟩ = some (.pointer e5) ∧ w'.cell? ⟨wr.heap.size, 6, none⟩ = some (.bool false) ∧ w'.cell? ⟨wr.heap.size, 7, none⟩ = some (.nilIface)) [7] (by kernel_rfl) ?hS39 (fun hHeld => ?_)
          case hS39 => (exact KB.out _ HWD.out HB5.out)
          generalize w8.drew = we at *
          change wpAnyM _ _ _ _ _ _ 8 #[false, false, false, false, false, false, false, false] _ _
          refine wpAnyM_take (i := 0) (oi := { dst := some 25, op := Go.Op.fieldAddr 153 (Go.Operand.tmp 3) 0, type := 0, pos := "convert.go:279", after := #[], guard := none }) (v := ?v40) rfl (by kernel_rfl) (fun _ _ _ h => h) (Or.inl ⟨by rfl, ?hy40⟩) (by assumption) ?rest40
          case hy40 => (intro wz hSw; (try dsimp only at hSw); go_simp; try with_reducible rfl)
          (try simp only [Act.put, List.setIfInBounds_toArray, List.set_cons_zero, List.set_cons_succ])
          refine wpAnyM_take (i := 1) (oi := { dst := some 26, op := Go.Op.load 151 (Go.Operand.tmp 25), type := 151, pos := "convert.go:279", after := #[{ on := 0, ground := Go.Ground.data }], guard := none }) (v := ?v41) rfl (by kernel_rfl) (fun _ _ _ h => h) (Or.inl ⟨by rfl, ?hy41⟩) (by assumption) ?rest41
          case hy41 => (intro wz hSw; (try dsimp only at hSw); go_simp; try with_reducible rfl)
          (try simp only [Act.put, List.setIfInBounds_toArray, List.set_cons_zero, List.set_cons_succ])
          refine wpAnyM_take (i := 2) (oi := { dst := some 27, op := Go.Op.load 212 (Go.Operand.tmp 5), type := 212, pos := "convert.go:279", after := #[], guard := none }) (v := ?v42) rfl (by kernel_rfl) (fun _ _ _ h => h) (Or.inl ⟨by rfl, ?hy42⟩) (by assumption) ?rest42
          case hy42 => (intro wz hSw; (try dsimp only at hSw); go_simp; try with_reducible rfl)
          (try simp only [Act.put, List.setIfInBounds_toArray, List.set_cons_zero, List.set_cons_succ])
          refine wpAnyM_ready (rs := [3]) (by kernel_rfl) (by simp) ?_
          refine AllReadyM.cons (o := { dst := some 28, op := Go.Op.call { callee := Go.Callee.value (Go.Operand.func 127), args := #[Go.Operand.tmp 27], argTypes := #[212] }, type := 156, pos := "convert.go:279", after := #[{ on := 2, ground := Go.Ground.data }], guard := none }) rfl (fun K hK => ?_) AllReadyM.nil
          refine step_call _ rfl 127 [.tmp 27] #[212] rfl (by kernel_rfl) [_] rfl (HPC.out we HEDw.out) ?_
          rintro en w6 ⟨gf, cs6, rfl, hgt6, hlk6, hg6, hE6⟩
          obtain ⟨n1, n2, n3, n4, n5, n6, n7, n8, n9, n10, n11, n12, n13, n14, rfl⟩ := hg6.formF hgt6
          refine ⟨_, rfl, ?_⟩
          have HG6 := hid hg6
          have HGT6 := hid hgt6
          have HLK6 := hid hlk6
          have HE6 := hid hE6
          clear hgt6 hlk6 hg6 hE6
          refine hK.out _ _ ?hS43 (fun hHeld => ?_)
          case hS43 => (exact KB.out _ (HWD.out.trans HE6.out) (HE6.out.block HB5.out))
          clear hK K
          (try simp only [Act.put, List.setIfInBounds_toArray, List.set_cons_zero, List.set_cons_succ])
          refine wpAnyM_ready (rs := [4]) (by kernel_rfl) (by simp) ?_
          refine AllReadyM.cons (o := { dst := some 29, op := Go.Op.buildSlice 151 1 #[(0, Go.Operand.tmp 28)], type := 151, pos := "convert.go:279", after := #[{ on := 3, ground := Go.Ground.data }], guard := none }) rfl (fun K hK => ?_) AllReadyM.nil
          go_simp
          refine hK.out _ _ ?hS44 (fun hHeld => ?_)
          case hS44 => (exact KB.out _ ((HWD.out.trans HE6.out).alloc _) (((Ext.refl w6).alloc _).block (HE6.out.block HB5.out)))
          clear hK K
          (try simp only [Act.put, List.setIfInBounds_toArray, List.set_cons_zero, List.set_cons_succ])
          refine wpAnyM_ready (rs := [5]) (by kernel_rfl) (by simp) ?_
          refine AllReadyM.cons (o := { dst := some 30, op := Go.Op.call { callee := Go.Callee.builtin Go.Builtin.append, args := #[Go.Operand.tmp 26, Go.Operand.tmp 29], argTypes := #[151, 151] }, type := 151, pos := "convert.go:279", after := #[{ on := 1, ground := Go.Ground.data }, { on := 4, ground := Go.Ground.data }, { on := 3, ground := Go.Ground.chain }], guard := none }) rfl (fun K hK => ?_) AllReadyM.nil
          refine step_append_lies _ rfl (.tmp 26) (.tmp 29) 151 rfl w5.heap.size 156 i0 _ 8 144 Try.underlying151 hi hz0 hz1 hz2 rfl (by decide) _ k zs rfl ((ownsRow_ext HW.out (HWD.out.trans HE6.out)).alloc _) ⟨w6.heap.size, 0, none⟩ 1 1 [.string n1, .bool n2, .string n3, .string n4, .slice n5 n6 n7, .slice n8 n9 n10, .string n11, .slice n12 n13 n14] rfl rfl (cells_new w6 [.string n1, .bool n2, .string n3, .string n4, .slice n5 n6 n7, .slice n8 n9 n10, .string n11, .slice n12 n13 n14] _) (by simp [Value.oneCell']) (by decide) (by unfold maxLen; omega) (by omega) (by have := HS.out; have := (HWD.out.trans HE6.out).size; simp; omega) (w6.heap.size + 1) (by simp) ?_
          intro g7 cap7 w7 hown7 hg7 hat7 hlt7
          have ST := hid (row_step HS.out HW.out (HWD.out.trans HE6.out) hown7 hg7 hat7)
          have HV7 := hid ((hg7.block O (by have := HS.out; have := HO.out.2; have := (HWD.out.trans HE6.out).size; simp; omega) HNV.out).trans (((Ext.refl w6).alloc _).block ((HWD.out.trans HE6.out).block HV.out)))
          have HO7 := hid hown7
          clear hown7 hg7 hat7 hlt7
          have z7 := (cell_of_heap HV7.out 0).trans rfl
          have y7 := free_of_heap HV7.out 0
          refine hK.out _ _ ?hS45 (fun hHeld => ?_)
          case hS45 => (have h7 := ST.out.2.2.1 _ _ (Nat.le_refl wr.heap.size) (HE6.out.block HB5.out); exact ⟨z7, (cell_of_heap h7 0).trans rfl, (cell_of_heap h7 1).trans rfl, (cell_of_heap h7 2).trans rfl, (cell_of_heap h7 3).trans rfl, (cell_of_heap h7 4).trans rfl, (cell_of_heap h7 5).trans rfl, (cell_of_heap h7 6).trans rfl, (cell_of_heap h7 7).trans rfl⟩)
          clear hK K
          (try simp only [Act.put, List.setIfInBounds_toArray, List.set_cons_zero, List.set_cons_succ])
          refine wpAnyM_take (i := 6) (oi := { dst := some 31, op := Go.Op.fieldAddr 153 (Go.Operand.tmp 3) 0, type := 0, pos := "convert.go:279", after := #[{ on := 0, ground := Go.Ground.phase }, { on := 1, ground := Go.Ground.phase }, { on := 2, ground := Go.Ground.phase }, { on := 3, ground := Go.Ground.phase }, { on := 4, ground := Go.Ground.phase }, { on := 5, ground := Go.Ground.phase }], guard := none }) (v := ?v46) rfl (by kernel_rfl) (fun _ _ _ h => h) (Or.inl ⟨by rfl, ?hy46⟩) (by assumption) ?rest46
          case hy46 => (intro wz hSw; (try dsimp only at hSw); go_simp; try with_reducible rfl)
          (try simp only [Act.put, List.setIfInBounds_toArray, List.set_cons_zero, List.set_cons_succ])
          refine wpAnyM_ready (rs := [7]) (by kernel_rfl) (by simp) ?_
          refine AllReadyM.behind (o := { dst := none, op := Go.Op.store 151 (Go.Operand.tmp 31) (Go.Operand.tmp 30), type := 0, pos := "convert.go:279", after := #[{ on := 6, ground := Go.Ground.data }, { on := 5, ground := Go.Ground.data }, { on := 5, ground := Go.Ground.chain }, { on := 0, ground := Go.Ground.phase }, { on := 1, ground := Go.Ground.phase }, { on := 2, ground := Go.Ground.phase }, { on := 3, ground := Go.Ground.phase }, { on := 4, ground := Go.Ground.phase }, { on := 5, ground := Go.Ground.phase }], guard := none }) rfl (by kernel_rfl) (fun K hK => ?_) AllReadyM.nil
          go_simp
          refine hK.out _ _ ?_
          clear hK K
          (try simp only [Act.put, List.setIfInBounds_toArray, List.set_cons_zero, List.set_cons_succ])
          refine wpAnyM_done (by kernel_rfl) ?_ _
          go_wp2_with fail
          have hO := HO.out
          have hvar : some O ≠ (Value.slice (some ⟨g7, 0, none⟩) (k + 1) cap7).ownBlock := fun e => by have := own_ge HO7.out _ e.symm; omega
          have HB7 := hid ST.out.2.2.2.2.1
          have hglen : hs.length = k := by have h1 := HW.out.1; have h2 := HF2.out.1; omega
          refine ⟨⟨k + 1, _, _, hs ++ [gf], by go_num, by omega, hid ((setCell_heap HV7.out 0 _).trans rfl), hid (by rw [Below.heap_setCell _ _ _ _ (show w.heap.size ≠ O by omega)]; exact (Below.block HB7.out _ (by omega)).trans HR0.out), hid (own_setCell_ne' HO7.out hvar _), hid ?_, hid ?_, hid (Below.setCell (Below.trans (B := O) HE.out (HB7.out.mono (by omega))) (Nat.le_refl _) _), hid (fun b hb1 hb2 => ?_), hid (by have := HS.out; have := ST.out.2.2.2.2.2.1; simp; omega)⟩, by simp [intOf]; omega⟩
          · refine (HF2.out.mono (S' := fun b => w5.heap.size ≤ b ∧ some b ≠ (Value.slice (some ⟨g7, 0, none⟩) (k + 1) cap7).ownBlock) (fun b ob hb hob => ?_) (fun b hb hlt => ⟨hb.1, fun e => ST.out.2.1 b hlt hb.2 (Option.some.inj e)⟩)).snoc HGT6.out rfl (HG6.out.mono (fun b ob hb hob => ?_) (fun b hb hlt => ?_))
            · rw [Below.heap_setCell _ _ _ _ (show b ≠ O by have := hb.1; omega)]
              exact ST.out.1 b ob ⟨hb.1, hb.2⟩ hob
            · have := HS.out
              have := HWD.out.size
              have hb' : we.heap.size ≤ b := hb
              rw [Below.heap_setCell _ _ _ _ (show b ≠ O by omega)]
              exact ST.out.2.2.1 b ob (by show wr.heap.size ≤ b; omega) hob
            · have := HS.out
              have := HWD.out.size
              have hb' : we.heap.size ≤ b := hb
              exact ⟨by omega, fun e => ST.out.2.2.2.1 b (by omega) hlt (Option.some.inj e)⟩
          · intro i x y hx hy
            by_cases hik : i < hs.length
            · rw [List.getElem?_append_left hik] at hx
              exact HLL.out i x y hx hy
            · have e1 : i = k := by have := (List.getElem?_eq_some_iff.1 hx).1; simp at this; omega
              subst e1
              rw [List.getElem?_append_right (by omega), hglen, Nat.sub_self] at hx
              simp at hx
              subst hx
              rw [HG.out] at hy
              cases hy
              exact HLK6.out
          · rw [Below.heap_setCell _ _ _ _ (show b ≠ O by omega)]
            exact (Below.block HB7.out b hb2).trans (HM.out b hb1 hb2)
        · go_upto_region 5 with fail
          have HB4 := hid (heap_alloc_new wr (.cells #[.string e0, .pointer e1, .pointer e2, .pointer e3, .pointer e4, .pointer e5, .bool false, .iface ty xv] 212))
          have HW4 := hid (((Ext.refl wr).alloc (.cells #[.string e0, .pointer e1, .pointer e2, .pointer e3, .pointer e4, .pointer e5, .bool false, .iface ty xv] 212)))
          generalize wr.alloc (.cells #[.string e0, .pointer e1, .pointer e2, .pointer e3, .pointer e4, .pointer e5, .bool false, .iface ty xv] 212) = w8 at *
          have HB5 := hid (show w8.drew.heap[wr.heap.size]? = some (.cells #[.string e0, .pointer e1, .pointer e2, .pointer e3, .pointer e4, .pointer e5, .bool false, .iface ty xv] 212) from (Ext.refl w8).drew.block HB4.out)
          have HWD := hid (HW4.out.drew)
          have HEDw := hid (HEW.out.trans HWD.out)
          have KB := hid (show ∀ w' : World, Ext wr w' → w'.heap[wr.heap.size]? = some (.cells #[.string e0, .pointer e1, .pointer e2, .pointer e3, .pointer e4, .pointer e5, .bool false, .iface ty xv] 212) → (fun w' : World => w'.cell? ⟨O, 0, none⟩ = some (.slice va k vc) ∧ w'.cell? ⟨wr.heap.size, 0, none⟩ = some (.string e0) ∧ w'.cell? ⟨wr.heap.size, 1, none⟩ = some (.pointer e1) ∧ w'.cell? ⟨wr.heap.size, 2, none⟩ = some (.pointer e2) ∧ w'.cell? ⟨wr.heap.size, 3, none⟩ = some (.pointer e3) ∧ w'.cell? ⟨wr.heap.size, 4, none⟩ = some (.pointer e4) ∧ w'.cell? ⟨wr.heap.size, 5, none⟩ = some (.pointer e5) ∧ w'.cell? ⟨wr.heap.size, 6, none⟩ = some (.bool false) ∧ w'.cell? ⟨wr.heap.size, 7, none⟩ = some (.iface ty xv)) w' from fun w' h hb => ⟨h.cellS ((cell_of_heap HV.out 0).trans rfl), (cell_of_heap hb 0).trans rfl, (cell_of_heap hb 1).trans rfl, (cell_of_heap hb 2).trans rfl, (cell_of_heap hb 3).trans rfl, (cell_of_heap hb 4).trans rfl, (cell_of_heap hb 5).trans rfl, (cell_of_heap hb 6).trans rfl, (cell_of_heap hb 7).trans rfl⟩)
          clear HB4 HW4
          refine wp_region_late (fun w' : World => w'.cell? ⟨O, 0, none⟩ = some (.slice va k vc) ∧ w'.cell? ⟨wr.heap.size, 0, none⟩ = some (.string e0) ∧ w'.cell? ⟨wr.heap.size, 1, none⟩ = some (.pointer e1) ∧ w'.cell? ⟨wr.heap.size, 2, none⟩ = some (.pointer e2) ∧ w'.cell? ⟨wr.heap.size, 3, none⟩ = some (.pointer e3) ∧ w'.cell? ⟨wr.heap.size, 4, none⟩ = some (.pointer e4) ∧ w'.cell? ⟨wr.heap.size, 5, none⟩ = some (.pointer e5) ∧ w'.cell? ⟨wr.heap.size, 6, none⟩ = some (.bool false) ∧ w'.cell? ⟨wr.heap.size, 7, none⟩ = some (.iface ty xv)) [7] (by kernel_rfl) ?hS47 (fun hHeld => ?_)
          case hS47 => (exact KB.out _ HWD.out HB5.out)
          generalize w8.drew = we at *
          change wpAnyM _ _ _ _ _ _ 8 #[false, false, false, false, false, false, false, false] _ _
          refine wpAnyM_take (i := 0) (oi := { dst := some 25, op := Go.Op.fieldAddr 153 (Go.Operand.tmp 3) 0, type := 0, pos := "convert.go:279", after := #[], guard := none }) (v := ?v48) rfl (by kernel_rfl) (fun _ _ _ h => h) (Or.inl ⟨by rfl, ?hy48⟩) (by assumption) ?rest48
          case hy48 => (intro wz hSw; (try dsimp only at hSw); go_simp; try with_reducible rfl)
          (try simp only [Act.put, List.setIfInBounds_toArray, List.set_cons_zero, List.set_cons_succ])
          refine wpAnyM_take (i := 1) (oi := { dst := some 26, op := Go.Op.load 151 (Go.Operand.tmp 25), type := 151, pos := "convert.go:279", after := #[{ on := 0, ground := Go.Ground.data }], guard := none }) (v := ?v49) rfl (by kernel_rfl) (fun _ _ _ h => h) (Or.inl ⟨by rfl, ?hy49⟩) (by assumption) ?rest49
          case hy49 => (intro wz hSw; (try dsimp only at hSw); go_simp; try with_reducible rfl)
          (try simp only [Act.put, List.setIfInBounds_toArray, List.set_cons_zero, List.set_cons_succ])
          refine wpAnyM_take (i := 2) (oi := { dst := some 27, op := Go.Op.load 212 (Go.Operand.tmp 5), type := 212, pos := "convert.go:279", after := #[], guard := none }) (v := ?v50) rfl (by kernel_rfl) (fun _ _ _ h => h) (Or.inl ⟨by rfl, ?hy50⟩) (by assumption) ?rest50
          case hy50 => (intro wz hSw; (try dsimp only at hSw); go_simp; try with_reducible rfl)
          (try simp only [Act.put, List.setIfInBounds_toArray, List.set_cons_zero, List.set_cons_succ])
          refine wpAnyM_ready (rs := [3]) (by kernel_rfl) (by simp) ?_
          refine AllReadyM.cons (o := { dst := some 28, op := Go.Op.call { callee := Go.Callee.value (Go.Operand.func 127), args := #[Go.Operand.tmp 27], argTypes := #[212] }, type := 156, pos := "convert.go:279", after := #[{ on := 2, ground := Go.Ground.data }], guard := none }) rfl (fun K hK => ?_) AllReadyM.nil
          refine step_call _ rfl 127 [.tmp 27] #[212] rfl (by kernel_rfl) [_] rfl (HPC.out we HEDw.out) ?_
          rintro en w6 ⟨gf, cs6, rfl, hgt6, hlk6, hg6, hE6⟩
          obtain ⟨n1, n2, n3, n4, n5, n6, n7, n8, n9, n10, n11, n12, n13, n14, rfl⟩ := hg6.formF hgt6
          refine ⟨_, rfl, ?_⟩
          have HG6 := hid hg6
          have HGT6 := hid hgt6
          have HLK6 := hid hlk6
          have HE6 := hid hE6
          clear hgt6 hlk6 hg6 hE6
          refine hK.out _ _ ?hS51 (fun hHeld => ?_)
          case hS51 => (exact KB.out _ (HWD.out.trans HE6.out) (HE6.out.block HB5.out))
          clear hK K
          (try simp only [Act.put, List.setIfInBounds_toArray, List.set_cons_zero, List.set_cons_succ])
          refine wpAnyM_ready (rs := [4]) (by kernel_rfl) (by simp) ?_
          refine AllReadyM.cons (o := { dst := some 29, op := Go.Op.buildSlice 151 1 #[(0, Go.Operand.tmp 28)], type := 151, pos := "convert.go:279", after := #[{ on := 3, ground := Go.Ground.data }], guard := none }) rfl (fun K hK => ?_) AllReadyM.nil
          go_simp
          refine hK.out _ _ ?hS52 (fun hHeld => ?_)
          case hS52 => (exact KB.out _ ((HWD.out.trans HE6.out).alloc _) (((Ext.refl w6).alloc _).block (HE6.out.block HB5.out)))
          clear hK K
          (try simp only [Act.put, List.setIfInBounds_toArray, List.set_cons_zero, List.set_cons_succ])
          refine wpAnyM_ready (rs := [5]) (by kernel_rfl) (by simp) ?_
          refine AllReadyM.cons (o := { dst := some 30, op := Go.Op.call { callee := Go.Callee.builtin Go.Builtin.append, args := #[Go.Operand.tmp 26, Go.Operand.tmp 29], argTypes := #[151, 151] }, type := 151, pos := "convert.go:279", after := #[{ on := 1, ground := Go.Ground.data }, { on := 4, ground := Go.Ground.data }, { on := 3, ground := Go.Ground.chain }], guard := none }) rfl (fun K hK => ?_) AllReadyM.nil
          refine step_append_lies _ rfl (.tmp 26) (.tmp 29) 151 rfl w5.heap.size 156 i0 _ 8 144 Try.underlying151 hi hz0 hz1 hz2 rfl (by decide) _ k zs rfl ((ownsRow_ext HW.out (HWD.out.trans HE6.out)).alloc _) ⟨w6.heap.size, 0, none⟩ 1 1 [.string n1, .bool n2, .string n3, .string n4, .slice n5 n6 n7, .slice n8 n9 n10, .string n11, .slice n12 n13 n14] rfl rfl (cells_new w6 [.string n1, .bool n2, .string n3, .string n4, .slice n5 n6 n7, .slice n8 n9 n10, .string n11, .slice n12 n13 n14] _) (by simp [Value.oneCell']) (by decide) (by unfold maxLen; omega) (by omega) (by have := HS.out; have := (HWD.out.trans HE6.out).size; simp; omega) (w6.heap.size + 1) (by simp) ?_
          intro g7 cap7 w7 hown7 hg7 hat7 hlt7
          have ST := hid (row_step HS.out HW.out (HWD.out.trans HE6.out) hown7 hg7 hat7)
          have HV7 := hid ((hg7.block O (by have := HS.out; have := HO.out.2; have := (HWD.out.trans HE6.out).size; simp; omega) HNV.out).trans (((Ext.refl w6).alloc _).block ((HWD.out.trans HE6.out).block HV.out)))
          have HO7 := hid hown7
          clear hown7 hg7 hat7 hlt7
          have z7 := (cell_of_heap HV7.out 0).trans rfl
          have y7 := free_of_heap HV7.out 0
          refine hK.out _ _ ?hS53 (fun hHeld => ?_)
          case hS53 => (have h7 := ST.out.2.2.1 _ _ (Nat.le_refl wr.heap.size) (HE6.out.block HB5.out); exact ⟨z7, (cell_of_heap h7 0).trans rfl, (cell_of_heap h7 1).trans rfl, (cell_of_heap h7 2).trans rfl, (cell_of_heap h7 3).trans rfl, (cell_of_heap h7 4).trans rfl, (cell_of_heap h7 5).trans rfl, (cell_of_heap h7 6).trans rfl, (cell_of_heap h7 7).trans rfl⟩)
          clear hK K
          (try simp only [Act.put, List.setIfInBounds_toArray, List.set_cons_zero, List.set_cons_succ])
          refine wpAnyM_take (i := 6) (oi := { dst := some 31, op := Go.Op.fieldAddr 153 (Go.Operand.tmp 3) 0, type := 0, pos := "convert.go:279", after := #[{ on := 0, ground := Go.Ground.phase }, { on := 1, ground := Go.Ground.phase }, { on := 2, ground := Go.Ground.phase }, { on := 3, ground := Go.Ground.phase }, { on := 4, ground := Go.Ground.phase }, { on := 5, ground := Go.Ground.phase }], guard := none }) (v := ?v54) rfl (by kernel_rfl) (fun _ _ _ h => h) (Or.inl ⟨by rfl, ?hy54⟩) (by assumption) ?rest54
          case hy54 => (intro wz hSw; (try dsimp only at hSw); go_simp; try with_reducible rfl)
          (try simp only [Act.put, List.setIfInBounds_toArray, List.set_cons_zero, List.set_cons_succ])
          refine wpAnyM_ready (rs := [7]) (by kernel_rfl) (by simp) ?_
          refine AllReadyM.behind (o := { dst := none, op := Go.Op.store 151 (Go.Operand.tmp 31) (Go.Operand.tmp 30), type := 0, pos := "convert.go:279", after := #[{ on := 6, ground := Go.Ground.data }, { on := 5, ground := Go.Ground.data }, { on := 5, ground := Go.Ground.chain }, { on := 0, ground := Go.Ground.phase }, { on := 1, ground := Go.Ground.phase }, { on := 2, ground := Go.Ground.phase }, { on := 3, ground := Go.Ground.phase }, { on := 4, ground := Go.Ground.phase }, { on := 5, ground := Go.Ground.phase }], guard := none }) rfl (by kernel_rfl) (fun K hK => ?_) AllReadyM.nil
          go_simp
          refine hK.out _ _ ?_
          clear hK K
          (try simp only [Act.put, List.setIfInBounds_toArray, List.set_cons_zero, List.set_cons_succ])
          refine wpAnyM_done (by kernel_rfl) ?_ _
          go_wp2_with fail
          have hO := HO.out
          have hvar : some O ≠ (Value.slice (some ⟨g7, 0, none⟩) (k + 1) cap7).ownBlock := fun e => by have := own_ge HO7.out _ e.symm; omega
          have HB7 := hid ST.out.2.2.2.2.1
          have hglen : hs.length = k := by have h1 := HW.out.1; have h2 := HF2.out.1; omega
          refine ⟨⟨k + 1, _, _, hs ++ [gf], by go_num, by omega, hid ((setCell_heap HV7.out 0 _).trans rfl), hid (by rw [Below.heap_setCell _ _ _ _ (show w.heap.size ≠ O by omega)]; exact (Below.block HB7.out _ (by omega)).trans HR0.out), hid (own_setCell_ne' HO7.out hvar _), hid ?_, hid ?_, hid (Below.setCell (Below.trans (B := O) HE.out (HB7.out.mono (by omega))) (Nat.le_refl _) _), hid (fun b hb1 hb2 => ?_), hid (by have := HS.out; have := ST.out.2.2.2.2.2.1; simp; omega)⟩, by simp [intOf]; omega⟩
          · refine (HF2.out.mono (S' := fun b => w5.heap.size ≤ b ∧ some b ≠ (Value.slice (some ⟨g7, 0, none⟩) (k + 1) cap7).ownBlock) (fun b ob hb hob => ?_) (fun b hb hlt => ⟨hb.1, fun e => ST.out.2.1 b hlt hb.2 (Option.some.inj e)⟩)).snoc HGT6.out rfl (HG6.out.mono (fun b ob hb hob => ?_) (fun b hb hlt => ?_))
            · rw [Below.heap_setCell _ _ _ _ (show b ≠ O by have := hb.1; omega)]
              exact ST.out.1 b ob ⟨hb.1, hb.2⟩ hob
            · have := HS.out
              have := HWD.out.size
              have hb' : we.heap.size ≤ b := hb
              rw [Below.heap_setCell _ _ _ _ (show b ≠ O by omega)]
              exact ST.out.2.2.1 b ob (by show wr.heap.size ≤ b; omega) hob
            · have := HS.out
              have := HWD.out.size
              have hb' : we.heap.size ≤ b := hb
              exact ⟨by omega, fun e => ST.out.2.2.2.1 b (by omega) hlt (Option.some.inj e)⟩
          · intro i x y hx hy
            by_cases hik : i < hs.length
            · rw [List.getElem?_append_left hik] at hx
              exact HLL.out i x y hx hy
            · have e1 : i = k := by have := (List.getElem?_eq_some_iff.1 hx).1; simp at this; omega
              subst e1
              rw [List.getElem?_append_right (by omega), hglen, Nat.sub_self] at hx
              simp at hx
              subst hx
              rw [HG.out] at hy
              cases hy
              exact HLK6.out
          · rw [Below.heap_setCell _ _ _ _ (show b ≠ O by omega)]
            exact (Below.block HB7.out b hb2).trans (HM.out b hb1 hb2)
      · have hkk : k = fs.length := by omega
        have HKK := hid hkk
        clear hkk
        obtain ⟨⟨y0, y1, y2, y3, y4, y5, y6, y7⟩, -⟩ := slot8 HV.out
        obtain ⟨⟨q0, q1, q2, q3, q4, q5, q6, q7⟩, s0, s1, s2, s3, s4, s5, s6, s7⟩ := slot8 HR0.out
        go_wp2_with fail
        have hglen : hs.length = k := by have h1 := HW.out.1; have h2 := HF2.out.1; omega
        obtain ⟨rb, hSl, hnn, htg, hfl⟩ := sl_of_rowG (S := fun b => w5.heap.size ≤ b) HW.out (HF2.out.mono (Same.refl _ _) (fun b hb _ => hb.1)) (fun b hb => hb)
        have hsame : ∀ vs : List Value, Same (fun b => w5.heap.size ≤ b) wr (setL wr w.heap.size 0 vs) := fun vs b o hb ho => (setL_other (by have hb' : w5.heap.size ≤ b := hb; omega) _).trans ho
        change bodyPost _ _ _ _ _ (setL wr w.heap.size 0 [.slice va k vc, .bool b1, .string b2, .string b3, .slice b4 b5 b6, .slice b7 b8 b9, .string b10, .string rel])
        have e6 := setL_all HR0.out [.slice va k vc, .bool b1, .string b2, .string b3, .slice b4 b5 b6, .slice b7 b8 b9, .string b10, .string rel] rfl
        have x6 := setL_below HEW.out (Nat.le_refl w.heap.size) 0 [.slice va k vc, .bool b1, .string b2, .string b3, .slice b4 b5 b6, .slice b7 b8 b9, .string b10, .string rel]
        have g6 := G5.out.mono (w' := setL wr w.heap.size 0 [.slice va k vc, .bool b1, .string b2, .string b3, .slice b4 b5 b6, .slice b7 b8 b9, .string b10, .string rel]) (S' := fun b => w.heap.size ≤ b) (fun b o hb ho => (setL_other (by have := hb.1; omega) _).trans (by
          rcases Nat.lt_trichotomy b O with h | h | h
          · exact (Below.block HE.out b h).trans ho
          · exact absurd h hb.2.2
          · exact (HM.out b h hb.2.1).trans ho)) (fun b hb _ => by have := hb.1; omega)
        have hSl2 := hSl.mono (S' := fun b => w.heap.size ≤ b) (hsame [.slice va k vc, .bool b1, .string b2, .string b3, .slice b4 b5 b6, .slice b7 b8 b9, .string b10, .string rel]) (fun b hb _ => by have hb' : w5.heap.size ≤ b := hb; omega) (by omega)
        have hfl2 : ∀ (i : Nat) (g : GS) (cs : List Value), hs[i]? = some g → cs.length = 8 → cellsAt (setL wr w.heap.size 0 [.slice va k vc, .bool b1, .string b2, .string b3, .slice b4 b5 b6, .slice b7 b8 b9, .string b10, .string rel]) rb (0 + i * 8) cs → RepGS (fun b => w.heap.size ≤ b) (setL wr w.heap.size 0 [.slice va k vc, .bool b1, .string b2, .string b3, .slice b4 b5 b6, .slice b7 b8 b9, .string b10, .string rel]) g cs := fun i g cs hg hl hc =>
          (hfl i g cs hg hl (hSl.back (hsame _) (List.getElem?_eq_some_iff.1 hg).1 hl hc)).mono (hsame _) (fun b hb _ => by have hb' : w5.heap.size ≤ b := hb; omega)
        have HMP := hid (show RepGS (fun b => w.heap.size ≤ b) (setL wr w.heap.size 0 [.slice va k vc, .bool b1, .string b2, .string b3, .slice b4 b5 b6, .slice b7 b8 b9, .string b10, .string rel]) (.mp hs gr rel) [.slice va k vc, .bool b1, .string b2, .string b3, .slice b4 b5 b6, .slice b7 b8 b9, .string b10, .string rel] by
          rw [hnn]
          rw [hnn] at hSl2 g6 hfl2
          exact .mp HRZ.out HGT.out g6 (by rw [← hnn, HKK.out]; exact hlen) hSl2 htg hfl2)
        generalize setL wr w.heap.size 0 [.slice va k vc, .bool b1, .string b2, .string b3, .slice b4 b5 b6, .slice b7 b8 b9, .string b10, .string rel] = WF at *
        clear y0 y1 y2 y3 y4 y5 y6 y7
        obtain ⟨⟨y0, y1, y2, y3, y4, y5, y6, y7⟩, -⟩ := slot8 e6
        exact bodyPost_ret (v := .agg #[.slice va k vc, .bool b1, .string b2, .string b3, .slice b4 b5 b6, .slice b7 b8 b9, .string b10, .string rel]) (by simp [results, Try.results108, go_sem, y0, y1, y2, y3, y4, y5, y6, y7]) rfl ⟨.mp hs gr rel, ([.slice va k vc, .bool b1, .string b2, .string b3, .slice b4 b5 b6, .slice b7 b8 b9, .string b10, .string rel] : List Value), rfl, rfl, .mp _ _ _ _ _ (by rw [hglen, HKK.out]) HLL.out HLK.out, HMP.out, x6⟩
end Go.Proofs.Ytempfaefopfobaa
