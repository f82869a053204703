/- LkA: impl.fromAtom; what is handed out of a type, at whatever depth. -/
import Derived.Test.YtempfaefopfobaaLkM

set_option maxRecDepth 100000
namespace Go.Proofs.Ytempfaefopfobaa
open Go.ChangeShapes Go.WideShapes Go.ChangeAt Go.RowKit
set_option linter.unusedVariables false
set_option linter.unusedSimpArgs false

/-- each part is of the kind that its place asks for -/
inductive WfG : GS → Prop
  | ref (nm : Bool) (name rel : ByteArray) (a : GS) (ht : a.tag = 2) (h : WfG a) : WfG (.ref nm name a rel)
  | atom (sc : ByteArray) (ls ms : List GS) (h1 : ∀ g ∈ ls, g.tag = 3) (h2 : ∀ g ∈ ls, WfG g) (h3 : ∀ g ∈ ms, g.tag = 4) (h4 : ∀ g ∈ ms, WfG g) : WfG (.atom sc ls ms)
  | lst (e : GS) (rel : ByteArray) (keys : List ByteArray) (ht : e.tag = 1) (h : WfG e) : WfG (.lst e rel keys)
  | mp (fs : List GS) (e : GS) (rel : ByteArray) (h1 : ∀ g ∈ fs, g.tag = 5) (h2 : ∀ g ∈ fs, WfG g) (ht : e.tag = 1) (h : WfG e) : WfG (.mp fs e rel)
  | fld (name : ByteArray) (t : GS) (ds : List GV) (ht : t.tag = 1) (h : WfG t) : WfG (.fld name t ds)
theorem sl_each {S : Nat → Prop} {w : World} {k : Nat} {a : Option Addr} {b o c : Nat} {l : List GS} {P : GS → Prop} (hs : SlAt S w k a b o l.length c) (h : ∀ (i : Nat) (g : GS) (cs : List Value), l[i]? = some g → cs.length = k → cellsAt w b (o + i * k) cs → P g) : ∀ g ∈ l, P g := fun g hg => by
  obtain ⟨i, hi⟩ := List.mem_iff_getElem?.1 hg
  obtain ⟨cs, h1, h2⟩ := hs.2.2 i (List.getElem?_eq_some_iff.1 hi).1
  exact h i g cs hi h1 h2
theorem RepGS.wf {S : Nat → Prop} {w : World} {g : GS} {cs : List Value} (h : RepGS S w g cs) : WfG g := by
  induction h with
  | ref h1 h2 ht ha ih => exact .ref _ _ _ _ ht ih
  | atom h1 hL hlt hl hM hmt hm ihl ihm => exact .atom _ _ _ hlt (sl_each hL ihl) hmt (sl_each hM ihm)
  | lst h1 ht he hks ih => exact .lst _ _ _ ht ih
  | mp h1 ht he hb hF hft hf ihe ihf => exact .mp _ _ _ hft (sl_each hF ihf) ht ihe
  | fld h1 ht he hD hd ihe => exact .fld _ _ _ ht ihe
/-- a slice of parts that are handed out -/
def SubG (S : Nat → Prop) (w : World) (tag : Nat) (gs : List GS) (v : Value) : Prop :=
  ∃ a b o c, v = .slice a gs.length c ∧ SlAt S w 8 a b o gs.length c ∧ (∀ g ∈ gs, g.tag = tag) ∧ ∀ (i : Nat) (g : GS) (cs : List Value), gs[i]? = some g → cs.length = 8 → cellsAt w b (o + i * 8) cs → RepGS S w g cs
theorem SubG.mono {S S' : Nat → Prop} {w w' : World} (h : Same S w w') (hS : ∀ b, S b → b < w.heap.size → S' b) {tag : Nat} {gs : List GS} {v : Value} (hr : SubG S w tag gs v) : SubG S' w' tag gs v := by
  obtain ⟨a, b, o, c, h1, h2, h3, h4⟩ := hr
  exact ⟨a, b, o, c, h1, h2.mono h hS (by omega), h3, fun i g cs hg hl hc => (h4 i g cs hg hl (h2.back h (List.getElem?_eq_some_iff.1 hg).1 hl hc)).mono h hS⟩
theorem SubG.nil (S : Nat → Prop) (w : World) (tag : Nat) : SubG S w tag [] (.slice none 0 0) :=
  ⟨none, 0, 0, 0, rfl, ⟨Nat.le_refl _, fun h => absurd h (by simp), fun i hi => absurd hi (by simp)⟩, fun g hg => by simp at hg, fun i g cs hg => by simp at hg⟩
theorem SubG.one {S : Nat → Prop} {w : World} {b tag : Nat} {g : GS} {cs : List Value} {T : TypeId} (hb : w.heap[b]? = some (.cells cs.toArray T)) (hl : cs.length = 8) (hS : S b) (ht : g.tag = tag) (hr : RepGS S w g cs) : SubG S w tag [g] (.slice (some ⟨b, 0, none⟩) 1 1) := by
  obtain ⟨h1, h2⟩ := one_row (S := S) (k := 8) (RepGS S w) g hb hl hS hr
  exact ⟨_, b, 0, 1, rfl, h1, fun g' hg => by simp at hg; rw [hg]; exact ht, h2⟩
theorem SubG.form {S : Nat → Prop} {w : World} {tag : Nat} {gs : List GS} {v : Value} (h : SubG S w tag gs v) : ∃ a n c, v = .slice a n c := by
  obtain ⟨a, b, o, c, h, _⟩ := h
  exact ⟨_, _, _, h⟩
set_option maxHeartbeats 2000000 in
theorem fromAtom_any (w : World) (sc : ByteArray) (ls ms : List GS) (sp lp mp : Option Addr) (lb mb : Nat) (lcs mcs : List Value) (h1 : sc.size ≤ 140737488351232) (hs : StrP Any w 189 sc (.pointer sp))
    (hl0 : Value.pointer lp = if ls.length = 0 then .pointer none else .pointer (some ⟨lb, 0, none⟩)) (hlb : 0 < ls.length → w.heap[lb]? = some (.cells lcs.toArray 129)) (hl : ∀ g, ls[0]? = some g → RepS Any w g lcs) (hlt : ∀ g, ls[0]? = some g → g.tag = 3)
    (hm0 : Value.pointer mp = if ms.length = 0 then .pointer none else .pointer (some ⟨mb, 0, none⟩)) (hmb : 0 < ms.length → w.heap[mb]? = some (.cells mcs.toArray 195)) (hm : ∀ g, ms[0]? = some g → RepS Any w g mcs) (hmt : ∀ g, ms[0]? = some g → g.tag = 4)
    (ihr : ∀ e rel keys, ls[0]? = some (.lst e rel keys) → BackOK 107 1 e) (ihm : ∀ fs e rel, ms[0]? = some (.mp fs e rel) → BackOK 107 1 e ∧ ∀ (i : Nat) (g : GS), fs[i]? = some g → BackOK 127 5 g) (ihf : ∀ fs e rel, ms[0]? = some (.mp fs e rel) → ∀ g ∈ fs, g.tag = 5) :
    Calls Try.prog 80 #[.agg #[.pointer sp, .pointer lp, .pointer mp]] w fun e w' => ∃ g' cs', e = .returned (.agg cs'.toArray) ∧ g'.tag = 2 ∧ Lk g' (.atom sc ls ms) ∧ RepGS (fun b => w.heap.size ≤ b) w' g' cs' ∧ Ext w w' := by
  have HS := hid hs
  have HLB := hid hlb
  have HL := hid hl
  have HLT := hid hlt
  have HMB := hid hmb
  have HM := hid hm
  have HMT := hid hmt
  have IHR := hid ihr
  have IHM := hid ihm
  have HSC := hid h1
  have HL0 := hid hl0
  have HM0 := hid hm0
  clear hs hlb hl hlt hmb hm hmt ihr ihm ihf h1 hl0 hm0
  go_enter Try.func80, Try.ntmps80
  go_upto_region 2 with fail
  have X0 := hid (((Ext.refl _).alloc (.cells #[.string ⟨#[]⟩, .slice none 0 0, .slice none 0 0] 53)).block (first_heap w (.cells #[.pointer sp, .pointer lp, .pointer mp] 123) (.cells #[.string ⟨#[]⟩, .slice none 0 0, .slice none 0 0] 53)))
  have X1 := hid (((Ext.refl _).alloc (.cells #[.string ⟨#[]⟩, .slice none 0 0, .slice none 0 0] 53)).block (second_heap w (.cells #[.pointer sp, .pointer lp, .pointer mp] 123) (.cells #[.string ⟨#[]⟩, .slice none 0 0, .slice none 0 0] 53)))
  have X2 := hid (third_heap w (.cells #[.pointer sp, .pointer lp, .pointer mp] 123) (.cells #[.string ⟨#[]⟩, .slice none 0 0, .slice none 0 0] 53) (.cells #[.string ⟨#[]⟩, .slice none 0 0, .slice none 0 0] 53))
  have HE := hid ((((Ext.refl w).alloc (.cells #[.pointer sp, .pointer lp, .pointer mp] 123)).alloc (.cells #[.string ⟨#[]⟩, .slice none 0 0, .slice none 0 0] 53)).alloc (.cells #[.string ⟨#[]⟩, .slice none 0 0, .slice none 0 0] 53))
  have HSZ := hid (show (((w.alloc (.cells #[.pointer sp, .pointer lp, .pointer mp] 123)).alloc (.cells #[.string ⟨#[]⟩, .slice none 0 0, .slice none 0 0] 53)).alloc (.cells #[.string ⟨#[]⟩, .slice none 0 0, .slice none 0 0] 53)).heap.size = w.heap.size + 3 by simp)
  generalize ((w.alloc (.cells #[.pointer sp, .pointer lp, .pointer mp] 123)).alloc (.cells #[.string ⟨#[]⟩, .slice none 0 0, .slice none 0 0] 53)).alloc (.cells #[.string ⟨#[]⟩, .slice none 0 0, .slice none 0 0] 53) = w3 at *
  obtain ⟨⟨x0, x1, x2⟩, -⟩ := slot3 X0.out
  obtain ⟨⟨y0, y1, y2⟩, g0, g1, g2⟩ := slot3 X2.out
  have hO1 : ¬ w.heap.size = w.heap.size + 1 + 1 := by omega
  have hO2 : ¬ w.heap.size + 1 = w.heap.size + 1 + 1 := by omega
  go_upto_if 7 with fail
  go_cut [] from 5 (fun wx => Hid (wx.heap[w.heap.size]? = some (.cells #[.pointer sp, .pointer lp, .pointer mp] 123)) ∧ Hid (wx.heap[w.heap.size + 1]? = some (.cells #[.string ⟨#[]⟩, .slice none 0 0, .slice none 0 0] 53)) ∧ Hid (wx.heap[w.heap.size + 1 + 1]? = some (.cells #[.string sc, .slice none 0 0, .slice none 0 0] 53)) ∧ Hid (Ext w wx) ∧ Hid (w.heap.size + 3 ≤ wx.heap.size))
  case first =>
    rcases HS.out with ⟨h3, h4⟩ | ⟨h3, b, h4, -, h5⟩
    · cases h4
      obtain rfl := size0 h3
      go_wp2_with fail
      go_meet
      exact ⟨X0, X1, X2, HE, hid (by rw [HSZ.out]; exact Nat.le_refl _)⟩
    · cases h4
      have cs := (cell_of_heap (HE.out.block h5) 0).trans rfl
      clear h3 h5
      go_wp2_with fail
      go_meet
      exact ⟨hid (by rw [Below.heap_setCell _ _ _ _ hO1]; exact X0.out), hid (by rw [Below.heap_setCell _ _ _ _ hO2]; exact X1.out), hid ((setCell_heap X2.out 0 _).trans rfl), hid (HE.out.setCell (show w.heap.size ≤ w.heap.size + 1 + 1 by omega) _), hid (by simp; rw [HSZ.out]; exact Nat.le_refl _)⟩
  case rest =>
  rename World => w4
  obtain ⟨Y0, Y1, Y2, HE4, HS4⟩ := hcut
  clear X0 X1 X2 HE HSZ x0 x1 x2 y0 y1 y2 g0 g1 g2
  obtain ⟨⟨x0, x1, x2⟩, -⟩ := slot3 Y0.out
  obtain ⟨⟨y0, y1, y2⟩, g0, g1, g2⟩ := slot3 Y2.out
  go_upto_if 15 with fail
  go_cut [] from 13 (fun wx => ∃ (ls' : List GS) (lv : Value), Hid (ls'.length = min 1 ls.length ∧ (∀ x y, ls'[0]? = some x → ls[0]? = some y → Lk x y)) ∧ Hid (SubG (fun b => w.heap.size + 3 ≤ b) wx 3 ls' lv) ∧ Hid (wx.heap[w.heap.size]? = some (.cells #[.pointer sp, .pointer lp, .pointer mp] 123)) ∧ Hid (wx.heap[w.heap.size + 1]? = some (.cells #[.string ⟨#[]⟩, .slice none 0 0, .slice none 0 0] 53)) ∧ Hid (wx.heap[w.heap.size + 1 + 1]? = some (.cells #[.string sc, lv, .slice none 0 0] 53)) ∧ Hid (Ext w wx) ∧ Hid (w.heap.size + 3 ≤ wx.heap.size))
  case first =>
    by_cases hlen : ls.length = 0
    · have e := HL0.out
      rw [if_pos hlen] at e
      cases e
      have HLZ := hid hlen
      clear hlen
      go_wp2_with fail
      go_meet
      exact ⟨[], _, hid ⟨by rw [HLZ.out]; rfl, fun x y h => by simp at h⟩, hid (SubG.nil _ _ _), Y0, Y1, Y2, HE4, HS4⟩
    · have e := HL0.out
      rw [if_neg hlen] at e
      cases e
      obtain ⟨g, hg⟩ : ∃ g, ls[0]? = some g := ⟨_, List.getElem?_eq_getElem (by omega)⟩
      have hR := HL.out g hg
      have htag := HLT.out g hg
      cases hR with
      | @lst e rel keys kv c0 c1 c2 c3 c4 c5 hr1 hte hee hks =>
        obtain ⟨p1, p2, p3, p4, p5, eq⟩ := hee.formR hte
        simp only [List.cons.injEq, and_true] at eq
        obtain ⟨rfl, rfl, rfl, rfl, rfl, rfl⟩ := eq
        have HKS := hid (fun W (hW : Ext w W) => hks.ext hW)
        obtain ⟨ka, kb, ko, kc, rfl, hkle, hksz, -, -, hke⟩ := hks
        generalize hkn : keys.length = kn at *
        have HKN := hid hkn
        have HKZ := hid hksz
        have HKE := hid hke
        have HRZ := hid hr1
        have HL1 := hid hg
        have HLEN := hid (show min 1 ls.length = 1 by omega)
        have HLBB := hid (HLB.out (by omega))
        have HCR := hid (fun W (hW : Ext w W) => IHR.out e rel keys hg hte W _ (hee.ext hW))
        obtain ⟨is, his, hs0, hs1, hs2⟩ := info_parts infoStr
        clear hlen hg hee hkn hksz hke hr1 hte hkle
        go_upto_region 5 with fail
        have Y0d := hid (show w4.drew.heap[w.heap.size]? = some (.cells #[.pointer sp, .pointer (some ⟨lb, 0, none⟩), .pointer mp] 123) from (Ext.refl w4).drew.block Y0.out)
        have Y1d := hid (show w4.drew.heap[w.heap.size + 1]? = some (.cells #[.string ⟨#[]⟩, .slice none 0 0, .slice none 0 0] 53) from (Ext.refl w4).drew.block Y1.out)
        have Y2d := hid (show w4.drew.heap[w.heap.size + 1 + 1]? = some (.cells #[.string sc, .slice none 0 0, .slice none 0 0] 53) from (Ext.refl w4).drew.block Y2.out)
        have HEd := hid (HE4.out.drew)
        have HSd := hid (show w.heap.size + 3 ≤ w4.drew.heap.size from HS4.out)
        refine wp_region_late (fun w' : World => w'.cell? ⟨w.heap.size, 1, none⟩ = some (.pointer (some ⟨lb, 0, none⟩)) ∧ w'.cell? ⟨lb, 0, none⟩ = some (.pointer p1) ∧ w'.cell? ⟨lb, 1, none⟩ = some (.pointer p2) ∧ w'.cell? ⟨lb, 2, none⟩ = some (.pointer p3) ∧ w'.cell? ⟨lb, 3, none⟩ = some (.pointer p4) ∧ w'.cell? ⟨lb, 4, none⟩ = some (.pointer p5) ∧ w'.cell? ⟨lb, 5, none⟩ = some (.bool false) ∧ w'.cell? ⟨lb, 6, none⟩ = some (.string rel) ∧ w'.cell? ⟨lb, 7, none⟩ = some (.slice ka kn kc)) [] (by kernel_rfl) ?hS55 (fun hHeld => ?_)
        case hS55 => (obtain ⟨⟨k0, k1, k2⟩, -⟩ := slot3 Y0d.out; obtain ⟨⟨l0, l1, l2, l3, l4, l5, l6, l7⟩, -⟩ := slot8 (HEd.out.block HLBB.out); exact ⟨k1, l0, l1, l2, l3, l4, l5, l6, l7⟩)
        generalize w4.drew = wd at *
        change wpAnyM _ _ _ _ _ _ 21 #[false, false, false, false, false, false, false, false, false, false, false, false, false, false, false, false, false, false, false, false, false] _ _
        refine wpAnyM_take (i := 0) (oi := { dst := some 16, op := Go.Op.fieldAddr 123 (Go.Operand.tmp 1) 1, type := 0, pos := "convert.go:268", after := #[], guard := none }) (v := ?v56) rfl (by kernel_rfl) (fun _ _ _ h => h) (Or.inl ⟨by rfl, ?hy56⟩) (by assumption) ?rest56
        case hy56 => (intro wz hSw; (try dsimp only at hSw); go_simp; try with_reducible rfl)
        (try simp only [Act.put, List.setIfInBounds_toArray, List.set_cons_zero, List.set_cons_succ])
        refine wpAnyM_take (i := 1) (oi := { dst := some 17, op := Go.Op.load 120 (Go.Operand.tmp 16), type := 120, pos := "convert.go:268", after := #[{ on := 0, ground := Go.Ground.data }], guard := none }) (v := ?v57) rfl (by kernel_rfl) (fun _ _ _ h => h) (Or.inl ⟨by rfl, ?hy57⟩) (by assumption) ?rest57
        case hy57 => (intro wz hSw; (try dsimp only at hSw); go_simp; try with_reducible rfl)
        (try simp only [Act.put, List.setIfInBounds_toArray, List.set_cons_zero, List.set_cons_succ])
        refine wpAnyM_take (i := 2) (oi := { dst := some 18, op := Go.Op.nilCheck (Go.Operand.tmp 17), type := 0, pos := "convert.go:268", after := #[{ on := 1, ground := Go.Ground.data }], guard := none }) (v := ?v58) rfl (by kernel_rfl) (fun _ _ _ h => h) (Or.inl ⟨by rfl, ?hy58⟩) (by assumption) ?rest58
        case hy58 => (intro wz hSw; (try dsimp only at hSw); go_simp; try with_reducible rfl)
        (try simp only [Act.put, List.setIfInBounds_toArray, List.set_cons_zero, List.set_cons_succ])
        refine wpAnyM_take (i := 3) (oi := { dst := some 19, op := Go.Op.fieldAddr 129 (Go.Operand.tmp 18) 0, type := 0, pos := "convert.go:268", after := #[{ on := 2, ground := Go.Ground.data }], guard := none }) (v := ?v59) rfl (by kernel_rfl) (fun _ _ _ h => h) (Or.inl ⟨by rfl, ?hy59⟩) (by assumption) ?rest59
        case hy59 => (intro wz hSw; (try dsimp only at hSw); go_simp; try with_reducible rfl)
        (try simp only [Act.put, List.setIfInBounds_toArray, List.set_cons_zero, List.set_cons_succ])
        refine wpAnyM_take (i := 4) (oi := { dst := some 20, op := Go.Op.load 126 (Go.Operand.tmp 19), type := 126, pos := "convert.go:268", after := #[{ on := 3, ground := Go.Ground.data }], guard := none }) (v := ?v60) rfl (by kernel_rfl) (fun _ _ _ h => h) (Or.inl ⟨by rfl, ?hy60⟩) (by assumption) ?rest60
        case hy60 => (intro wz hSw; (try dsimp only at hSw); go_simp; try with_reducible rfl)
        (try simp only [Act.put, List.setIfInBounds_toArray, List.set_cons_zero, List.set_cons_succ])
        refine wpAnyM_take (i := 6) (oi := { dst := some 22, op := Go.Op.fieldAddr 123 (Go.Operand.tmp 1) 1, type := 0, pos := "convert.go:268", after := #[], guard := none }) (v := ?v61) rfl (by kernel_rfl) (fun _ _ _ h => h) (Or.inl ⟨by rfl, ?hy61⟩) (by assumption) ?rest61
        case hy61 => (intro wz hSw; (try dsimp only at hSw); go_simp; try with_reducible rfl)
        (try simp only [Act.put, List.setIfInBounds_toArray, List.set_cons_zero, List.set_cons_succ])
        refine wpAnyM_take (i := 7) (oi := { dst := some 23, op := Go.Op.load 120 (Go.Operand.tmp 22), type := 120, pos := "convert.go:268", after := #[{ on := 6, ground := Go.Ground.data }], guard := none }) (v := ?v62) rfl (by kernel_rfl) (fun _ _ _ h => h) (Or.inl ⟨by rfl, ?hy62⟩) (by assumption) ?rest62
        case hy62 => (intro wz hSw; (try dsimp only at hSw); go_simp; try with_reducible rfl)
        (try simp only [Act.put, List.setIfInBounds_toArray, List.set_cons_zero, List.set_cons_succ])
        refine wpAnyM_take (i := 8) (oi := { dst := some 24, op := Go.Op.nilCheck (Go.Operand.tmp 23), type := 0, pos := "convert.go:268", after := #[{ on := 7, ground := Go.Ground.data }], guard := none }) (v := ?v63) rfl (by kernel_rfl) (fun _ _ _ h => h) (Or.inl ⟨by rfl, ?hy63⟩) (by assumption) ?rest63
        case hy63 => (intro wz hSw; (try dsimp only at hSw); go_simp; try with_reducible rfl)
        (try simp only [Act.put, List.setIfInBounds_toArray, List.set_cons_zero, List.set_cons_succ])
        refine wpAnyM_take (i := 9) (oi := { dst := some 25, op := Go.Op.fieldAddr 129 (Go.Operand.tmp 24) 1, type := 0, pos := "convert.go:268", after := #[{ on := 8, ground := Go.Ground.data }], guard := none }) (v := ?v64) rfl (by kernel_rfl) (fun _ _ _ h => h) (Or.inl ⟨by rfl, ?hy64⟩) (by assumption) ?rest64
        case hy64 => (intro wz hSw; (try dsimp only at hSw); go_simp; try with_reducible rfl)
        (try simp only [Act.put, List.setIfInBounds_toArray, List.set_cons_zero, List.set_cons_succ])
        refine wpAnyM_take (i := 10) (oi := { dst := some 26, op := Go.Op.load 127 (Go.Operand.tmp 25), type := 127, pos := "convert.go:268", after := #[{ on := 9, ground := Go.Ground.data }], guard := none }) (v := ?v65) rfl (by kernel_rfl) (fun _ _ _ h => h) (Or.inl ⟨by rfl, ?hy65⟩) (by assumption) ?rest65
        case hy65 => (intro wz hSw; (try dsimp only at hSw); go_simp; try with_reducible rfl)
        (try simp only [Act.put, List.setIfInBounds_toArray, List.set_cons_zero, List.set_cons_succ])
        refine wpAnyM_take (i := 11) (oi := { dst := some 27, op := Go.Op.fieldAddr 123 (Go.Operand.tmp 1) 1, type := 0, pos := "convert.go:268", after := #[], guard := none }) (v := ?v66) rfl (by kernel_rfl) (fun _ _ _ h => h) (Or.inl ⟨by rfl, ?hy66⟩) (by assumption) ?rest66
        case hy66 => (intro wz hSw; (try dsimp only at hSw); go_simp; try with_reducible rfl)
        (try simp only [Act.put, List.setIfInBounds_toArray, List.set_cons_zero, List.set_cons_succ])
        refine wpAnyM_take (i := 12) (oi := { dst := some 28, op := Go.Op.load 120 (Go.Operand.tmp 27), type := 120, pos := "convert.go:268", after := #[{ on := 11, ground := Go.Ground.data }], guard := none }) (v := ?v67) rfl (by kernel_rfl) (fun _ _ _ h => h) (Or.inl ⟨by rfl, ?hy67⟩) (by assumption) ?rest67
        case hy67 => (intro wz hSw; (try dsimp only at hSw); go_simp; try with_reducible rfl)
        (try simp only [Act.put, List.setIfInBounds_toArray, List.set_cons_zero, List.set_cons_succ])
        refine wpAnyM_take (i := 13) (oi := { dst := some 29, op := Go.Op.nilCheck (Go.Operand.tmp 28), type := 0, pos := "convert.go:268", after := #[{ on := 12, ground := Go.Ground.data }], guard := none }) (v := ?v68) rfl (by kernel_rfl) (fun _ _ _ h => h) (Or.inl ⟨by rfl, ?hy68⟩) (by assumption) ?rest68
        case hy68 => (intro wz hSw; (try dsimp only at hSw); go_simp; try with_reducible rfl)
        (try simp only [Act.put, List.setIfInBounds_toArray, List.set_cons_zero, List.set_cons_succ])
        refine wpAnyM_take (i := 14) (oi := { dst := some 30, op := Go.Op.fieldAddr 129 (Go.Operand.tmp 29) 2, type := 0, pos := "convert.go:268", after := #[{ on := 13, ground := Go.Ground.data }], guard := none }) (v := ?v69) rfl (by kernel_rfl) (fun _ _ _ h => h) (Or.inl ⟨by rfl, ?hy69⟩) (by assumption) ?rest69
        case hy69 => (intro wz hSw; (try dsimp only at hSw); go_simp; try with_reducible rfl)
        (try simp only [Act.put, List.setIfInBounds_toArray, List.set_cons_zero, List.set_cons_succ])
        refine wpAnyM_take (i := 15) (oi := { dst := some 31, op := Go.Op.load 26 (Go.Operand.tmp 30), type := 26, pos := "convert.go:268", after := #[{ on := 14, ground := Go.Ground.data }], guard := none }) (v := ?v70) rfl (by kernel_rfl) (fun _ _ _ h => h) (Or.inl ⟨by rfl, ?hy70⟩) (by assumption) ?rest70
        case hy70 => (intro wz hSw; (try dsimp only at hSw); go_simp; try with_reducible rfl)
        (try simp only [Act.put, List.setIfInBounds_toArray, List.set_cons_zero, List.set_cons_succ])
        refine wpAnyM_ready (rs := [5]) (by kernel_rfl) (by simp) ?_
        refine AllReadyM.cons (o := { dst := some 21, op := Go.Op.call { callee := Go.Callee.value (Go.Operand.func 107), args := #[Go.Operand.tmp 20], argTypes := #[126] }, type := 55, pos := "convert.go:268", after := #[{ on := 4, ground := Go.Ground.data }], guard := none }) rfl (fun K hK => ?_) AllReadyM.nil
        refine step_call _ rfl 107 [.tmp 20] #[126] rfl (by kernel_rfl) [_] rfl (HCR.out wd (HEd.out.trans (Ext.refl wd))) ?_
        rintro en v1 ⟨gr, cs_, rfl, hgt, hlk, hg, hE⟩
        obtain ⟨b1, b2, b3, b4, b5, b6, b7, b8, b9, b10, rfl⟩ := hg.formR hgt
        refine ⟨_, rfl, ?_⟩
        have HG := hid (hg.weak (S' := fun b => wd.heap.size ≤ b) (fun b h1 _ => h1))
        have HGT := hid hgt
        have HLK := hid hlk
        have E1 := hid hE
        clear hg hgt hlk hE
        refine hK.out _ _ ?hS71 (fun hHeld => ?_)
        case hS71 => (obtain ⟨⟨k0, k1, k2⟩, -⟩ := slot3 (E1.out.block Y0d.out); obtain ⟨⟨l0, l1, l2, l3, l4, l5, l6, l7⟩, -⟩ := slot8 ((HEd.out.trans E1.out).block HLBB.out); exact ⟨k1, l0, l1, l2, l3, l4, l5, l6, l7⟩)
        clear hK K
        (try simp only [Act.put, List.setIfInBounds_toArray, List.set_cons_zero, List.set_cons_succ])
        refine wpAnyM_ready (rs := [16]) (by kernel_rfl) (by simp) ?_
        refine AllReadyM.cons (o := { dst := some 32, op := Go.Op.call { callee := Go.Callee.builtin Go.Builtin.append, args := #[Go.Operand.const (Go.Value.slice none 0 0), Go.Operand.tmp 31], argTypes := #[26, 26] }, type := 26, pos := "convert.go:268", after := #[{ on := 15, ground := Go.Ground.data }, { on := 5, ground := Go.Ground.chain }], guard := none }) rfl (fun K hK => ?_) AllReadyM.nil
        refine step_append_src _ rfl (.const (.slice none 0 0)) (.tmp 31) 26 rfl (w.heap.size + 3) 9 is (.string ByteArray.empty) 1 16 Try.underlying26 his hs0 hs1 hs2 rfl (by decide) (.slice none 0 0) 0 [] rfl (World.ownsRow_nil _ _ _ _) ka kn kc (keys.map .string) rfl (by simp [HKN.out]) (by have h := src_all (HKS.out v1 (HEd.out.trans E1.out)); rwa [HKN.out] at h) (strs_oneCell _) (by unfold maxLen; have := HKZ.out; omega) (by have := HKZ.out; omega) (by have := HSd.out; have := (E1.out).size; omega) ?_
        intro a2 c2 v2 ho2 hg2 hb2
        rw [Nat.zero_add] at ho2
        have HRS := hid (strs_of_row (S := fun b => w.heap.size + 3 ≤ b) ho2 (fun b h => h) (by have := HKZ.out; have := HKN.out; omega) HKE.out)
        have E2 := hid (ext_grownBy hg2)
        clear ho2 hg2 hb2
        refine hK.out _ _ ?hS72 (fun hHeld => ?_)
        case hS72 => (obtain ⟨⟨k0, k1, k2⟩, -⟩ := slot3 ((E1.out.trans E2.out).block Y0d.out); obtain ⟨⟨l0, l1, l2, l3, l4, l5, l6, l7⟩, -⟩ := slot8 ((HEd.out.trans (E1.out.trans E2.out)).block HLBB.out); exact ⟨k1, l0, l1, l2, l3, l4, l5, l6, l7⟩)
        clear hK K
        (try simp only [Act.put, List.setIfInBounds_toArray, List.set_cons_zero, List.set_cons_succ])
        refine wpAnyM_ready (rs := [17]) (by kernel_rfl) (by simp) ?_
        refine AllReadyM.cons (o := { dst := some 33, op := Go.Op.build 57 #[(0, Go.Operand.tmp 21), (1, Go.Operand.tmp 26), (2, Go.Operand.tmp 32)], type := 57, pos := "convert.go:268", after := #[{ on := 5, ground := Go.Ground.data }, { on := 10, ground := Go.Ground.data }, { on := 16, ground := Go.Ground.data }], guard := none }) rfl (fun K hK => ?_) AllReadyM.nil
        go_simp
        refine hK.out _ _ ?hS73 (fun hHeld => ?_)
        case hS73 => (obtain ⟨⟨k0, k1, k2⟩, -⟩ := slot3 ((E1.out.trans E2.out).block Y0d.out); obtain ⟨⟨l0, l1, l2, l3, l4, l5, l6, l7⟩, -⟩ := slot8 ((HEd.out.trans (E1.out.trans E2.out)).block HLBB.out); exact ⟨k1, l0, l1, l2, l3, l4, l5, l6, l7⟩)
        clear hK K
        (try simp only [Act.put, List.setIfInBounds_toArray, List.set_cons_zero, List.set_cons_succ])
        refine wpAnyM_ready (rs := [18]) (by kernel_rfl) (by simp) ?_
        refine AllReadyM.cons (o := { dst := some 34, op := Go.Op.buildSlice 50 1 #[(0, Go.Operand.tmp 33)], type := 50, pos := "convert.go:268", after := #[{ on := 17, ground := Go.Ground.data }], guard := none }) rfl (fun K hK => ?_) AllReadyM.nil
        go_simp
        have XN := hid (heap_alloc_new v2 (.cells #[.bool b1, .string b2, .string b3, .slice b4 b5 b6, .slice b7 b8 b9, .string b10, .string rel, .slice a2 kn c2] 57))
        have E3 := hid ((Ext.refl v2).alloc (.cells #[.bool b1, .string b2, .string b3, .slice b4 b5 b6, .slice b7 b8 b9, .string b10, .string rel, .slice a2 kn c2] 57))
        generalize hv3 : v2.alloc (.cells #[.bool b1, .string b2, .string b3, .slice b4 b5 b6, .slice b7 b8 b9, .string b10, .string rel, .slice a2 kn c2] 57) = v3 at *
        have HV3 := hid hv3
        clear hv3
        have x2d := ((((E1.out.trans E2.out)).trans E3.out).block Y2d.out)
        have HS3 := hid (show w.heap.size + 3 ≤ v2.heap.size by have := HSd.out; have := ((E1.out.trans E2.out)).size; omega)
        clear y0 y1 y2 g0 g1 g2
        obtain ⟨⟨y0, y1, y2⟩, g0, g1, g2⟩ := slot3 x2d
        have X2d := hid x2d
        clear x2d
        refine hK.out _ _ ?hS74 (fun hHeld => ?_)
        case hS74 => (obtain ⟨⟨k0, k1, k2⟩, -⟩ := slot3 ((((E1.out.trans E2.out)).trans E3.out).block Y0d.out); obtain ⟨⟨l0, l1, l2, l3, l4, l5, l6, l7⟩, -⟩ := slot8 ((HEd.out.trans (((E1.out.trans E2.out)).trans E3.out)).block HLBB.out); exact ⟨k1, l0, l1, l2, l3, l4, l5, l6, l7⟩)
        clear hK K
        (try simp only [Act.put, List.setIfInBounds_toArray, List.set_cons_zero, List.set_cons_succ])
        refine wpAnyM_take (i := 19) (oi := { dst := some 35, op := Go.Op.fieldAddr 53 (Go.Operand.tmp 3) 1, type := 0, pos := "convert.go:268", after := #[{ on := 0, ground := Go.Ground.phase }, { on := 1, ground := Go.Ground.phase }, { on := 2, ground := Go.Ground.phase }, { on := 3, ground := Go.Ground.phase }, { on := 4, ground := Go.Ground.phase }, { on := 5, ground := Go.Ground.phase }, { on := 6, ground := Go.Ground.phase }, { on := 7, ground := Go.Ground.phase }, { on := 8, ground := Go.Ground.phase }, { on := 9, ground := Go.Ground.phase }, { on := 10, ground := Go.Ground.phase }, { on := 11, ground := Go.Ground.phase }, { on := 12, ground := Go.Ground.phase }, { on := 13, ground := Go.Ground.phase }, { on := 14, ground := Go.Ground.phase }, { on := 15, ground := Go.Ground.phase }, { on := 16, ground := Go.Ground.phase }, { on := 17, ground := Go.Ground.phase }, { on := 18, ground := Go.Ground.phase }], guard := none }) (v := ?v75) rfl (by kernel_rfl) (fun _ _ _ h => h) (Or.inl ⟨by rfl, ?hy75⟩) (by assumption) ?rest75
        case hy75 => (intro wz hSw; (try dsimp only at hSw); go_simp; try with_reducible rfl)
        (try simp only [Act.put, List.setIfInBounds_toArray, List.set_cons_zero, List.set_cons_succ])
        refine wpAnyM_ready (rs := [20]) (by kernel_rfl) (by simp) ?_
        refine AllReadyM.cons (o := { dst := none, op := Go.Op.store 50 (Go.Operand.tmp 35) (Go.Operand.tmp 34), type := 0, pos := "convert.go:268", after := #[{ on := 19, ground := Go.Ground.data }, { on := 18, ground := Go.Ground.data }, { on := 16, ground := Go.Ground.chain }, { on := 0, ground := Go.Ground.phase }, { on := 1, ground := Go.Ground.phase }, { on := 2, ground := Go.Ground.phase }, { on := 3, ground := Go.Ground.phase }, { on := 4, ground := Go.Ground.phase }, { on := 5, ground := Go.Ground.phase }, { on := 6, ground := Go.Ground.phase }, { on := 7, ground := Go.Ground.phase }, { on := 8, ground := Go.Ground.phase }, { on := 9, ground := Go.Ground.phase }, { on := 10, ground := Go.Ground.phase }, { on := 11, ground := Go.Ground.phase }, { on := 12, ground := Go.Ground.phase }, { on := 13, ground := Go.Ground.phase }, { on := 14, ground := Go.Ground.phase }, { on := 15, ground := Go.Ground.phase }, { on := 16, ground := Go.Ground.phase }, { on := 17, ground := Go.Ground.phase }, { on := 18, ground := Go.Ground.phase }], guard := none }) rfl (fun K hK => ?_) AllReadyM.nil
        go_simp
        obtain ⟨v4, hw⟩ : ∃ x, x = v3.setCell ⟨w.heap.size + 1 + 1, 1, none⟩ (.slice (some ⟨v2.heap.size, 0, none⟩) 1 1) := ⟨_, rfl⟩
        change K _ (v3.setCell ⟨w.heap.size + 1 + 1, 1, none⟩ (.slice (some ⟨v2.heap.size, 0, none⟩) 1 1))
        rw [← hw]
        have K0 := hid (show v4.heap[w.heap.size]? = some (.cells #[.pointer sp, .pointer (some ⟨lb, 0, none⟩), .pointer mp] 123) by rw [hw, Below.heap_setCell _ _ _ _ hO1]; exact (((E1.out.trans E2.out)).trans E3.out).block Y0d.out)
        have K1 := hid (show v4.heap[w.heap.size + 1]? = some (.cells #[.string ⟨#[]⟩, .slice none 0 0, .slice none 0 0] 53) by rw [hw, Below.heap_setCell _ _ _ _ hO2]; exact (((E1.out.trans E2.out)).trans E3.out).block Y1d.out)
        have K2 := hid (show v4.heap[w.heap.size + 1 + 1]? = some (.cells #[.string sc, .slice (some ⟨v2.heap.size, 0, none⟩) 1 1, .slice none 0 0] 53) by rw [hw]; exact (setCell_heap X2d.out 1 _).trans rfl)
        have K3 := hid (show Ext w v4 by rw [hw]; exact Below.setCell (HEd.out.trans (((E1.out.trans E2.out)).trans E3.out)) (show w.heap.size ≤ w.heap.size + 1 + 1 by omega) _)
        have K4 := hid (show w.heap.size + 3 ≤ v4.heap.size by rw [hw]; simp; have := HS3.out; have := E3.out.size; omega)
        have hsame : Same (fun b => w.heap.size + 3 ≤ b) v3 v4 := fun b o hb ho => by rw [hw, Below.heap_setCell _ _ _ _ (show b ≠ w.heap.size + 1 + 1 by have hb' : w.heap.size + 3 ≤ b := hb; omega)]; exact ho
        have KG := hid (((HG.out.weak (S' := fun b => w.heap.size + 3 ≤ b) (fun b hb _ => by have hb' : wd.heap.size ≤ b := hb; have := HSd.out; have := ((Ext.refl wd)).size; omega)).ext ((E2.out).trans E3.out)).mono hsame (fun _ h _ => h))
        have KS := hid ((HRS.out.ext (((Ext.refl v2)).trans E3.out)).mono hsame (fun _ h _ => h))
        have KN := hid (show v4.heap[v2.heap.size]? = some (.cells #[.bool b1, .string b2, .string b3, .slice b4 b5 b6, .slice b7 b8 b9, .string b10, .string rel, .slice a2 kn c2] 57) from hsame _ _ HS3.out XN.out)
        clear hw hsame
        refine hK.out _ _ ?hS76 (fun hHeld => ?_)
        case hS76 => (obtain ⟨⟨k0, k1, k2⟩, -⟩ := slot3 K0.out; obtain ⟨⟨l0, l1, l2, l3, l4, l5, l6, l7⟩, -⟩ := slot8 (K3.out.block HLBB.out); exact ⟨k1, l0, l1, l2, l3, l4, l5, l6, l7⟩)
        clear hK K
        (try simp only [Act.put, List.setIfInBounds_toArray, List.set_cons_zero, List.set_cons_succ])
        refine wpAnyM_done (by kernel_rfl) ?_ _
        go_wp2_with fail
        go_meet
        refine ⟨[.lst gr rel keys], _, hid ⟨by simp [HLEN.out], fun x y hx hy => ?_⟩, hid (SubG.one KN.out rfl HS3.out rfl (.lst HRZ.out HGT.out KG.out (by have h := KS.out; exact h))), K0, K1, K2, K3, K4⟩
        simp at hx
        subst hx
        rw [HL1.out] at hy
        cases hy
        exact .lst _ _ _ _ HLK.out
      | _ => cases htag
  case rest =>
  rename World => w9
  obtain ⟨ls', lv, HLL, HLS, Z0, Z1, Z2, HE9, HS9⟩ := hcut
  obtain ⟨la, ln, lc, rfl⟩ := HLS.out.form
  by_cases hmlen : ms.length = 0
  · have e := HM0.out
    rw [if_pos hmlen] at e
    cases e
    have HMZ := hid hmlen
    clear hmlen x0 x1 x2 y0 y1 y2 g0 g1 g2
    obtain ⟨⟨x0, x1, x2⟩, -⟩ := slot3 Z0.out
    obtain ⟨⟨y0, y1, y2⟩, g0, g1, g2⟩ := slot3 Z2.out
    obtain ⟨⟨q0, q1, q2⟩, s0, s1, s2⟩ := slot3 Z1.out
    go_wp2_with fail
    change bodyPost _ _ _ _ _ (setL w9 (w.heap.size + 1) 0 [.string sc, .slice la ln lc, .slice none 0 0])
    have e6 := setL_all Z1.out [.string sc, .slice la ln lc, .slice none 0 0] rfl
    have x6 := setL_below HE9.out (show w.heap.size ≤ w.heap.size + 1 by omega) 0 [.string sc, .slice la ln lc, .slice none 0 0]
    have hs6 : Same (fun b => w.heap.size + 3 ≤ b) w9 (setL w9 (w.heap.size + 1) 0 [.string sc, .slice la ln lc, .slice none 0 0]) := fun b o hb ho => (setL_other (by have hb' : w.heap.size + 3 ≤ b := hb; omega) _).trans ho
    have l6 := HLS.out.mono (S' := fun b => w.heap.size ≤ b) hs6 (fun b hb _ => by have hb' : w.heap.size + 3 ≤ b := hb; omega)
    have m6 := SubG.mono (S' := fun b => w.heap.size ≤ b) hs6 (fun b hb _ => by have hb' : w.heap.size + 3 ≤ b := hb; omega) (SubG.nil _ _ 4)
    generalize setL w9 (w.heap.size + 1) 0 [.string sc, .slice la ln lc, .slice none 0 0] = WF at *
    clear y0 y1 y2
    obtain ⟨⟨y0, y1, y2⟩, -⟩ := slot3 e6
    refine bodyPost_ret (v := .agg #[.string sc, .slice la ln lc, .slice none 0 0]) (by simp [results, Try.results80, go_sem, y0, y1, y2]) rfl ⟨.atom sc ls' [], ([.string sc, .slice la ln lc, .slice none 0 0] : List Value), rfl, rfl, .atom _ _ _ _ _ HLL.out.1 (by rw [HMZ.out]; rfl) HLL.out.2 (fun x y h => by simp at h), ?_, x6⟩
    obtain ⟨a1, b1, o1, c1, e1, hL1, ht1, hr1⟩ := l6
    obtain ⟨a2, b2, o2, c2, e2, hL2, ht2, hr2⟩ := m6
    rw [e1, e2]
    exact .atom HSC.out hL1 ht1 hr1 hL2 ht2 hr2
  · have e := HM0.out
    rw [if_neg hmlen] at e
    cases e
    obtain ⟨g, hg⟩ : ∃ g, ms[0]? = some g := ⟨_, List.getElem?_eq_getElem (by omega)⟩
    have hR := HM.out g hg
    have htag := HMT.out g hg
    have HMP := hid (HMB.out (by omega))
    have HLEN := hid (show min 1 ms.length = 1 by omega)
    clear hmlen x0 x1 x2 y0 y1 y2 g0 g1 g2
    cases hR with
    | @mp fs e rel fa fb fo fc c0 c1 c2 c3 c4 c5 hr1 hte hee hn hF hft hf =>
      obtain ⟨p1, p2, p3, p4, p5, eq⟩ := hee.formR hte
      simp only [List.cons.injEq, and_true] at eq
      obtain ⟨rfl, rfl, rfl, rfl, rfl, rfl⟩ := eq
      obtain ⟨ihe, ihf⟩ := IHM.out fs e rel hg
      have HCM := hid (fun W (hW : Ext w W) => fromMapType_any W mb fs e rel hte fa fb fo fc p1 p2 p3 p4 p5 (hW.block HMP.out) (hee.ext hW) hr1 hn.2 (hF.mono (hW.same _) (fun _ h _ => h) (by omega)) hft (fun i g cs hg hl hc => (hf i g cs hg hl (hF.back (hW.same _) (List.getElem?_eq_some_iff.1 hg).1 hl hc)).ext hW) ihe ihf)
      have HG1 := hid hg
      clear hg hee hr1 hte hn hF hft hf ihe ihf HMP
      obtain ⟨⟨x0, x1, x2⟩, -⟩ := slot3 Z0.out
      obtain ⟨⟨y0, y1, y2⟩, g0, g1, g2⟩ := slot3 Z2.out
      go_upto_region 8 with (go_at_call 108; refine (HCM.out _ HE9.out).mono ?_; rintro e' wa ⟨gm, cs_, rfl, hgt, hlk, hg, hE⟩; obtain ⟨t1, t2, t3, t4, t5, t6, t7, t8, t9, t10, t11, t12, t13, t14, t15, rfl⟩ := hg.formM hgt; have HG := hid (hg.weak (S' := fun b => w.heap.size + 3 ≤ b) (fun b hb _ => by have hb' : w9.heap.size ≤ b := hb; have := HS9.out; omega)); have HGT := hid hgt; have HLK := hid hlk; have HEA := hid hE; have A2 := hid (hE.block Z2.out); clear hg hgt hlk hE y0 y1 y2 g0 g1 g2 x0 x1 x2; obtain ⟨⟨y0, y1, y2⟩, g0, g1, g2⟩ := slot3 A2.out; have y2' := fun o => ((Ext.refl wa).alloc o).cellS y2; have g2' := fun o => free_of_heap (((Ext.refl wa).alloc o).block A2.out) 2)
      have XV := hid (heap_alloc_new wa (.cells #[.slice t1 t2 t3, .bool t4, .string t5, .string t6, .slice t7 t8 t9, .slice t10 t11 t12, .string t13, .string t14] 153))
      have EB := hid ((Ext.refl wa).alloc (.cells #[.slice t1 t2 t3, .bool t4, .string t5, .string t6, .slice t7 t8 t9, .slice t10 t11 t12, .string t13, .string t14] 153))
      change Code.wp _ _ _ _ ((wa.alloc (.cells #[.slice t1 t2 t3, .bool t4, .string t5, .string t6, .slice t7 t8 t9, .slice t10 t11 t12, .string t13, .string t14] 153)).setCell ⟨w.heap.size + 1 + 1, 2, none⟩ (.slice (some ⟨wa.heap.size, 0, none⟩) 1 1))
      obtain ⟨wb, hw⟩ : ∃ x, x = (wa.alloc (.cells #[.slice t1 t2 t3, .bool t4, .string t5, .string t6, .slice t7 t8 t9, .slice t10 t11 t12, .string t13, .string t14] 153)).setCell ⟨w.heap.size + 1 + 1, 2, none⟩ (.slice (some ⟨wa.heap.size, 0, none⟩) 1 1) := ⟨_, rfl⟩
      rw [← hw]
      have HSA := hid (show w.heap.size + 3 ≤ wa.heap.size by have := HS9.out; have := HEA.out.size; omega)
      have hsame : Same (fun b => w.heap.size + 3 ≤ b) (wa.alloc (.cells #[.slice t1 t2 t3, .bool t4, .string t5, .string t6, .slice t7 t8 t9, .slice t10 t11 t12, .string t13, .string t14] 153)) wb := fun b o hb ho => by rw [hw, Below.heap_setCell _ _ _ _ (show b ≠ w.heap.size + 1 + 1 by have hb' : w.heap.size + 3 ≤ b := hb; omega)]; exact ho
      have C1 := hid (show wb.heap[w.heap.size + 1]? = some (.cells #[.string ⟨#[]⟩, .slice none 0 0, .slice none 0 0] 53) by rw [hw, Below.heap_setCell _ _ _ _ hO2]; exact EB.out.block (HEA.out.block Z1.out))
      have C2 := hid (show wb.heap[w.heap.size + 1 + 1]? = some (.cells #[.string sc, .slice la ln lc, .slice (some ⟨wa.heap.size, 0, none⟩) 1 1] 53) by rw [hw]; exact (setCell_heap (EB.out.block A2.out) 2 _).trans rfl)
      have HEB := hid (show Ext w wb by rw [hw]; exact Below.setCell (HE9.out.trans (HEA.out.trans EB.out)) (show w.heap.size ≤ w.heap.size + 1 + 1 by omega) _)
      have HLB2 := hid (HLS.out.mono (fun b o hb ho => hsame b o hb ((HEA.out.trans EB.out).block ho)) (fun _ h _ => h))
      have HMB2 := hid (SubG.one (S := fun b => w.heap.size + 3 ≤ b) (hsame _ _ HSA.out XV.out) rfl HSA.out HGT.out ((HG.out.ext EB.out).mono hsame (fun _ h _ => h)))
      clear hw hsame y0 y1 y2 g0 g1 g2 y2' g2'
      obtain ⟨⟨y0, y1, y2⟩, g0, g1, g2⟩ := slot3 C2.out
      obtain ⟨⟨q0, q1, q2⟩, s0, s1, s2⟩ := slot3 C1.out
      go_wp2_with fail
      change bodyPost _ _ _ _ _ (setL wb (w.heap.size + 1) 0 [.string sc, .slice la ln lc, .slice (some ⟨wa.heap.size, 0, none⟩) 1 1])
      have e6 := setL_all C1.out [.string sc, .slice la ln lc, .slice (some ⟨wa.heap.size, 0, none⟩) 1 1] rfl
      have x6 := setL_below HEB.out (show w.heap.size ≤ w.heap.size + 1 by omega) 0 [.string sc, .slice la ln lc, .slice (some ⟨wa.heap.size, 0, none⟩) 1 1]
      have hs6 : Same (fun b => w.heap.size + 3 ≤ b) wb (setL wb (w.heap.size + 1) 0 [.string sc, .slice la ln lc, .slice (some ⟨wa.heap.size, 0, none⟩) 1 1]) := fun b o hb ho => (setL_other (by have hb' : w.heap.size + 3 ≤ b := hb; omega) _).trans ho
      have l6 := HLB2.out.mono (S' := fun b => w.heap.size ≤ b) hs6 (fun b hb _ => by have hb' : w.heap.size + 3 ≤ b := hb; omega)
      have m6 := SubG.mono (S' := fun b => w.heap.size ≤ b) hs6 (fun b hb _ => by have hb' : w.heap.size + 3 ≤ b := hb; omega) HMB2.out
      generalize setL wb (w.heap.size + 1) 0 [.string sc, .slice la ln lc, .slice (some ⟨wa.heap.size, 0, none⟩) 1 1] = WF at *
      clear y0 y1 y2
      obtain ⟨⟨y0, y1, y2⟩, -⟩ := slot3 e6
      refine bodyPost_ret (v := .agg #[.string sc, .slice la ln lc, .slice (some ⟨wa.heap.size, 0, none⟩) 1 1]) (by simp [results, Try.results80, go_sem, y0, y1, y2]) rfl ⟨.atom sc ls' [gm], ([.string sc, .slice la ln lc, .slice (some ⟨wa.heap.size, 0, none⟩) 1 1] : List Value), rfl, rfl, .atom _ _ _ _ _ HLL.out.1 (by simp [HLEN.out]) HLL.out.2 (fun x y hx hy => by simp at hx; subst hx; rw [HG1.out] at hy; cases hy; exact HLK.out), ?_, x6⟩
      obtain ⟨a1, b1, o1, c1, e1, hL1, ht1, hr1⟩ := l6
      obtain ⟨a2, b2, o2, c2, e2, hL2, ht2, hr2⟩ := m6
      rw [e1, e2]
      exact .atom HSC.out hL1 ht1 hr1 hL2 ht2 hr2
    | _ => cases htag
theorem fromAtom_of (sc : ByteArray) (ls ms : List GS) (hwf : WfG (.atom sc ls ms)) (ihr : ∀ e rel keys, ls[0]? = some (.lst e rel keys) → BackOK 107 1 e) (ihm : ∀ fs e rel, ms[0]? = some (.mp fs e rel) → BackOK 107 1 e ∧ ∀ (i : Nat) (g : GS), fs[i]? = some g → BackOK 127 5 g) : BackOK 80 2 (.atom sc ls ms) := by
  intro _ w cs hR
  cases hwf with
  | atom _ _ _ k1 k2 k3 k4 =>
  have hR0 := hR
  obtain ⟨p, q, r, rfl⟩ := hR.formA rfl
  cases hR with
  | @atom _ _ _ sp lp mp lb mb lcs mcs h1 hs hl0 hlb hl hm0 hmb hm =>
    refine fromAtom_any w sc ls ms p q r lb mb lcs mcs h1 hs hl0 (fun h => (hlb h).2) (fun g hg => hl g hg (k1 g (List.mem_of_getElem? hg))) (fun g hg => k1 g (List.mem_of_getElem? hg)) hm0 (fun h => (hmb h).2) (fun g hg => hm g hg (k3 g (List.mem_of_getElem? hg))) (fun g hg => k3 g (List.mem_of_getElem? hg)) ihr ihm (fun fs e rel hg g hgm => ?_)
    have := k4 _ (List.mem_of_getElem? hg)
    cases this with
    | mp _ _ _ m1 m2 _ _ => exact m1 g hgm
theorem zeroA_wf : WfG zeroA := .atom _ _ _ (fun g h => by simp at h) (fun g h => by simp at h) (fun g h => by simp at h) (fun g h => by simp at h)
theorem zeroA_back : BackOK 80 2 zeroA := fromAtom_of _ _ _ zeroA_wf (fun e rel keys h => by simp at h) (fun fs e rel h => by simp at h)
theorem back_ok : ∀ (N : Nat) (g : GS), SizeOf.sizeOf g ≤ N → WfG g → (g.tag = 1 → BackOK 107 1 g) ∧ (g.tag = 2 → BackOK 80 2 g) ∧ (g.tag = 5 → BackOK 127 5 g) := by
  intro N
  induction N with
  | zero => intro g h; cases g <;> simp at h
  | succ N ih =>
    intro g h hwf
    have hl : ∀ {l : List GS} {i : Nat} {x : GS}, l[i]? = some x → SizeOf.sizeOf l ≤ N → SizeOf.sizeOf x < N := fun h1 h2 => Nat.lt_of_lt_of_le (sizeOf_of_getElem? h1) h2
    cases hwf with
    | ref nm name rel a ht hw =>
      exact ⟨fun _ => fromRef_of _ zeroA_back (fun nm' name' a' rel' e => by cases e; exact (ih a (by simp at h; omega) hw).2.1 ht), fun h => by simp [GS.tag] at h, fun h => by simp [GS.tag] at h⟩
    | atom sc ls ms k1 k2 k3 k4 =>
      refine ⟨fun h => by simp [GS.tag] at h, fun _ => fromAtom_of sc ls ms (.atom _ _ _ k1 k2 k3 k4) (fun e rel keys hg => ?_) (fun fs e rel hg => ?_), fun h => by simp [GS.tag] at h⟩
      · have hs := hl hg (by simp at h; omega)
        have hwl := k2 _ (List.mem_of_getElem? hg)
        cases hwl with
        | lst _ _ _ ht hw => exact (ih e (by simp at hs; omega) hw).1 ht
      · have hs := hl hg (by simp at h; omega)
        have hwl := k4 _ (List.mem_of_getElem? hg)
        cases hwl with
        | mp _ _ _ m1 m2 ht hw =>
          refine ⟨(ih e (by simp at hs; omega) hw).1 ht, fun i g hi => ?_⟩
          have hs2 := sizeOf_of_getElem? hi
          exact (ih g (by simp at hs; omega) (m2 g (List.mem_of_getElem? hi))).2.2 (m1 g (List.mem_of_getElem? hi))
    | lst e rel keys ht hw => exact ⟨fun h => by simp [GS.tag] at h, fun h => by simp [GS.tag] at h, fun h => by simp [GS.tag] at h⟩
    | mp fs e rel k1 k2 ht hw => exact ⟨fun h => by simp [GS.tag] at h, fun h => by simp [GS.tag] at h, fun h => by simp [GS.tag] at h⟩
    | fld name t ds ht hw =>
      exact ⟨fun h => by simp [GS.tag] at h, fun h => by simp [GS.tag] at h, fun _ => fromField_of name t ds ((ih t (by simp at h; omega) hw).1 ht)⟩
theorem backAtom_any (g : GS) (hw : WfG g) (ht : g.tag = 2) : BackOK 80 2 g := (back_ok _ g (Nat.le_refl _) hw).2.1 ht
end Go.Proofs.Ytempfaefopfobaa
