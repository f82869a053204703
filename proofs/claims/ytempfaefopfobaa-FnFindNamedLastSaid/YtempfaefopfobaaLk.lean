/- Lk: types that are written alike (plain); what is handed out of a type: fromRef. -/
import Derived.Test.YtempfaefopfobaaSch
import Derived.Test.YtempfaefopfobaaFrom
import Derived.Test.YtempfaefopfobaaCleanElem

set_option maxRecDepth 100000
namespace Go.Proofs.Ytempfaefopfobaa
open Go.ChangeShapes Go.WideShapes Go.ChangeAt Go.RowKit
set_option linter.unusedVariables false
set_option linter.unusedSimpArgs false

/-- the first is written as the second is (of lists, maps and defaults the first ones count) -/
inductive Lk : GS → GS → Prop
  | refN (name rel : ByteArray) (a a' : GS) : Lk (.ref true name a' rel) (.ref true name a rel)
  | refA (name name' rel : ByteArray) (a a' : GS) (h : Lk a' a) : Lk (.ref false name' a' rel) (.ref false name a rel)
  | atom (sc : ByteArray) (ls ms ls' ms' : List GS) (h1 : ls'.length = min 1 ls.length) (h2 : ms'.length = min 1 ms.length) (h3 : ∀ x y, ls'[0]? = some x → ls[0]? = some y → Lk x y) (h4 : ∀ x y, ms'[0]? = some x → ms[0]? = some y → Lk x y) : Lk (.atom sc ls' ms') (.atom sc ls ms)
  | lst (e e' : GS) (rel : ByteArray) (keys : List ByteArray) (h : Lk e' e) : Lk (.lst e' rel keys) (.lst e rel keys)
  | mp (fs fs' : List GS) (e e' : GS) (rel : ByteArray) (h1 : fs'.length = fs.length) (h2 : ∀ (i : Nat) (x y : GS), fs'[i]? = some x → fs[i]? = some y → Lk x y) (h : Lk e' e) : Lk (.mp fs' e' rel) (.mp fs e rel)
  | fld (name : ByteArray) (t t' : GS) (ds ds' : List GV) (h1 : hasD ds' = hasD ds) (h2 : ∀ x y, hasD ds = true → ds'[0]? = some x → ds[0]? = some y → cleanG x = cleanG y) (h : Lk t' t) : Lk (.fld name t' ds') (.fld name t ds)
def zeroA : GS := .atom ByteArray.empty [] []
theorem zeroA_rep (S : Nat → Prop) (w : World) : RepS S w zeroA [.pointer none, .pointer none, .pointer none] :=
  .atom (lb := 0) (mb := 0) (lcs := []) (mcs := []) (by decide) (.inl ⟨rfl, rfl⟩) rfl (fun h => absurd h (by simp)) (fun g hg => by simp at hg) rfl (fun h => absurd h (by simp)) (fun g hg => by simp at hg)
/-- a slice of one element, over a block of its own -/
theorem one_row {α : Type} {S : Nat → Prop} {w : World} {b k : Nat} {cs : List Value} {T : TypeId} (R : α → List Value → Prop) (g : α) (hb : w.heap[b]? = some (.cells cs.toArray T)) (hl : cs.length = k) (hS : S b) (hr : R g cs) :
    SlAt S w k (some ⟨b, 0, none⟩) b 0 1 1 ∧ ∀ (i : Nat) (g' : α) (cs' : List Value), [g][i]? = some g' → cs'.length = k → cellsAt w b (0 + i * k) cs' → R g' cs' := by
  have hc : cellsAt w b (0 + 0 * k) cs := fun j u hu => by
    rw [Nat.zero_mul, Nat.add_zero, Nat.zero_add]
    exact (cell_of_heap hb j).trans (by simpa using hu)
  refine ⟨⟨Nat.le_refl _, fun _ => ⟨rfl, hS⟩, fun i hi => ?_⟩, fun i g' cs' hg hl' hc' => ?_⟩
  · obtain rfl : i = 0 := by omega
    exact ⟨cs, hl, hc⟩
  · obtain rfl : i = 0 := by have := (List.getElem?_eq_some_iff.1 hg).1; simp at this; omega
    simp only [List.getElem?_cons_zero, Option.some.injEq] at hg
    subst hg
    rw [cellsAt_unique hc' hc (hl'.trans hl.symm)]
    exact hr
theorem size0 {s : ByteArray} (h : s.size = 0) : s = ⟨#[]⟩ := by
  cases s with
  | mk d =>
    have : d.size = 0 := h
    rw [Array.eq_empty_of_size_eq_zero this]
def BackOK (f : FuncId) (tag : Nat) (g : GS) : Prop := g.tag = tag → ∀ (w : World) (cs : List Value), RepS Any w g cs →
  Calls Try.prog f #[.agg cs.toArray] w fun e w' => ∃ g' cs', e = .returned (.agg cs'.toArray) ∧ g'.tag = tag ∧ Lk g' g ∧ RepGS (fun b => w.heap.size ≤ b) w' g' cs' ∧ Ext w w'
theorem RepGS.weak {S S' : Nat → Prop} {w : World} (hS : ∀ b, S b → b < w.heap.size → S' b) {g : GS} {cs : List Value} (hr : RepGS S w g cs) : RepGS S' w g cs := hr.mono (Same.refl S w) hS
set_option maxHeartbeats 4000000 in
theorem fromRef_N0 (w : World) (nb : Nat) (name : ByteArray) (hname : name.size ≤ 140737488351232) (hn : w.heap[nb]? = some (.cells #[.string name] 9)) (ha : BackOK 80 2 zeroA) (a : GS) : Calls Try.prog 107 #[.agg #[.pointer (some ⟨nb, 0, none⟩), .pointer none, .pointer none, .pointer none, .pointer none, .bool false]] w fun e w' => ∃ g' cs', e = .returned (.agg cs'.toArray) ∧ g'.tag = 1 ∧ Lk g' (GS.ref true name a ⟨#[]⟩) ∧ RepGS (fun b => w.heap.size ≤ b) w' g' cs' ∧ Ext w w' := by
  have HA := hid ha
  have HE1 := hid (((Ext.refl w).alloc (.cells #[.pointer (some ⟨nb, 0, none⟩), .pointer none, .pointer none, .pointer none, .pointer none, .bool false] 126)).alloc (.cells #[.bool false, .string ⟨#[]⟩, .string ⟨#[]⟩, .slice none 0 0, .slice none 0 0, .string ⟨#[]⟩] 55))
  have HX0 := hid (first_heap w (.cells #[.pointer (some ⟨nb, 0, none⟩), .pointer none, .pointer none, .pointer none, .pointer none, .bool false] 126) (.cells #[.bool false, .string ⟨#[]⟩, .string ⟨#[]⟩, .slice none 0 0, .slice none 0 0, .string ⟨#[]⟩] 55))
  have HX1 := hid (second_heap w (.cells #[.pointer (some ⟨nb, 0, none⟩), .pointer none, .pointer none, .pointer none, .pointer none, .bool false] 126) (.cells #[.bool false, .string ⟨#[]⟩, .string ⟨#[]⟩, .slice none 0 0, .slice none 0 0, .string ⟨#[]⟩] 55))
  have HSZ := hid (show ((w.alloc (.cells #[.pointer (some ⟨nb, 0, none⟩), .pointer none, .pointer none, .pointer none, .pointer none, .bool false] 126)).alloc (.cells #[.bool false, .string ⟨#[]⟩, .string ⟨#[]⟩, .slice none 0 0, .slice none 0 0, .string ⟨#[]⟩] 55)).heap.size = w.heap.size + 2 by simp)
  have HN := hid hn
  have HNZ := hid hname
  clear hn hname
  clear ha
  go_enter Try.func107, Try.ntmps107
  go_upto_region 1 with fail
  generalize (w.alloc (.cells #[.pointer (some ⟨nb, 0, none⟩), .pointer none, .pointer none, .pointer none, .pointer none, .bool false] 126)).alloc (.cells #[.bool false, .string ⟨#[]⟩, .string ⟨#[]⟩, .slice none 0 0, .slice none 0 0, .string ⟨#[]⟩] 55) = w1 at *
  obtain ⟨⟨x0, x1, x2, x3, x4, x5⟩, -⟩ := slot6 HX0.out
  go_upto_region 2 with (go_at_call 80; refine (HA.out rfl w1 _ (zeroA_rep _ _)).mono ?_; rintro e w2 ⟨ga, cs2, rfl, hgt, hlk, hg, hE⟩; obtain ⟨s, a1, n1, d1, a2, n2, d2, rfl⟩ := hg.formA hgt; have HG := hid (hg.weak (S' := fun b => w1.heap.size ≤ b ∧ b < w2.heap.size) (fun b h1 h2 => ⟨h1, h2⟩)); have HGT := hid hgt; have HLK := hid hlk; have HE2 := hid (HE1.out.trans hE); have HS2 := hid (show w.heap.size + 2 ≤ w2.heap.size by have := HSZ.out; have := hE.size; omega); have X0 := hid (hE.block HX0.out); have X1 := hid (hE.block HX1.out); clear hg hgt hlk hE x0 x1 x2 x3 x4 x5)
  have X0' := hid (((Ext.refl w2).alloc (.cells #[.bool false, .string ⟨#[]⟩, .string s, .slice a1 n1 d1, .slice a2 n2 d2, .string ⟨#[]⟩] 55)).block X0.out)
  have X1' := hid (((Ext.refl w2).alloc (.cells #[.bool false, .string ⟨#[]⟩, .string s, .slice a1 n1 d1, .slice a2 n2 d2, .string ⟨#[]⟩] 55)).block X1.out)
  have XO := hid (heap_alloc_new w2 (.cells #[.bool false, .string ⟨#[]⟩, .string s, .slice a1 n1 d1, .slice a2 n2 d2, .string ⟨#[]⟩] 55))
  have HE3 := hid (HE2.out.alloc (.cells #[.bool false, .string ⟨#[]⟩, .string s, .slice a1 n1 d1, .slice a2 n2 d2, .string ⟨#[]⟩] 55))
  have Q3 := hid (show Same (fun b => w1.heap.size ≤ b ∧ b < w2.heap.size) w2 (w2.alloc (.cells #[.bool false, .string ⟨#[]⟩, .string s, .slice a1 n1 d1, .slice a2 n2 d2, .string ⟨#[]⟩] 55)) from ((Ext.refl w2).alloc _).same _)
  generalize w2.alloc (.cells #[.bool false, .string ⟨#[]⟩, .string s, .slice a1 n1 d1, .slice a2 n2 d2, .string ⟨#[]⟩] 55) = w3 at *
  clear X0 X1 HE2 HX0 HX1 HE1
  obtain ⟨⟨x0, x1, x2, x3, x4, x5⟩, -⟩ := slot6 X0'.out
  obtain ⟨⟨y0, y1, y2, y3, y4, y5⟩, g0, g1, g2, g3, g4, g5⟩ := slot6 XO.out
  have hOR : ¬ w.heap.size + 1 = w2.heap.size := by have := HS2.out; omega
  have hOB : ¬ w.heap.size = w2.heap.size := by have := HS2.out; omega
  have G3 := hid (HG.out.mono Q3.out (S' := fun b => w1.heap.size ≤ b ∧ b < w2.heap.size) (fun _ h _ => h))
  have cn := (cell_of_heap (HE3.out.block HN.out) 0).trans rfl
  go_upto_region 3 with fail
  have X0d := hid (show w3.drew.heap[w.heap.size]? = some (.cells #[.pointer (some ⟨nb, 0, none⟩), .pointer none, .pointer none, .pointer none, .pointer none, .bool false] 126) from (Ext.refl w3).drew.block X0'.out)
  have X1d := hid (show w3.drew.heap[w.heap.size + 1]? = some (.cells #[.bool false, .string ⟨#[]⟩, .string ⟨#[]⟩, .slice none 0 0, .slice none 0 0, .string ⟨#[]⟩] 55) from (Ext.refl w3).drew.block X1'.out)
  have HEd := hid (HE3.out.drew)
  have Gd := hid (G3.out.ext (Ext.refl w3).drew)
  have XOd := hid (show w3.drew.heap[w2.heap.size]? = some (.cells #[.bool false, .string ⟨#[]⟩, .string s, .slice a1 n1 d1, .slice a2 n2 d2, .string ⟨#[]⟩] 55) from (Ext.refl w3).drew.block XO.out)
  clear y0 y1 y2 y3 y4 y5 g0 g1 g2 g3 g4 g5
  obtain ⟨⟨y0, y1, y2, y3, y4, y5⟩, g0, g1, g2, g3, g4, g5⟩ := slot6 XOd.out
  have hd0 : ¬ nb = w2.heap.size := by
    have := (Array.getElem?_eq_some_iff.1 HN.out).1
    have := HS2.out
    omega
  refine wp_region_late (fun w' : World => w'.cell? ⟨w.heap.size, 0, none⟩ = some (.pointer (some ⟨nb, 0, none⟩)) ∧ w'.cell? ⟨nb, 0, none⟩ = some (.string name)) [] (by kernel_rfl) ?hS1 (fun hHeld => ?_)
  case hS1 => (exact ⟨x0, cn⟩)
  generalize w3.drew = wd at *
  change wpAnyM _ _ _ _ _ _ 8 #[false, false, false, false, false, false, false, false] _ _
  refine wpAnyM_take (i := 0) (oi := { dst := some 11, op := Go.Op.fieldAddr 126 (Go.Operand.tmp 1) 0, type := 0, pos := "convert.go:303", after := #[{ on := 5, ground := Go.Ground.gcOnly Go.Departure.lateStores }], guard := none }) (v := ?v2) rfl (by kernel_rfl) (fun _ _ _ h => h) (Or.inl ⟨by rfl, ?hy2⟩) (by assumption) ?rest2
  case hy2 => (intro wz hSw; (try dsimp only at hSw); go_simp; try with_reducible rfl)
  (try simp only [Act.put, List.setIfInBounds_toArray, List.set_cons_zero, List.set_cons_succ])
  refine wpAnyM_take (i := 1) (oi := { dst := some 12, op := Go.Op.load 87 (Go.Operand.tmp 11), type := 87, pos := "convert.go:303", after := #[{ on := 0, ground := Go.Ground.data }, { on := 5, ground := Go.Ground.gcOnly Go.Departure.lateStores }], guard := none }) (v := ?v3) rfl (by kernel_rfl) (fun _ _ _ h => h) (Or.inl ⟨by rfl, ?hy3⟩) (by assumption) ?rest3
  case hy3 => (intro wz hSw; (try dsimp only at hSw); go_simp; try with_reducible rfl)
  (try simp only [Act.put, List.setIfInBounds_toArray, List.set_cons_zero, List.set_cons_succ])
  refine wpAnyM_take (i := 2) (oi := { dst := some 13, op := Go.Op.nilCheck (Go.Operand.tmp 12), type := 0, pos := "convert.go:303", after := #[{ on := 1, ground := Go.Ground.data }, { on := 5, ground := Go.Ground.gcOnly Go.Departure.lateStores }], guard := none }) (v := ?v4) rfl (by kernel_rfl) (fun _ _ _ h => h) (Or.inl ⟨by rfl, ?hy4⟩) (by assumption) ?rest4
  case hy4 => (intro wz hSw; (try dsimp only at hSw); go_simp; try with_reducible rfl)
  (try simp only [Act.put, List.setIfInBounds_toArray, List.set_cons_zero, List.set_cons_succ])
  refine wpAnyM_take (i := 3) (oi := { dst := some 14, op := Go.Op.load 9 (Go.Operand.tmp 13), type := 9, pos := "convert.go:303", after := #[{ on := 2, ground := Go.Ground.data }, { on := 5, ground := Go.Ground.gcOnly Go.Departure.lateStores }], guard := none }) (v := ?v5) rfl (by kernel_rfl) (fun _ _ _ h => h) (Or.inl ⟨by rfl, ?hy5⟩) (by assumption) ?rest5
  case hy5 => (intro wz hSw; (try dsimp only at hSw); go_simp; try with_reducible rfl)
  (try simp only [Act.put, List.setIfInBounds_toArray, List.set_cons_zero, List.set_cons_succ])
  refine wpAnyM_take (i := 4) (oi := { dst := some 15, op := Go.Op.fieldAddr 55 (Go.Operand.tmp 3) 0, type := 0, pos := "convert.go:303", after := #[{ on := 0, ground := Go.Ground.textOnly Go.Departure.lateStores }, { on := 1, ground := Go.Ground.textOnly Go.Departure.lateStores }, { on := 2, ground := Go.Ground.textOnly Go.Departure.lateStores }, { on := 3, ground := Go.Ground.textOnly Go.Departure.lateStores }], guard := none }) (v := ?v6) rfl (by kernel_rfl) (fun _ _ _ h => h) (Or.inl ⟨by rfl, ?hy6⟩) (by assumption) ?rest6
  case hy6 => (intro wz hSw; (try dsimp only at hSw); go_simp; try with_reducible rfl)
  (try simp only [Act.put, List.setIfInBounds_toArray, List.set_cons_zero, List.set_cons_succ])
  refine wpAnyM_ready (rs := [5]) (by kernel_rfl) (by simp) ?_
  refine AllReadyM.cons (o := { dst := none, op := Go.Op.store 4 (Go.Operand.tmp 15) (Go.Operand.const (Go.Value.bool true)), type := 0, pos := "convert.go:303", after := #[{ on := 4, ground := Go.Ground.data }, { on := 0, ground := Go.Ground.textOnly Go.Departure.lateStores }, { on := 1, ground := Go.Ground.textOnly Go.Departure.lateStores }, { on := 2, ground := Go.Ground.textOnly Go.Departure.lateStores }, { on := 3, ground := Go.Ground.textOnly Go.Departure.lateStores }], guard := none }) rfl (fun K hK => ?_) AllReadyM.nil
  go_simp
  obtain ⟨w4, hw⟩ : ∃ x, x = wd.setCell ⟨w2.heap.size, 0, none⟩ (.bool true) := ⟨_, rfl⟩
  change K _ (wd.setCell ⟨w2.heap.size, 0, none⟩ (.bool true))
  rw [← hw]
  have XOw4 := hid (show w4.heap[w2.heap.size]? = some (.cells #[.bool true, .string ⟨#[]⟩, .string s, .slice a1 n1 d1, .slice a2 n2 d2, .string ⟨#[]⟩] 55) by rw [hw]; exact setCell_heap XOd.out 0 (.bool true))
  have X0w4 := hid (show w4.heap[w.heap.size]? = some (.cells #[.pointer (some ⟨nb, 0, none⟩), .pointer none, .pointer none, .pointer none, .pointer none, .bool false] 126) by rw [hw, Below.heap_setCell _ _ _ _ hOB]; exact X0d.out)
  have X1w4 := hid (show w4.heap[w.heap.size + 1]? = some (.cells #[.bool false, .string ⟨#[]⟩, .string ⟨#[]⟩, .slice none 0 0, .slice none 0 0, .string ⟨#[]⟩] 55) by rw [hw, Below.heap_setCell _ _ _ _ hOR]; exact X1d.out)
  have HEw4 := hid (show Ext w w4 by rw [hw]; exact Below.setCell HEd.out (by have := HS2.out; show w.heap.size ≤ w2.heap.size; omega) _)
  have Gw4 := hid (Gd.out.mono (w' := w4) (S' := fun b => w1.heap.size ≤ b ∧ b < w2.heap.size) (fun b o hb ho => by rw [hw, Below.heap_setCell _ _ _ _ (show b ≠ w2.heap.size by obtain ⟨h1, h2⟩ := hb; omega)]; exact ho) (fun _ h _ => h))
  clear hw y0 y1 y2 y3 y4 y5 g0 g1 g2 g3 g4 g5
  obtain ⟨⟨y0, y1, y2, y3, y4, y5⟩, g0, g1, g2, g3, g4, g5⟩ := slot6 XOw4.out
  refine hK.out _ _ ?hS7 (fun hHeld => ?_)
  case hS7 => (exact ⟨(cell_of_heap X0w4.out 0).trans rfl, (cell_of_heap (HEw4.out.block HN.out) 0).trans rfl⟩)
  clear hK K
  (try simp only [Act.put, List.setIfInBounds_toArray, List.set_cons_zero, List.set_cons_succ])
  refine wpAnyM_take (i := 6) (oi := { dst := some 16, op := Go.Op.fieldAddr 55 (Go.Operand.tmp 3) 1, type := 0, pos := "convert.go:303", after := #[{ on := 0, ground := Go.Ground.phase }, { on := 1, ground := Go.Ground.phase }, { on := 2, ground := Go.Ground.phase }, { on := 3, ground := Go.Ground.phase }, { on := 4, ground := Go.Ground.phase }, { on := 5, ground := Go.Ground.phase }], guard := none }) (v := ?v8) rfl (by kernel_rfl) (fun _ _ _ h => h) (Or.inl ⟨by rfl, ?hy8⟩) (by assumption) ?rest8
  case hy8 => (intro wz hSw; (try dsimp only at hSw); go_simp; try with_reducible rfl)
  (try simp only [Act.put, List.setIfInBounds_toArray, List.set_cons_zero, List.set_cons_succ])
  refine wpAnyM_ready (rs := [7]) (by kernel_rfl) (by simp) ?_
  refine AllReadyM.cons (o := { dst := none, op := Go.Op.store 9 (Go.Operand.tmp 16) (Go.Operand.tmp 14), type := 0, pos := "convert.go:303", after := #[{ on := 6, ground := Go.Ground.data }, { on := 3, ground := Go.Ground.data }, { on := 5, ground := Go.Ground.chain }, { on := 0, ground := Go.Ground.phase }, { on := 1, ground := Go.Ground.phase }, { on := 2, ground := Go.Ground.phase }, { on := 3, ground := Go.Ground.phase }, { on := 4, ground := Go.Ground.phase }, { on := 5, ground := Go.Ground.phase }], guard := none }) rfl (fun K hK => ?_) AllReadyM.nil
  go_simp
  obtain ⟨w5, hw⟩ : ∃ x, x = w4.setCell ⟨w2.heap.size, 1, none⟩ (.string name) := ⟨_, rfl⟩
  change K _ (w4.setCell ⟨w2.heap.size, 1, none⟩ (.string name))
  rw [← hw]
  have XOw5 := hid (show w5.heap[w2.heap.size]? = some (.cells #[.bool true, .string name, .string s, .slice a1 n1 d1, .slice a2 n2 d2, .string ⟨#[]⟩] 55) by rw [hw]; exact setCell_heap XOw4.out 1 (.string name))
  have X0w5 := hid (show w5.heap[w.heap.size]? = some (.cells #[.pointer (some ⟨nb, 0, none⟩), .pointer none, .pointer none, .pointer none, .pointer none, .bool false] 126) by rw [hw, Below.heap_setCell _ _ _ _ hOB]; exact X0w4.out)
  have X1w5 := hid (show w5.heap[w.heap.size + 1]? = some (.cells #[.bool false, .string ⟨#[]⟩, .string ⟨#[]⟩, .slice none 0 0, .slice none 0 0, .string ⟨#[]⟩] 55) by rw [hw, Below.heap_setCell _ _ _ _ hOR]; exact X1w4.out)
  have HEw5 := hid (show Ext w w5 by rw [hw]; exact Below.setCell HEw4.out (by have := HS2.out; show w.heap.size ≤ w2.heap.size; omega) _)
  have Gw5 := hid (Gw4.out.mono (w' := w5) (S' := fun b => w1.heap.size ≤ b ∧ b < w2.heap.size) (fun b o hb ho => by rw [hw, Below.heap_setCell _ _ _ _ (show b ≠ w2.heap.size by obtain ⟨h1, h2⟩ := hb; omega)]; exact ho) (fun _ h _ => h))
  clear hw y0 y1 y2 y3 y4 y5 g0 g1 g2 g3 g4 g5
  obtain ⟨⟨y0, y1, y2, y3, y4, y5⟩, g0, g1, g2, g3, g4, g5⟩ := slot6 XOw5.out
  refine hK.out _ _ ?hS9 (fun hHeld => ?_)
  case hS9 => (exact ⟨(cell_of_heap X0w5.out 0).trans rfl, (cell_of_heap (HEw5.out.block HN.out) 0).trans rfl⟩)
  clear hK K
  (try simp only [Act.put, List.setIfInBounds_toArray, List.set_cons_zero, List.set_cons_succ])
  refine wpAnyM_done (by kernel_rfl) ?_ _
  clear y0 y1 y2 y3 y4 y5 g0 g1 g2 g3 g4 g5
  obtain ⟨⟨y0, y1, y2, y3, y4, y5⟩, g0, g1, g2, g3, g4, g5⟩ := slot6 XOw5.out
  clear x0 x1 x2 x3 x4 x5
  obtain ⟨⟨x0, x1, x2, x3, x4, x5⟩, -⟩ := slot6 X0w5.out
  go_upto_region 4 with fail
  obtain ⟨⟨q0, q1, q2, q3, q4, q5⟩, p0, p1, p2, p3, p4, p5⟩ := slot6 X1w5.out
  go_wp2_with fail
  change bodyPost _ _ _ _ _ (set6 w5 (w.heap.size + 1) (.bool true) (.string name) (.string s) (.slice a1 n1 d1) (.slice a2 n2 d2) (.string ⟨#[]⟩))
  have e6 := set6_heap X1w5.out (.bool true) (.string name) (.string s) (.slice a1 n1 d1) (.slice a2 n2 d2) (.string ⟨#[]⟩)
  have x6 := set6_below HEw5.out (b := w.heap.size + 1) (by omega) (.bool true) (.string name) (.string s) (.slice a1 n1 d1) (.slice a2 n2 d2) (.string ⟨#[]⟩)
  have g6 := Gw5.out.mono (w' := set6 w5 (w.heap.size + 1) (.bool true) (.string name) (.string s) (.slice a1 n1 d1) (.slice a2 n2 d2) (.string ⟨#[]⟩)) (S' := fun b => w.heap.size ≤ b) (fun b o hb ho => (set6_other (by obtain ⟨h1, h2⟩ := hb; have := HSZ.out; omega) (.bool true) (.string name) (.string s) (.slice a1 n1 d1) (.slice a2 n2 d2) (.string ⟨#[]⟩)).trans ho) (fun b hb _ => by obtain ⟨h1, h2⟩ := hb; have := HSZ.out; omega)
  generalize set6 w5 (w.heap.size + 1) (.bool true) (.string name) (.string s) (.slice a1 n1 d1) (.slice a2 n2 d2) (.string ⟨#[]⟩) = WF at *
  clear x0 x1 x2 x3 x4 x5
  obtain ⟨⟨x0, x1, x2, x3, x4, x5⟩, -⟩ := slot6 e6
  refine bodyPost_ret (v := .agg #[.bool true, .string name, .string s, .slice a1 n1 d1, .slice a2 n2 d2, .string ⟨#[]⟩]) (by simp [results, Try.results107, go_sem, x0, x1, x2, x3, x4, x5]) rfl ⟨.ref true name ga ⟨#[]⟩, ([.bool true, .string name, .string s, .slice a1 n1 d1, .slice a2 n2 d2, .string ⟨#[]⟩] : List Value), rfl, rfl, .refN _ _ _ _, .ref HNZ.out (by decide) HGT.out g6, x6⟩
set_option maxHeartbeats 4000000 in
theorem fromRef_Nr (w : World) (nb : Nat) (name : ByteArray) (hname : name.size ≤ 140737488351232) (hn : w.heap[nb]? = some (.cells #[.string name] 9)) (ha : BackOK 80 2 zeroA) (rel : ByteArray) (rb : Nat) (hrel : rel.size ≤ 140737488351232) (hr : w.heap[rb]? = some (.cells #[.string rel] 127)) (a : GS) : Calls Try.prog 107 #[.agg #[.pointer (some ⟨nb, 0, none⟩), .pointer none, .pointer none, .pointer none, .pointer (some ⟨rb, 0, none⟩), .bool false]] w fun e w' => ∃ g' cs', e = .returned (.agg cs'.toArray) ∧ g'.tag = 1 ∧ Lk g' (GS.ref true name a rel) ∧ RepGS (fun b => w.heap.size ≤ b) w' g' cs' ∧ Ext w w' := by
  have HA := hid ha
  have HE1 := hid (((Ext.refl w).alloc (.cells #[.pointer (some ⟨nb, 0, none⟩), .pointer none, .pointer none, .pointer none, .pointer (some ⟨rb, 0, none⟩), .bool false] 126)).alloc (.cells #[.bool false, .string ⟨#[]⟩, .string ⟨#[]⟩, .slice none 0 0, .slice none 0 0, .string ⟨#[]⟩] 55))
  have HX0 := hid (first_heap w (.cells #[.pointer (some ⟨nb, 0, none⟩), .pointer none, .pointer none, .pointer none, .pointer (some ⟨rb, 0, none⟩), .bool false] 126) (.cells #[.bool false, .string ⟨#[]⟩, .string ⟨#[]⟩, .slice none 0 0, .slice none 0 0, .string ⟨#[]⟩] 55))
  have HX1 := hid (second_heap w (.cells #[.pointer (some ⟨nb, 0, none⟩), .pointer none, .pointer none, .pointer none, .pointer (some ⟨rb, 0, none⟩), .bool false] 126) (.cells #[.bool false, .string ⟨#[]⟩, .string ⟨#[]⟩, .slice none 0 0, .slice none 0 0, .string ⟨#[]⟩] 55))
  have HSZ := hid (show ((w.alloc (.cells #[.pointer (some ⟨nb, 0, none⟩), .pointer none, .pointer none, .pointer none, .pointer (some ⟨rb, 0, none⟩), .bool false] 126)).alloc (.cells #[.bool false, .string ⟨#[]⟩, .string ⟨#[]⟩, .slice none 0 0, .slice none 0 0, .string ⟨#[]⟩] 55)).heap.size = w.heap.size + 2 by simp)
  have HN := hid hn
  have HNZ := hid hname
  clear hn hname
  have HRR := hid hr
  have HRZ := hid hrel
  clear hr hrel
  clear ha
  go_enter Try.func107, Try.ntmps107
  go_upto_region 1 with fail
  generalize (w.alloc (.cells #[.pointer (some ⟨nb, 0, none⟩), .pointer none, .pointer none, .pointer none, .pointer (some ⟨rb, 0, none⟩), .bool false] 126)).alloc (.cells #[.bool false, .string ⟨#[]⟩, .string ⟨#[]⟩, .slice none 0 0, .slice none 0 0, .string ⟨#[]⟩] 55) = w1 at *
  obtain ⟨⟨x0, x1, x2, x3, x4, x5⟩, -⟩ := slot6 HX0.out
  go_upto_region 2 with (go_at_call 80; refine (HA.out rfl w1 _ (zeroA_rep _ _)).mono ?_; rintro e w2 ⟨ga, cs2, rfl, hgt, hlk, hg, hE⟩; obtain ⟨s, a1, n1, d1, a2, n2, d2, rfl⟩ := hg.formA hgt; have HG := hid (hg.weak (S' := fun b => w1.heap.size ≤ b ∧ b < w2.heap.size) (fun b h1 h2 => ⟨h1, h2⟩)); have HGT := hid hgt; have HLK := hid hlk; have HE2 := hid (HE1.out.trans hE); have HS2 := hid (show w.heap.size + 2 ≤ w2.heap.size by have := HSZ.out; have := hE.size; omega); have X0 := hid (hE.block HX0.out); have X1 := hid (hE.block HX1.out); clear hg hgt hlk hE x0 x1 x2 x3 x4 x5)
  have X0' := hid (((Ext.refl w2).alloc (.cells #[.bool false, .string ⟨#[]⟩, .string s, .slice a1 n1 d1, .slice a2 n2 d2, .string ⟨#[]⟩] 55)).block X0.out)
  have X1' := hid (((Ext.refl w2).alloc (.cells #[.bool false, .string ⟨#[]⟩, .string s, .slice a1 n1 d1, .slice a2 n2 d2, .string ⟨#[]⟩] 55)).block X1.out)
  have XO := hid (heap_alloc_new w2 (.cells #[.bool false, .string ⟨#[]⟩, .string s, .slice a1 n1 d1, .slice a2 n2 d2, .string ⟨#[]⟩] 55))
  have HE3 := hid (HE2.out.alloc (.cells #[.bool false, .string ⟨#[]⟩, .string s, .slice a1 n1 d1, .slice a2 n2 d2, .string ⟨#[]⟩] 55))
  have Q3 := hid (show Same (fun b => w1.heap.size ≤ b ∧ b < w2.heap.size) w2 (w2.alloc (.cells #[.bool false, .string ⟨#[]⟩, .string s, .slice a1 n1 d1, .slice a2 n2 d2, .string ⟨#[]⟩] 55)) from ((Ext.refl w2).alloc _).same _)
  generalize w2.alloc (.cells #[.bool false, .string ⟨#[]⟩, .string s, .slice a1 n1 d1, .slice a2 n2 d2, .string ⟨#[]⟩] 55) = w3 at *
  clear X0 X1 HE2 HX0 HX1 HE1
  obtain ⟨⟨x0, x1, x2, x3, x4, x5⟩, -⟩ := slot6 X0'.out
  obtain ⟨⟨y0, y1, y2, y3, y4, y5⟩, g0, g1, g2, g3, g4, g5⟩ := slot6 XO.out
  have cr := (cell_of_heap (HE3.out.block HRR.out) 0).trans rfl
  have hOR : ¬ w.heap.size + 1 = w2.heap.size := by have := HS2.out; omega
  have hOB : ¬ w.heap.size = w2.heap.size := by have := HS2.out; omega
  have G3 := hid (HG.out.mono Q3.out (S' := fun b => w1.heap.size ≤ b ∧ b < w2.heap.size) (fun _ h _ => h))
  have cn := (cell_of_heap (HE3.out.block HN.out) 0).trans rfl
  go_upto_region 3 with fail
  have X0d := hid (show w3.drew.heap[w.heap.size]? = some (.cells #[.pointer (some ⟨nb, 0, none⟩), .pointer none, .pointer none, .pointer none, .pointer (some ⟨rb, 0, none⟩), .bool false] 126) from (Ext.refl w3).drew.block X0'.out)
  have X1d := hid (show w3.drew.heap[w.heap.size + 1]? = some (.cells #[.bool false, .string ⟨#[]⟩, .string ⟨#[]⟩, .slice none 0 0, .slice none 0 0, .string ⟨#[]⟩] 55) from (Ext.refl w3).drew.block X1'.out)
  have HEd := hid (HE3.out.drew)
  have Gd := hid (G3.out.ext (Ext.refl w3).drew)
  have XOd := hid (show w3.drew.heap[w2.heap.size]? = some (.cells #[.bool false, .string ⟨#[]⟩, .string s, .slice a1 n1 d1, .slice a2 n2 d2, .string ⟨#[]⟩] 55) from (Ext.refl w3).drew.block XO.out)
  clear y0 y1 y2 y3 y4 y5 g0 g1 g2 g3 g4 g5
  obtain ⟨⟨y0, y1, y2, y3, y4, y5⟩, g0, g1, g2, g3, g4, g5⟩ := slot6 XOd.out
  have hd0 : ¬ nb = w2.heap.size := by
    have := (Array.getElem?_eq_some_iff.1 HN.out).1
    have := HS2.out
    omega
  refine wp_region_late (fun w' : World => w'.cell? ⟨w.heap.size, 0, none⟩ = some (.pointer (some ⟨nb, 0, none⟩)) ∧ w'.cell? ⟨nb, 0, none⟩ = some (.string name)) [] (by kernel_rfl) ?hS10 (fun hHeld => ?_)
  case hS10 => (exact ⟨x0, cn⟩)
  generalize w3.drew = wd at *
  change wpAnyM _ _ _ _ _ _ 8 #[false, false, false, false, false, false, false, false] _ _
  refine wpAnyM_take (i := 0) (oi := { dst := some 11, op := Go.Op.fieldAddr 126 (Go.Operand.tmp 1) 0, type := 0, pos := "convert.go:303", after := #[{ on := 5, ground := Go.Ground.gcOnly Go.Departure.lateStores }], guard := none }) (v := ?v11) rfl (by kernel_rfl) (fun _ _ _ h => h) (Or.inl ⟨by rfl, ?hy11⟩) (by assumption) ?rest11
  case hy11 => (intro wz hSw; (try dsimp only at hSw); go_simp; try with_reducible rfl)
  (try simp only [Act.put, List.setIfInBounds_toArray, List.set_cons_zero, List.set_cons_succ])
  refine wpAnyM_take (i := 1) (oi := { dst := some 12, op := Go.Op.load 87 (Go.Operand.tmp 11), type := 87, pos := "convert.go:303", after := #[{ on := 0, ground := Go.Ground.data }, { on := 5, ground := Go.Ground.gcOnly Go.Departure.lateStores }], guard := none }) (v := ?v12) rfl (by kernel_rfl) (fun _ _ _ h => h) (Or.inl ⟨by rfl, ?hy12⟩) (by assumption) ?rest12
  case hy12 => (intro wz hSw; (try dsimp only at hSw); go_simp; try with_reducible rfl)
  (try simp only [Act.put, List.setIfInBounds_toArray, List.set_cons_zero, List.set_cons_succ])
  refine wpAnyM_take (i := 2) (oi := { dst := some 13, op := Go.Op.nilCheck (Go.Operand.tmp 12), type := 0, pos := "convert.go:303", after := #[{ on := 1, ground := Go.Ground.data }, { on := 5, ground := Go.Ground.gcOnly Go.Departure.lateStores }], guard := none }) (v := ?v13) rfl (by kernel_rfl) (fun _ _ _ h => h) (Or.inl ⟨by rfl, ?hy13⟩) (by assumption) ?rest13
  case hy13 => (intro wz hSw; (try dsimp only at hSw); go_simp; try with_reducible rfl)
  (try simp only [Act.put, List.setIfInBounds_toArray, List.set_cons_zero, List.set_cons_succ])
  refine wpAnyM_take (i := 3) (oi := { dst := some 14, op := Go.Op.load 9 (Go.Operand.tmp 13), type := 9, pos := "convert.go:303", after := #[{ on := 2, ground := Go.Ground.data }, { on := 5, ground := Go.Ground.gcOnly Go.Departure.lateStores }], guard := none }) (v := ?v14) rfl (by kernel_rfl) (fun _ _ _ h => h) (Or.inl ⟨by rfl, ?hy14⟩) (by assumption) ?rest14
  case hy14 => (intro wz hSw; (try dsimp only at hSw); go_simp; try with_reducible rfl)
  (try simp only [Act.put, List.setIfInBounds_toArray, List.set_cons_zero, List.set_cons_succ])
  refine wpAnyM_take (i := 4) (oi := { dst := some 15, op := Go.Op.fieldAddr 55 (Go.Operand.tmp 3) 0, type := 0, pos := "convert.go:303", after := #[{ on := 0, ground := Go.Ground.textOnly Go.Departure.lateStores }, { on := 1, ground := Go.Ground.textOnly Go.Departure.lateStores }, { on := 2, ground := Go.Ground.textOnly Go.Departure.lateStores }, { on := 3, ground := Go.Ground.textOnly Go.Departure.lateStores }], guard := none }) (v := ?v15) rfl (by kernel_rfl) (fun _ _ _ h => h) (Or.inl ⟨by rfl, ?hy15⟩) (by assumption) ?rest15
  case hy15 => (intro wz hSw; (try dsimp only at hSw); go_simp; try with_reducible rfl)
  (try simp only [Act.put, List.setIfInBounds_toArray, List.set_cons_zero, List.set_cons_succ])
  refine wpAnyM_ready (rs := [5]) (by kernel_rfl) (by simp) ?_
  refine AllReadyM.cons (o := { dst := none, op := Go.Op.store 4 (Go.Operand.tmp 15) (Go.Operand.const (Go.Value.bool true)), type := 0, pos := "convert.go:303", after := #[{ on := 4, ground := Go.Ground.data }, { on := 0, ground := Go.Ground.textOnly Go.Departure.lateStores }, { on := 1, ground := Go.Ground.textOnly Go.Departure.lateStores }, { on := 2, ground := Go.Ground.textOnly Go.Departure.lateStores }, { on := 3, ground := Go.Ground.textOnly Go.Departure.lateStores }], guard := none }) rfl (fun K hK => ?_) AllReadyM.nil
  go_simp
  obtain ⟨w4, hw⟩ : ∃ x, x = wd.setCell ⟨w2.heap.size, 0, none⟩ (.bool true) := ⟨_, rfl⟩
  change K _ (wd.setCell ⟨w2.heap.size, 0, none⟩ (.bool true))
  rw [← hw]
  have XOw4 := hid (show w4.heap[w2.heap.size]? = some (.cells #[.bool true, .string ⟨#[]⟩, .string s, .slice a1 n1 d1, .slice a2 n2 d2, .string ⟨#[]⟩] 55) by rw [hw]; exact setCell_heap XOd.out 0 (.bool true))
  have X0w4 := hid (show w4.heap[w.heap.size]? = some (.cells #[.pointer (some ⟨nb, 0, none⟩), .pointer none, .pointer none, .pointer none, .pointer (some ⟨rb, 0, none⟩), .bool false] 126) by rw [hw, Below.heap_setCell _ _ _ _ hOB]; exact X0d.out)
  have X1w4 := hid (show w4.heap[w.heap.size + 1]? = some (.cells #[.bool false, .string ⟨#[]⟩, .string ⟨#[]⟩, .slice none 0 0, .slice none 0 0, .string ⟨#[]⟩] 55) by rw [hw, Below.heap_setCell _ _ _ _ hOR]; exact X1d.out)
  have HEw4 := hid (show Ext w w4 by rw [hw]; exact Below.setCell HEd.out (by have := HS2.out; show w.heap.size ≤ w2.heap.size; omega) _)
  have Gw4 := hid (Gd.out.mono (w' := w4) (S' := fun b => w1.heap.size ≤ b ∧ b < w2.heap.size) (fun b o hb ho => by rw [hw, Below.heap_setCell _ _ _ _ (show b ≠ w2.heap.size by obtain ⟨h1, h2⟩ := hb; omega)]; exact ho) (fun _ h _ => h))
  clear hw y0 y1 y2 y3 y4 y5 g0 g1 g2 g3 g4 g5
  obtain ⟨⟨y0, y1, y2, y3, y4, y5⟩, g0, g1, g2, g3, g4, g5⟩ := slot6 XOw4.out
  refine hK.out _ _ ?hS16 (fun hHeld => ?_)
  case hS16 => (exact ⟨(cell_of_heap X0w4.out 0).trans rfl, (cell_of_heap (HEw4.out.block HN.out) 0).trans rfl⟩)
  clear hK K
  (try simp only [Act.put, List.setIfInBounds_toArray, List.set_cons_zero, List.set_cons_succ])
  refine wpAnyM_take (i := 6) (oi := { dst := some 16, op := Go.Op.fieldAddr 55 (Go.Operand.tmp 3) 1, type := 0, pos := "convert.go:303", after := #[{ on := 0, ground := Go.Ground.phase }, { on := 1, ground := Go.Ground.phase }, { on := 2, ground := Go.Ground.phase }, { on := 3, ground := Go.Ground.phase }, { on := 4, ground := Go.Ground.phase }, { on := 5, ground := Go.Ground.phase }], guard := none }) (v := ?v17) rfl (by kernel_rfl) (fun _ _ _ h => h) (Or.inl ⟨by rfl, ?hy17⟩) (by assumption) ?rest17
  case hy17 => (intro wz hSw; (try dsimp only at hSw); go_simp; try with_reducible rfl)
  (try simp only [Act.put, List.setIfInBounds_toArray, List.set_cons_zero, List.set_cons_succ])
  refine wpAnyM_ready (rs := [7]) (by kernel_rfl) (by simp) ?_
  refine AllReadyM.cons (o := { dst := none, op := Go.Op.store 9 (Go.Operand.tmp 16) (Go.Operand.tmp 14), type := 0, pos := "convert.go:303", after := #[{ on := 6, ground := Go.Ground.data }, { on := 3, ground := Go.Ground.data }, { on := 5, ground := Go.Ground.chain }, { on := 0, ground := Go.Ground.phase }, { on := 1, ground := Go.Ground.phase }, { on := 2, ground := Go.Ground.phase }, { on := 3, ground := Go.Ground.phase }, { on := 4, ground := Go.Ground.phase }, { on := 5, ground := Go.Ground.phase }], guard := none }) rfl (fun K hK => ?_) AllReadyM.nil
  go_simp
  obtain ⟨w5, hw⟩ : ∃ x, x = w4.setCell ⟨w2.heap.size, 1, none⟩ (.string name) := ⟨_, rfl⟩
  change K _ (w4.setCell ⟨w2.heap.size, 1, none⟩ (.string name))
  rw [← hw]
  have XOw5 := hid (show w5.heap[w2.heap.size]? = some (.cells #[.bool true, .string name, .string s, .slice a1 n1 d1, .slice a2 n2 d2, .string ⟨#[]⟩] 55) by rw [hw]; exact setCell_heap XOw4.out 1 (.string name))
  have X0w5 := hid (show w5.heap[w.heap.size]? = some (.cells #[.pointer (some ⟨nb, 0, none⟩), .pointer none, .pointer none, .pointer none, .pointer (some ⟨rb, 0, none⟩), .bool false] 126) by rw [hw, Below.heap_setCell _ _ _ _ hOB]; exact X0w4.out)
  have X1w5 := hid (show w5.heap[w.heap.size + 1]? = some (.cells #[.bool false, .string ⟨#[]⟩, .string ⟨#[]⟩, .slice none 0 0, .slice none 0 0, .string ⟨#[]⟩] 55) by rw [hw, Below.heap_setCell _ _ _ _ hOR]; exact X1w4.out)
  have HEw5 := hid (show Ext w w5 by rw [hw]; exact Below.setCell HEw4.out (by have := HS2.out; show w.heap.size ≤ w2.heap.size; omega) _)
  have Gw5 := hid (Gw4.out.mono (w' := w5) (S' := fun b => w1.heap.size ≤ b ∧ b < w2.heap.size) (fun b o hb ho => by rw [hw, Below.heap_setCell _ _ _ _ (show b ≠ w2.heap.size by obtain ⟨h1, h2⟩ := hb; omega)]; exact ho) (fun _ h _ => h))
  clear hw y0 y1 y2 y3 y4 y5 g0 g1 g2 g3 g4 g5
  obtain ⟨⟨y0, y1, y2, y3, y4, y5⟩, g0, g1, g2, g3, g4, g5⟩ := slot6 XOw5.out
  refine hK.out _ _ ?hS18 (fun hHeld => ?_)
  case hS18 => (exact ⟨(cell_of_heap X0w5.out 0).trans rfl, (cell_of_heap (HEw5.out.block HN.out) 0).trans rfl⟩)
  clear hK K
  (try simp only [Act.put, List.setIfInBounds_toArray, List.set_cons_zero, List.set_cons_succ])
  refine wpAnyM_done (by kernel_rfl) ?_ _
  clear y0 y1 y2 y3 y4 y5 g0 g1 g2 g3 g4 g5
  obtain ⟨⟨y0, y1, y2, y3, y4, y5⟩, g0, g1, g2, g3, g4, g5⟩ := slot6 XOw5.out
  clear x0 x1 x2 x3 x4 x5
  obtain ⟨⟨x0, x1, x2, x3, x4, x5⟩, -⟩ := slot6 X0w5.out
  go_upto_region 4 with fail
  clear cr
  have cr := (cell_of_heap (HEw5.out.block HRR.out) 0).trans rfl
  go_upto_region 6 with fail
  change Code.wp _ _ _ _ (setL w5 w2.heap.size 5 [.string rel])
  obtain ⟨w8, hw⟩ : ∃ x, x = setL w5 w2.heap.size 5 [.string rel] := ⟨_, rfl⟩
  rw [← hw]
  have X0_0 := hid (show w8.heap[w.heap.size]? = some (.cells #[.pointer (some ⟨nb, 0, none⟩), .pointer none, .pointer none, .pointer none, .pointer (some ⟨rb, 0, none⟩), .bool false] 126) by rw [hw]; exact (setL_other hOB _).trans X0w5.out)
  have X1_0 := hid (show w8.heap[w.heap.size + 1]? = some (.cells #[.bool false, .string ⟨#[]⟩, .string ⟨#[]⟩, .slice none 0 0, .slice none 0 0, .string ⟨#[]⟩] 55) by rw [hw]; exact (setL_other hOR _).trans X1w5.out)
  have XO_0 := hid (show w8.heap[w2.heap.size]? = some (.cells #[.bool true, .string name, .string s, .slice a1 n1 d1, .slice a2 n2 d2, .string rel] 55) by rw [hw]; have h := setL_heap [.string rel] [.bool true, .string name, .string s, .slice a1 n1 d1, .slice a2 n2 d2] [.string ⟨#[]⟩] (show w5.heap[w2.heap.size]? = some (.cells (([.bool true, .string name, .string s, .slice a1 n1 d1, .slice a2 n2 d2] : List Value) ++ ([.string ⟨#[]⟩] : List Value)).toArray 55) from XOw5.out) (by simp); simpa using h)
  have HE_0 := hid (show Ext w w8 by rw [hw]; exact setL_below HEw5.out (by have := HS2.out; omega) _ _)
  have G_0 := hid (Gw5.out.mono (w' := w8) (S' := fun b => w1.heap.size ≤ b ∧ b < w2.heap.size) (fun b o hb ho => by rw [hw]; exact (setL_other (by obtain ⟨h1, h2⟩ := hb; omega) _).trans ho) (fun _ h _ => h))
  clear hw
  clear y0 y1 y2 y3 y4 y5 g0 g1 g2 g3 g4 g5
  obtain ⟨⟨y0, y1, y2, y3, y4, y5⟩, -⟩ := slot6 XO_0.out
  obtain ⟨⟨q0, q1, q2, q3, q4, q5⟩, p0, p1, p2, p3, p4, p5⟩ := slot6 X1_0.out
  go_wp2_with fail
  change bodyPost _ _ _ _ _ (set6 w8 (w.heap.size + 1) (.bool true) (.string name) (.string s) (.slice a1 n1 d1) (.slice a2 n2 d2) (.string rel))
  have e6 := set6_heap X1_0.out (.bool true) (.string name) (.string s) (.slice a1 n1 d1) (.slice a2 n2 d2) (.string rel)
  have x6 := set6_below HE_0.out (b := w.heap.size + 1) (by omega) (.bool true) (.string name) (.string s) (.slice a1 n1 d1) (.slice a2 n2 d2) (.string rel)
  have g6 := G_0.out.mono (w' := set6 w8 (w.heap.size + 1) (.bool true) (.string name) (.string s) (.slice a1 n1 d1) (.slice a2 n2 d2) (.string rel)) (S' := fun b => w.heap.size ≤ b) (fun b o hb ho => (set6_other (by obtain ⟨h1, h2⟩ := hb; have := HSZ.out; omega) (.bool true) (.string name) (.string s) (.slice a1 n1 d1) (.slice a2 n2 d2) (.string rel)).trans ho) (fun b hb _ => by obtain ⟨h1, h2⟩ := hb; have := HSZ.out; omega)
  generalize set6 w8 (w.heap.size + 1) (.bool true) (.string name) (.string s) (.slice a1 n1 d1) (.slice a2 n2 d2) (.string rel) = WF at *
  clear x0 x1 x2 x3 x4 x5
  obtain ⟨⟨x0, x1, x2, x3, x4, x5⟩, -⟩ := slot6 e6
  refine bodyPost_ret (v := .agg #[.bool true, .string name, .string s, .slice a1 n1 d1, .slice a2 n2 d2, .string rel]) (by simp [results, Try.results107, go_sem, x0, x1, x2, x3, x4, x5]) rfl ⟨.ref true name ga rel, ([.bool true, .string name, .string s, .slice a1 n1 d1, .slice a2 n2 d2, .string rel] : List Value), rfl, rfl, .refN _ _ _ _, .ref HNZ.out HRZ.out HGT.out g6, x6⟩
set_option maxHeartbeats 4000000 in
theorem fromRef_A0 (w : World) (name : ByteArray) (a : GS) (p1 p2 p3 : Option Addr) (ht : a.tag = 2) (hR : RepS Any w a [.pointer p1, .pointer p2, .pointer p3]) (ha : BackOK 80 2 a) : Calls Try.prog 107 #[.agg #[.pointer none, .pointer p1, .pointer p2, .pointer p3, .pointer none, .bool false]] w fun e w' => ∃ g' cs', e = .returned (.agg cs'.toArray) ∧ g'.tag = 1 ∧ Lk g' (GS.ref false name a ⟨#[]⟩) ∧ RepGS (fun b => w.heap.size ≤ b) w' g' cs' ∧ Ext w w' := by
  have HA := hid ha
  have HE1 := hid (((Ext.refl w).alloc (.cells #[.pointer none, .pointer p1, .pointer p2, .pointer p3, .pointer none, .bool false] 126)).alloc (.cells #[.bool false, .string ⟨#[]⟩, .string ⟨#[]⟩, .slice none 0 0, .slice none 0 0, .string ⟨#[]⟩] 55))
  have HX0 := hid (first_heap w (.cells #[.pointer none, .pointer p1, .pointer p2, .pointer p3, .pointer none, .bool false] 126) (.cells #[.bool false, .string ⟨#[]⟩, .string ⟨#[]⟩, .slice none 0 0, .slice none 0 0, .string ⟨#[]⟩] 55))
  have HX1 := hid (second_heap w (.cells #[.pointer none, .pointer p1, .pointer p2, .pointer p3, .pointer none, .bool false] 126) (.cells #[.bool false, .string ⟨#[]⟩, .string ⟨#[]⟩, .slice none 0 0, .slice none 0 0, .string ⟨#[]⟩] 55))
  have HSZ := hid (show ((w.alloc (.cells #[.pointer none, .pointer p1, .pointer p2, .pointer p3, .pointer none, .bool false] 126)).alloc (.cells #[.bool false, .string ⟨#[]⟩, .string ⟨#[]⟩, .slice none 0 0, .slice none 0 0, .string ⟨#[]⟩] 55)).heap.size = w.heap.size + 2 by simp)
  have HR := hid hR
  have HT := hid ht
  clear hR ht
  clear ha
  go_enter Try.func107, Try.ntmps107
  go_upto_region 1 with fail
  generalize (w.alloc (.cells #[.pointer none, .pointer p1, .pointer p2, .pointer p3, .pointer none, .bool false] 126)).alloc (.cells #[.bool false, .string ⟨#[]⟩, .string ⟨#[]⟩, .slice none 0 0, .slice none 0 0, .string ⟨#[]⟩] 55) = w1 at *
  obtain ⟨⟨x0, x1, x2, x3, x4, x5⟩, -⟩ := slot6 HX0.out
  go_upto_region 2 with (go_at_call 80; refine (HA.out HT.out w1 _ (HR.out.ext HE1.out)).mono ?_; rintro e w2 ⟨ga, cs2, rfl, hgt, hlk, hg, hE⟩; obtain ⟨s, a1, n1, d1, a2, n2, d2, rfl⟩ := hg.formA hgt; have HG := hid (hg.weak (S' := fun b => w1.heap.size ≤ b ∧ b < w2.heap.size) (fun b h1 h2 => ⟨h1, h2⟩)); have HGT := hid hgt; have HLK := hid hlk; have HE2 := hid (HE1.out.trans hE); have HS2 := hid (show w.heap.size + 2 ≤ w2.heap.size by have := HSZ.out; have := hE.size; omega); have X0 := hid (hE.block HX0.out); have X1 := hid (hE.block HX1.out); clear hg hgt hlk hE x0 x1 x2 x3 x4 x5)
  have X0' := hid (((Ext.refl w2).alloc (.cells #[.bool false, .string ⟨#[]⟩, .string s, .slice a1 n1 d1, .slice a2 n2 d2, .string ⟨#[]⟩] 55)).block X0.out)
  have X1' := hid (((Ext.refl w2).alloc (.cells #[.bool false, .string ⟨#[]⟩, .string s, .slice a1 n1 d1, .slice a2 n2 d2, .string ⟨#[]⟩] 55)).block X1.out)
  have XO := hid (heap_alloc_new w2 (.cells #[.bool false, .string ⟨#[]⟩, .string s, .slice a1 n1 d1, .slice a2 n2 d2, .string ⟨#[]⟩] 55))
  have HE3 := hid (HE2.out.alloc (.cells #[.bool false, .string ⟨#[]⟩, .string s, .slice a1 n1 d1, .slice a2 n2 d2, .string ⟨#[]⟩] 55))
  have Q3 := hid (show Same (fun b => w1.heap.size ≤ b ∧ b < w2.heap.size) w2 (w2.alloc (.cells #[.bool false, .string ⟨#[]⟩, .string s, .slice a1 n1 d1, .slice a2 n2 d2, .string ⟨#[]⟩] 55)) from ((Ext.refl w2).alloc _).same _)
  generalize w2.alloc (.cells #[.bool false, .string ⟨#[]⟩, .string s, .slice a1 n1 d1, .slice a2 n2 d2, .string ⟨#[]⟩] 55) = w3 at *
  clear X0 X1 HE2 HX0 HX1 HE1
  obtain ⟨⟨x0, x1, x2, x3, x4, x5⟩, -⟩ := slot6 X0'.out
  obtain ⟨⟨y0, y1, y2, y3, y4, y5⟩, g0, g1, g2, g3, g4, g5⟩ := slot6 XO.out
  have hOR : ¬ w.heap.size + 1 = w2.heap.size := by have := HS2.out; omega
  have hOB : ¬ w.heap.size = w2.heap.size := by have := HS2.out; omega
  have G3 := hid (HG.out.mono Q3.out (S' := fun b => w1.heap.size ≤ b ∧ b < w2.heap.size) (fun _ h _ => h))
  go_upto_region 4 with fail
  obtain ⟨⟨q0, q1, q2, q3, q4, q5⟩, p0, p1, p2, p3, p4, p5⟩ := slot6 X1'.out
  go_wp2_with fail
  change bodyPost _ _ _ _ _ (set6 w3 (w.heap.size + 1) (.bool false) (.string ⟨#[]⟩) (.string s) (.slice a1 n1 d1) (.slice a2 n2 d2) (.string ⟨#[]⟩))
  have e6 := set6_heap X1'.out (.bool false) (.string ⟨#[]⟩) (.string s) (.slice a1 n1 d1) (.slice a2 n2 d2) (.string ⟨#[]⟩)
  have x6 := set6_below HE3.out (b := w.heap.size + 1) (by omega) (.bool false) (.string ⟨#[]⟩) (.string s) (.slice a1 n1 d1) (.slice a2 n2 d2) (.string ⟨#[]⟩)
  have g6 := G3.out.mono (w' := set6 w3 (w.heap.size + 1) (.bool false) (.string ⟨#[]⟩) (.string s) (.slice a1 n1 d1) (.slice a2 n2 d2) (.string ⟨#[]⟩)) (S' := fun b => w.heap.size ≤ b) (fun b o hb ho => (set6_other (by obtain ⟨h1, h2⟩ := hb; have := HSZ.out; omega) (.bool false) (.string ⟨#[]⟩) (.string s) (.slice a1 n1 d1) (.slice a2 n2 d2) (.string ⟨#[]⟩)).trans ho) (fun b hb _ => by obtain ⟨h1, h2⟩ := hb; have := HSZ.out; omega)
  generalize set6 w3 (w.heap.size + 1) (.bool false) (.string ⟨#[]⟩) (.string s) (.slice a1 n1 d1) (.slice a2 n2 d2) (.string ⟨#[]⟩) = WF at *
  clear x0 x1 x2 x3 x4 x5
  obtain ⟨⟨x0, x1, x2, x3, x4, x5⟩, -⟩ := slot6 e6
  refine bodyPost_ret (v := .agg #[.bool false, .string ⟨#[]⟩, .string s, .slice a1 n1 d1, .slice a2 n2 d2, .string ⟨#[]⟩]) (by simp [results, Try.results107, go_sem, x0, x1, x2, x3, x4, x5]) rfl ⟨.ref false ⟨#[]⟩ ga ⟨#[]⟩, ([.bool false, .string ⟨#[]⟩, .string s, .slice a1 n1 d1, .slice a2 n2 d2, .string ⟨#[]⟩] : List Value), rfl, rfl, .refA _ _ _ _ _ HLK.out, .ref (by decide) (by decide) HGT.out g6, x6⟩
set_option maxHeartbeats 4000000 in
theorem fromRef_Ar (w : World) (name : ByteArray) (a : GS) (p1 p2 p3 : Option Addr) (ht : a.tag = 2) (hR : RepS Any w a [.pointer p1, .pointer p2, .pointer p3]) (ha : BackOK 80 2 a) (rel : ByteArray) (rb : Nat) (hrel : rel.size ≤ 140737488351232) (hr : w.heap[rb]? = some (.cells #[.string rel] 127)) : Calls Try.prog 107 #[.agg #[.pointer none, .pointer p1, .pointer p2, .pointer p3, .pointer (some ⟨rb, 0, none⟩), .bool false]] w fun e w' => ∃ g' cs', e = .returned (.agg cs'.toArray) ∧ g'.tag = 1 ∧ Lk g' (GS.ref false name a rel) ∧ RepGS (fun b => w.heap.size ≤ b) w' g' cs' ∧ Ext w w' := by
  have HA := hid ha
  have HE1 := hid (((Ext.refl w).alloc (.cells #[.pointer none, .pointer p1, .pointer p2, .pointer p3, .pointer (some ⟨rb, 0, none⟩), .bool false] 126)).alloc (.cells #[.bool false, .string ⟨#[]⟩, .string ⟨#[]⟩, .slice none 0 0, .slice none 0 0, .string ⟨#[]⟩] 55))
  have HX0 := hid (first_heap w (.cells #[.pointer none, .pointer p1, .pointer p2, .pointer p3, .pointer (some ⟨rb, 0, none⟩), .bool false] 126) (.cells #[.bool false, .string ⟨#[]⟩, .string ⟨#[]⟩, .slice none 0 0, .slice none 0 0, .string ⟨#[]⟩] 55))
  have HX1 := hid (second_heap w (.cells #[.pointer none, .pointer p1, .pointer p2, .pointer p3, .pointer (some ⟨rb, 0, none⟩), .bool false] 126) (.cells #[.bool false, .string ⟨#[]⟩, .string ⟨#[]⟩, .slice none 0 0, .slice none 0 0, .string ⟨#[]⟩] 55))
  have HSZ := hid (show ((w.alloc (.cells #[.pointer none, .pointer p1, .pointer p2, .pointer p3, .pointer (some ⟨rb, 0, none⟩), .bool false] 126)).alloc (.cells #[.bool false, .string ⟨#[]⟩, .string ⟨#[]⟩, .slice none 0 0, .slice none 0 0, .string ⟨#[]⟩] 55)).heap.size = w.heap.size + 2 by simp)
  have HR := hid hR
  have HT := hid ht
  clear hR ht
  have HRR := hid hr
  have HRZ := hid hrel
  clear hr hrel
  clear ha
  go_enter Try.func107, Try.ntmps107
  go_upto_region 1 with fail
  generalize (w.alloc (.cells #[.pointer none, .pointer p1, .pointer p2, .pointer p3, .pointer (some ⟨rb, 0, none⟩), .bool false] 126)).alloc (.cells #[.bool false, .string ⟨#[]⟩, .string ⟨#[]⟩, .slice none 0 0, .slice none 0 0, .string ⟨#[]⟩] 55) = w1 at *
  obtain ⟨⟨x0, x1, x2, x3, x4, x5⟩, -⟩ := slot6 HX0.out
  go_upto_region 2 with (go_at_call 80; refine (HA.out HT.out w1 _ (HR.out.ext HE1.out)).mono ?_; rintro e w2 ⟨ga, cs2, rfl, hgt, hlk, hg, hE⟩; obtain ⟨s, a1, n1, d1, a2, n2, d2, rfl⟩ := hg.formA hgt; have HG := hid (hg.weak (S' := fun b => w1.heap.size ≤ b ∧ b < w2.heap.size) (fun b h1 h2 => ⟨h1, h2⟩)); have HGT := hid hgt; have HLK := hid hlk; have HE2 := hid (HE1.out.trans hE); have HS2 := hid (show w.heap.size + 2 ≤ w2.heap.size by have := HSZ.out; have := hE.size; omega); have X0 := hid (hE.block HX0.out); have X1 := hid (hE.block HX1.out); clear hg hgt hlk hE x0 x1 x2 x3 x4 x5)
  have X0' := hid (((Ext.refl w2).alloc (.cells #[.bool false, .string ⟨#[]⟩, .string s, .slice a1 n1 d1, .slice a2 n2 d2, .string ⟨#[]⟩] 55)).block X0.out)
  have X1' := hid (((Ext.refl w2).alloc (.cells #[.bool false, .string ⟨#[]⟩, .string s, .slice a1 n1 d1, .slice a2 n2 d2, .string ⟨#[]⟩] 55)).block X1.out)
  have XO := hid (heap_alloc_new w2 (.cells #[.bool false, .string ⟨#[]⟩, .string s, .slice a1 n1 d1, .slice a2 n2 d2, .string ⟨#[]⟩] 55))
  have HE3 := hid (HE2.out.alloc (.cells #[.bool false, .string ⟨#[]⟩, .string s, .slice a1 n1 d1, .slice a2 n2 d2, .string ⟨#[]⟩] 55))
  have Q3 := hid (show Same (fun b => w1.heap.size ≤ b ∧ b < w2.heap.size) w2 (w2.alloc (.cells #[.bool false, .string ⟨#[]⟩, .string s, .slice a1 n1 d1, .slice a2 n2 d2, .string ⟨#[]⟩] 55)) from ((Ext.refl w2).alloc _).same _)
  generalize w2.alloc (.cells #[.bool false, .string ⟨#[]⟩, .string s, .slice a1 n1 d1, .slice a2 n2 d2, .string ⟨#[]⟩] 55) = w3 at *
  clear X0 X1 HE2 HX0 HX1 HE1
  obtain ⟨⟨x0, x1, x2, x3, x4, x5⟩, -⟩ := slot6 X0'.out
  obtain ⟨⟨y0, y1, y2, y3, y4, y5⟩, g0, g1, g2, g3, g4, g5⟩ := slot6 XO.out
  have cr := (cell_of_heap (HE3.out.block HRR.out) 0).trans rfl
  have hOR : ¬ w.heap.size + 1 = w2.heap.size := by have := HS2.out; omega
  have hOB : ¬ w.heap.size = w2.heap.size := by have := HS2.out; omega
  have G3 := hid (HG.out.mono Q3.out (S' := fun b => w1.heap.size ≤ b ∧ b < w2.heap.size) (fun _ h _ => h))
  go_upto_region 4 with fail
  go_upto_region 6 with fail
  change Code.wp _ _ _ _ (setL w3 w2.heap.size 5 [.string rel])
  obtain ⟨w8, hw⟩ : ∃ x, x = setL w3 w2.heap.size 5 [.string rel] := ⟨_, rfl⟩
  rw [← hw]
  have X0_0 := hid (show w8.heap[w.heap.size]? = some (.cells #[.pointer none, .pointer p1, .pointer p2, .pointer p3, .pointer (some ⟨rb, 0, none⟩), .bool false] 126) by rw [hw]; exact (setL_other hOB _).trans X0'.out)
  have X1_0 := hid (show w8.heap[w.heap.size + 1]? = some (.cells #[.bool false, .string ⟨#[]⟩, .string ⟨#[]⟩, .slice none 0 0, .slice none 0 0, .string ⟨#[]⟩] 55) by rw [hw]; exact (setL_other hOR _).trans X1'.out)
  have XO_0 := hid (show w8.heap[w2.heap.size]? = some (.cells #[.bool false, .string ⟨#[]⟩, .string s, .slice a1 n1 d1, .slice a2 n2 d2, .string rel] 55) by rw [hw]; have h := setL_heap [.string rel] [.bool false, .string ⟨#[]⟩, .string s, .slice a1 n1 d1, .slice a2 n2 d2] [.string ⟨#[]⟩] (show w3.heap[w2.heap.size]? = some (.cells (([.bool false, .string ⟨#[]⟩, .string s, .slice a1 n1 d1, .slice a2 n2 d2] : List Value) ++ ([.string ⟨#[]⟩] : List Value)).toArray 55) from XO.out) (by simp); simpa using h)
  have HE_0 := hid (show Ext w w8 by rw [hw]; exact setL_below HE3.out (by have := HS2.out; omega) _ _)
  have G_0 := hid (G3.out.mono (w' := w8) (S' := fun b => w1.heap.size ≤ b ∧ b < w2.heap.size) (fun b o hb ho => by rw [hw]; exact (setL_other (by obtain ⟨h1, h2⟩ := hb; omega) _).trans ho) (fun _ h _ => h))
  clear hw
  clear y0 y1 y2 y3 y4 y5 g0 g1 g2 g3 g4 g5
  obtain ⟨⟨y0, y1, y2, y3, y4, y5⟩, -⟩ := slot6 XO_0.out
  obtain ⟨⟨q0, q1, q2, q3, q4, q5⟩, p0, p1, p2, p3, p4, p5⟩ := slot6 X1_0.out
  go_wp2_with fail
  change bodyPost _ _ _ _ _ (set6 w8 (w.heap.size + 1) (.bool false) (.string ⟨#[]⟩) (.string s) (.slice a1 n1 d1) (.slice a2 n2 d2) (.string rel))
  have e6 := set6_heap X1_0.out (.bool false) (.string ⟨#[]⟩) (.string s) (.slice a1 n1 d1) (.slice a2 n2 d2) (.string rel)
  have x6 := set6_below HE_0.out (b := w.heap.size + 1) (by omega) (.bool false) (.string ⟨#[]⟩) (.string s) (.slice a1 n1 d1) (.slice a2 n2 d2) (.string rel)
  have g6 := G_0.out.mono (w' := set6 w8 (w.heap.size + 1) (.bool false) (.string ⟨#[]⟩) (.string s) (.slice a1 n1 d1) (.slice a2 n2 d2) (.string rel)) (S' := fun b => w.heap.size ≤ b) (fun b o hb ho => (set6_other (by obtain ⟨h1, h2⟩ := hb; have := HSZ.out; omega) (.bool false) (.string ⟨#[]⟩) (.string s) (.slice a1 n1 d1) (.slice a2 n2 d2) (.string rel)).trans ho) (fun b hb _ => by obtain ⟨h1, h2⟩ := hb; have := HSZ.out; omega)
  generalize set6 w8 (w.heap.size + 1) (.bool false) (.string ⟨#[]⟩) (.string s) (.slice a1 n1 d1) (.slice a2 n2 d2) (.string rel) = WF at *
  clear x0 x1 x2 x3 x4 x5
  obtain ⟨⟨x0, x1, x2, x3, x4, x5⟩, -⟩ := slot6 e6
  refine bodyPost_ret (v := .agg #[.bool false, .string ⟨#[]⟩, .string s, .slice a1 n1 d1, .slice a2 n2 d2, .string rel]) (by simp [results, Try.results107, go_sem, x0, x1, x2, x3, x4, x5]) rfl ⟨.ref false ⟨#[]⟩ ga rel, ([.bool false, .string ⟨#[]⟩, .string s, .slice a1 n1 d1, .slice a2 n2 d2, .string rel] : List Value), rfl, rfl, .refA _ _ _ _ _ HLK.out, .ref (by decide) HRZ.out HGT.out g6, x6⟩
theorem fromRef_of (g : GS) (hz : BackOK 80 2 zeroA) (ih : ∀ nm name a rel, g = .ref nm name a rel → BackOK 80 2 a) : BackOK 107 1 g := by
  intro ht w cs hR
  cases hR with
  | @refN name rel a nb rp hN hn h1 h2 hr =>
    rcases hr with ⟨h3, rfl⟩ | ⟨h3, rb, rfl, -, h4⟩
    · obtain rfl := size0 h3
      exact fromRef_N0 w nb name h1 hn hz a
    · exact fromRef_Nr w nb name h1 hn hz rel rb h2 h4 a
  | @refA name rel a c0 c1 c2 rp ht' ha h2 hr =>
    obtain ⟨p1, p2, p3, e⟩ := ha.formA ht'
    simp only [List.cons.injEq, and_true] at e
    obtain ⟨rfl, rfl, rfl⟩ := e
    rcases hr with ⟨h3, rfl⟩ | ⟨h3, rb, rfl, -, h4⟩
    · obtain rfl := size0 h3
      exact fromRef_A0 w name a p1 p2 p3 ht' ha (ih _ _ _ _ rfl)
    · exact fromRef_Ar w name a p1 p2 p3 ht' ha (ih _ _ _ _ rfl) rel rb h2 h4
  | _ => cases ht
end Go.Proofs.Ytempfaefopfobaa
