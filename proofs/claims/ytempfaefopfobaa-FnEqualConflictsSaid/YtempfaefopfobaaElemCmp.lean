/- ElemCmp: PathElement.Compare. -/
import Derived.Test.YtempfaefopfobaaElem
import Derived.Deep.QuietTactic
import Derived.BigQuiet
import Derived.StillTailTactics

set_option maxRecDepth 100000
namespace Go.Proofs.Ytempfaefopfobaa
open Go.ChangeShapes Go.WideShapes Go.ChangeAt Go.RowKit
set_option linter.unusedVariables false
set_option linter.unusedSimpArgs false

theorem icmp_eq0 (n : Int) : icmp n n = 0 := by unfold icmp; rw [if_neg (Int.lt_irrefl _), if_neg (Int.lt_irrefl _)]
def El.rank : El → Nat | .fld _ => 0 | .key _ => 1 | .val _ => 2 | .idx _ => 3
/-- how the package compares path elements -/
noncomputable def cmpE : El → El → Int
  | .fld a, .fld b => scmp a b
  | .key a, .key b => cmpFs cmpT a b
  | .val a, .val b => cmpT a b
  | .idx a, .idx b => icmp a b
  | a, b => if a.rank < b.rank then -1 else 1
theorem slot4 {W : World} {b : Nat} {c0 c1 c2 c3 : Value} {t : TypeId} (h : W.heap[b]? = some (.cells #[c0, c1, c2, c3] t)) :
    W.cell? ⟨b, 0, none⟩ = some c0 ∧ W.cell? ⟨b, 1, none⟩ = some c1 ∧ W.cell? ⟨b, 2, none⟩ = some c2 ∧ W.cell? ⟨b, 3, none⟩ = some c3 :=
  ⟨(cell_of_heap h 0).trans rfl, (cell_of_heap h 1).trans rfl, (cell_of_heap h 2).trans rfl, (cell_of_heap h 3).trans rfl⟩
theorem pec_01 (p op q oq : Nat) (w : World) : Calls Try.prog 92 #[.agg #[.pointer (some ⟨p, op, none⟩), .pointer none, .pointer none, .pointer none], .agg #[.pointer none, .pointer (some ⟨q, oq, none⟩), .pointer none, .pointer none]] w fun e w' => e = .returned (.int .i64 (-1)) ∧ Ext w w' := by
  go_enter Try.func92, Try.ntmps92
  go_upto_region 1 with fail
  obtain ⟨x1, x2, hEE⟩ := boxes2 w (.cells #[.pointer (some ⟨p, op, none⟩), .pointer none, .pointer none, .pointer none] 91) (.cells #[.pointer none, .pointer (some ⟨q, oq, none⟩), .pointer none, .pointer none] 91) _ (Below.refl _ _)
  generalize (w.alloc (.cells #[.pointer (some ⟨p, op, none⟩), .pointer none, .pointer none, .pointer none] 91)).alloc (.cells #[.pointer none, .pointer (some ⟨q, oq, none⟩), .pointer none, .pointer none] 91) = w1 at *
  have HE1 := hid hEE
  obtain ⟨z0, z1, z2, z3⟩ := slot4 x1
  obtain ⟨y0, y1, y2, y3⟩ := slot4 x2
  clear x1 x2 hEE
  go_wp2_with fail
  go_ret
  exact ⟨rfl, HE1.out⟩
theorem pec_02 (p op q oq : Nat) (w : World) : Calls Try.prog 92 #[.agg #[.pointer (some ⟨p, op, none⟩), .pointer none, .pointer none, .pointer none], .agg #[.pointer none, .pointer none, .pointer (some ⟨q, oq, none⟩), .pointer none]] w fun e w' => e = .returned (.int .i64 (-1)) ∧ Ext w w' := by
  go_enter Try.func92, Try.ntmps92
  go_upto_region 1 with fail
  obtain ⟨x1, x2, hEE⟩ := boxes2 w (.cells #[.pointer (some ⟨p, op, none⟩), .pointer none, .pointer none, .pointer none] 91) (.cells #[.pointer none, .pointer none, .pointer (some ⟨q, oq, none⟩), .pointer none] 91) _ (Below.refl _ _)
  generalize (w.alloc (.cells #[.pointer (some ⟨p, op, none⟩), .pointer none, .pointer none, .pointer none] 91)).alloc (.cells #[.pointer none, .pointer none, .pointer (some ⟨q, oq, none⟩), .pointer none] 91) = w1 at *
  have HE1 := hid hEE
  obtain ⟨z0, z1, z2, z3⟩ := slot4 x1
  obtain ⟨y0, y1, y2, y3⟩ := slot4 x2
  clear x1 x2 hEE
  go_wp2_with fail
  go_ret
  exact ⟨rfl, HE1.out⟩
theorem pec_03 (p op q oq : Nat) (w : World) : Calls Try.prog 92 #[.agg #[.pointer (some ⟨p, op, none⟩), .pointer none, .pointer none, .pointer none], .agg #[.pointer none, .pointer none, .pointer none, .pointer (some ⟨q, oq, none⟩)]] w fun e w' => e = .returned (.int .i64 (-1)) ∧ Ext w w' := by
  go_enter Try.func92, Try.ntmps92
  go_upto_region 1 with fail
  obtain ⟨x1, x2, hEE⟩ := boxes2 w (.cells #[.pointer (some ⟨p, op, none⟩), .pointer none, .pointer none, .pointer none] 91) (.cells #[.pointer none, .pointer none, .pointer none, .pointer (some ⟨q, oq, none⟩)] 91) _ (Below.refl _ _)
  generalize (w.alloc (.cells #[.pointer (some ⟨p, op, none⟩), .pointer none, .pointer none, .pointer none] 91)).alloc (.cells #[.pointer none, .pointer none, .pointer none, .pointer (some ⟨q, oq, none⟩)] 91) = w1 at *
  have HE1 := hid hEE
  obtain ⟨z0, z1, z2, z3⟩ := slot4 x1
  obtain ⟨y0, y1, y2, y3⟩ := slot4 x2
  clear x1 x2 hEE
  go_wp2_with fail
  go_ret
  exact ⟨rfl, HE1.out⟩
theorem pec_10 (p op q oq : Nat) (w : World) : Calls Try.prog 92 #[.agg #[.pointer none, .pointer (some ⟨p, op, none⟩), .pointer none, .pointer none], .agg #[.pointer (some ⟨q, oq, none⟩), .pointer none, .pointer none, .pointer none]] w fun e w' => e = .returned (.int .i64 (1)) ∧ Ext w w' := by
  go_enter Try.func92, Try.ntmps92
  go_upto_region 1 with fail
  obtain ⟨x1, x2, hEE⟩ := boxes2 w (.cells #[.pointer none, .pointer (some ⟨p, op, none⟩), .pointer none, .pointer none] 91) (.cells #[.pointer (some ⟨q, oq, none⟩), .pointer none, .pointer none, .pointer none] 91) _ (Below.refl _ _)
  generalize (w.alloc (.cells #[.pointer none, .pointer (some ⟨p, op, none⟩), .pointer none, .pointer none] 91)).alloc (.cells #[.pointer (some ⟨q, oq, none⟩), .pointer none, .pointer none, .pointer none] 91) = w1 at *
  have HE1 := hid hEE
  obtain ⟨z0, z1, z2, z3⟩ := slot4 x1
  obtain ⟨y0, y1, y2, y3⟩ := slot4 x2
  clear x1 x2 hEE
  go_wp2_with fail
  go_ret
  exact ⟨rfl, HE1.out⟩
theorem pec_12 (p op q oq : Nat) (w : World) : Calls Try.prog 92 #[.agg #[.pointer none, .pointer (some ⟨p, op, none⟩), .pointer none, .pointer none], .agg #[.pointer none, .pointer none, .pointer (some ⟨q, oq, none⟩), .pointer none]] w fun e w' => e = .returned (.int .i64 (-1)) ∧ Ext w w' := by
  go_enter Try.func92, Try.ntmps92
  go_upto_region 1 with fail
  obtain ⟨x1, x2, hEE⟩ := boxes2 w (.cells #[.pointer none, .pointer (some ⟨p, op, none⟩), .pointer none, .pointer none] 91) (.cells #[.pointer none, .pointer none, .pointer (some ⟨q, oq, none⟩), .pointer none] 91) _ (Below.refl _ _)
  generalize (w.alloc (.cells #[.pointer none, .pointer (some ⟨p, op, none⟩), .pointer none, .pointer none] 91)).alloc (.cells #[.pointer none, .pointer none, .pointer (some ⟨q, oq, none⟩), .pointer none] 91) = w1 at *
  have HE1 := hid hEE
  obtain ⟨z0, z1, z2, z3⟩ := slot4 x1
  obtain ⟨y0, y1, y2, y3⟩ := slot4 x2
  clear x1 x2 hEE
  go_wp2_with fail
  go_ret
  exact ⟨rfl, HE1.out⟩
theorem pec_13 (p op q oq : Nat) (w : World) : Calls Try.prog 92 #[.agg #[.pointer none, .pointer (some ⟨p, op, none⟩), .pointer none, .pointer none], .agg #[.pointer none, .pointer none, .pointer none, .pointer (some ⟨q, oq, none⟩)]] w fun e w' => e = .returned (.int .i64 (-1)) ∧ Ext w w' := by
  go_enter Try.func92, Try.ntmps92
  go_upto_region 1 with fail
  obtain ⟨x1, x2, hEE⟩ := boxes2 w (.cells #[.pointer none, .pointer (some ⟨p, op, none⟩), .pointer none, .pointer none] 91) (.cells #[.pointer none, .pointer none, .pointer none, .pointer (some ⟨q, oq, none⟩)] 91) _ (Below.refl _ _)
  generalize (w.alloc (.cells #[.pointer none, .pointer (some ⟨p, op, none⟩), .pointer none, .pointer none] 91)).alloc (.cells #[.pointer none, .pointer none, .pointer none, .pointer (some ⟨q, oq, none⟩)] 91) = w1 at *
  have HE1 := hid hEE
  obtain ⟨z0, z1, z2, z3⟩ := slot4 x1
  obtain ⟨y0, y1, y2, y3⟩ := slot4 x2
  clear x1 x2 hEE
  go_wp2_with fail
  go_ret
  exact ⟨rfl, HE1.out⟩
theorem pec_20 (p op q oq : Nat) (w : World) : Calls Try.prog 92 #[.agg #[.pointer none, .pointer none, .pointer (some ⟨p, op, none⟩), .pointer none], .agg #[.pointer (some ⟨q, oq, none⟩), .pointer none, .pointer none, .pointer none]] w fun e w' => e = .returned (.int .i64 (1)) ∧ Ext w w' := by
  go_enter Try.func92, Try.ntmps92
  go_upto_region 1 with fail
  obtain ⟨x1, x2, hEE⟩ := boxes2 w (.cells #[.pointer none, .pointer none, .pointer (some ⟨p, op, none⟩), .pointer none] 91) (.cells #[.pointer (some ⟨q, oq, none⟩), .pointer none, .pointer none, .pointer none] 91) _ (Below.refl _ _)
  generalize (w.alloc (.cells #[.pointer none, .pointer none, .pointer (some ⟨p, op, none⟩), .pointer none] 91)).alloc (.cells #[.pointer (some ⟨q, oq, none⟩), .pointer none, .pointer none, .pointer none] 91) = w1 at *
  have HE1 := hid hEE
  obtain ⟨z0, z1, z2, z3⟩ := slot4 x1
  obtain ⟨y0, y1, y2, y3⟩ := slot4 x2
  clear x1 x2 hEE
  go_wp2_with fail
  go_ret
  exact ⟨rfl, HE1.out⟩
theorem pec_21 (p op q oq : Nat) (w : World) : Calls Try.prog 92 #[.agg #[.pointer none, .pointer none, .pointer (some ⟨p, op, none⟩), .pointer none], .agg #[.pointer none, .pointer (some ⟨q, oq, none⟩), .pointer none, .pointer none]] w fun e w' => e = .returned (.int .i64 (1)) ∧ Ext w w' := by
  go_enter Try.func92, Try.ntmps92
  go_upto_region 1 with fail
  obtain ⟨x1, x2, hEE⟩ := boxes2 w (.cells #[.pointer none, .pointer none, .pointer (some ⟨p, op, none⟩), .pointer none] 91) (.cells #[.pointer none, .pointer (some ⟨q, oq, none⟩), .pointer none, .pointer none] 91) _ (Below.refl _ _)
  generalize (w.alloc (.cells #[.pointer none, .pointer none, .pointer (some ⟨p, op, none⟩), .pointer none] 91)).alloc (.cells #[.pointer none, .pointer (some ⟨q, oq, none⟩), .pointer none, .pointer none] 91) = w1 at *
  have HE1 := hid hEE
  obtain ⟨z0, z1, z2, z3⟩ := slot4 x1
  obtain ⟨y0, y1, y2, y3⟩ := slot4 x2
  clear x1 x2 hEE
  go_wp2_with fail
  go_ret
  exact ⟨rfl, HE1.out⟩
theorem pec_23 (p op q oq : Nat) (w : World) : Calls Try.prog 92 #[.agg #[.pointer none, .pointer none, .pointer (some ⟨p, op, none⟩), .pointer none], .agg #[.pointer none, .pointer none, .pointer none, .pointer (some ⟨q, oq, none⟩)]] w fun e w' => e = .returned (.int .i64 (-1)) ∧ Ext w w' := by
  go_enter Try.func92, Try.ntmps92
  go_upto_region 1 with fail
  obtain ⟨x1, x2, hEE⟩ := boxes2 w (.cells #[.pointer none, .pointer none, .pointer (some ⟨p, op, none⟩), .pointer none] 91) (.cells #[.pointer none, .pointer none, .pointer none, .pointer (some ⟨q, oq, none⟩)] 91) _ (Below.refl _ _)
  generalize (w.alloc (.cells #[.pointer none, .pointer none, .pointer (some ⟨p, op, none⟩), .pointer none] 91)).alloc (.cells #[.pointer none, .pointer none, .pointer none, .pointer (some ⟨q, oq, none⟩)] 91) = w1 at *
  have HE1 := hid hEE
  obtain ⟨z0, z1, z2, z3⟩ := slot4 x1
  obtain ⟨y0, y1, y2, y3⟩ := slot4 x2
  clear x1 x2 hEE
  go_wp2_with fail
  go_ret
  exact ⟨rfl, HE1.out⟩
theorem pec_30 (p op q oq : Nat) (w : World) : Calls Try.prog 92 #[.agg #[.pointer none, .pointer none, .pointer none, .pointer (some ⟨p, op, none⟩)], .agg #[.pointer (some ⟨q, oq, none⟩), .pointer none, .pointer none, .pointer none]] w fun e w' => e = .returned (.int .i64 (1)) ∧ Ext w w' := by
  go_enter Try.func92, Try.ntmps92
  go_upto_region 1 with fail
  obtain ⟨x1, x2, hEE⟩ := boxes2 w (.cells #[.pointer none, .pointer none, .pointer none, .pointer (some ⟨p, op, none⟩)] 91) (.cells #[.pointer (some ⟨q, oq, none⟩), .pointer none, .pointer none, .pointer none] 91) _ (Below.refl _ _)
  generalize (w.alloc (.cells #[.pointer none, .pointer none, .pointer none, .pointer (some ⟨p, op, none⟩)] 91)).alloc (.cells #[.pointer (some ⟨q, oq, none⟩), .pointer none, .pointer none, .pointer none] 91) = w1 at *
  have HE1 := hid hEE
  obtain ⟨z0, z1, z2, z3⟩ := slot4 x1
  obtain ⟨y0, y1, y2, y3⟩ := slot4 x2
  clear x1 x2 hEE
  go_wp2_with fail
  go_ret
  exact ⟨rfl, HE1.out⟩
theorem pec_31 (p op q oq : Nat) (w : World) : Calls Try.prog 92 #[.agg #[.pointer none, .pointer none, .pointer none, .pointer (some ⟨p, op, none⟩)], .agg #[.pointer none, .pointer (some ⟨q, oq, none⟩), .pointer none, .pointer none]] w fun e w' => e = .returned (.int .i64 (1)) ∧ Ext w w' := by
  go_enter Try.func92, Try.ntmps92
  go_upto_region 1 with fail
  obtain ⟨x1, x2, hEE⟩ := boxes2 w (.cells #[.pointer none, .pointer none, .pointer none, .pointer (some ⟨p, op, none⟩)] 91) (.cells #[.pointer none, .pointer (some ⟨q, oq, none⟩), .pointer none, .pointer none] 91) _ (Below.refl _ _)
  generalize (w.alloc (.cells #[.pointer none, .pointer none, .pointer none, .pointer (some ⟨p, op, none⟩)] 91)).alloc (.cells #[.pointer none, .pointer (some ⟨q, oq, none⟩), .pointer none, .pointer none] 91) = w1 at *
  have HE1 := hid hEE
  obtain ⟨z0, z1, z2, z3⟩ := slot4 x1
  obtain ⟨y0, y1, y2, y3⟩ := slot4 x2
  clear x1 x2 hEE
  go_wp2_with fail
  go_ret
  exact ⟨rfl, HE1.out⟩
theorem pec_32 (p op q oq : Nat) (w : World) : Calls Try.prog 92 #[.agg #[.pointer none, .pointer none, .pointer none, .pointer (some ⟨p, op, none⟩)], .agg #[.pointer none, .pointer none, .pointer (some ⟨q, oq, none⟩), .pointer none]] w fun e w' => e = .returned (.int .i64 (1)) ∧ Ext w w' := by
  go_enter Try.func92, Try.ntmps92
  go_upto_region 1 with fail
  obtain ⟨x1, x2, hEE⟩ := boxes2 w (.cells #[.pointer none, .pointer none, .pointer none, .pointer (some ⟨p, op, none⟩)] 91) (.cells #[.pointer none, .pointer none, .pointer (some ⟨q, oq, none⟩), .pointer none] 91) _ (Below.refl _ _)
  generalize (w.alloc (.cells #[.pointer none, .pointer none, .pointer none, .pointer (some ⟨p, op, none⟩)] 91)).alloc (.cells #[.pointer none, .pointer none, .pointer (some ⟨q, oq, none⟩), .pointer none] 91) = w1 at *
  have HE1 := hid hEE
  obtain ⟨z0, z1, z2, z3⟩ := slot4 x1
  obtain ⟨y0, y1, y2, y3⟩ := slot4 x2
  clear x1 x2 hEE
  go_wp2_with fail
  go_ret
  exact ⟨rfl, HE1.out⟩
theorem pec_00 (p op q oq : Nat) (w : World) (s s' : ByteArray) (hp : w.cell? ⟨p, op, none⟩ = some (.string s)) (hq : w.cell? ⟨q, oq, none⟩ = some (.string s')) :
    Calls Try.prog 92 #[.agg #[.pointer (some ⟨p, op, none⟩), .pointer none, .pointer none, .pointer none], .agg #[.pointer (some ⟨q, oq, none⟩), .pointer none, .pointer none, .pointer none]] w fun e w' => e = .returned (.int .i64 (scmp s s')) ∧ Ext w w' := by
  have HP := hid hp
  have HQ := hid hq
  clear hp hq
  go_enter Try.func92, Try.ntmps92
  go_upto_region 1 with fail
  obtain ⟨x1, x2, hEE⟩ := boxes2 w (.cells #[.pointer (some ⟨p, op, none⟩), .pointer none, .pointer none, .pointer none] 91) (.cells #[.pointer (some ⟨q, oq, none⟩), .pointer none, .pointer none, .pointer none] 91) _ (Below.refl _ _)
  generalize (w.alloc (.cells #[.pointer (some ⟨p, op, none⟩), .pointer none, .pointer none, .pointer none] 91)).alloc (.cells #[.pointer (some ⟨q, oq, none⟩), .pointer none, .pointer none, .pointer none] 91) = w1 at *
  have HE1 := hid hEE
  obtain ⟨z0, z1, z2, z3⟩ := slot4 x1
  obtain ⟨y0, y1, y2, y3⟩ := slot4 x2
  clear x1 x2 hEE
  have j1 := HE1.out.cellS HP.out
  have j2 := HE1.out.cellS HQ.out
  go_wp2_with fail
  go_still_tail 8, (by kernel_rfl)
  change wpList _ _ _ _ _ w1.drew
  go_wp2_with (go_at_call 114; refine (strcmp_any s s' _).mono ?_; rintro e w2 ⟨rfl, rfl⟩)
  go_ret
  exact ⟨rfl, HE1.out.drew⟩
theorem pec_11 (p op q oq : Nat) (w : World) (v v' : Value) (a b : List (ByteArray × Tree)) (h1 : RepFs Any w v a) (h2 : RepFs Any w v' b) (hp : w.cell? ⟨p, op, none⟩ = some (v)) (hq : w.cell? ⟨q, oq, none⟩ = some (v')) :
    Calls Try.prog 92 #[.agg #[.pointer none, .pointer (some ⟨p, op, none⟩), .pointer none, .pointer none], .agg #[.pointer none, .pointer (some ⟨q, oq, none⟩), .pointer none, .pointer none]] w fun e w' => e = .returned (.int .i64 (cmpFs cmpT a b)) ∧ Ext w w' := by
  have H1 := hid h1
  have H2 := hid h2
  obtain ⟨va, vb, vo, vc, rfl, -⟩ := h1
  obtain ⟨va', vb', vo', vc', rfl, -⟩ := h2
  have HP := hid hp
  have HQ := hid hq
  clear hp hq
  go_enter Try.func92, Try.ntmps92
  go_upto_region 1 with fail
  obtain ⟨x1, x2, hEE⟩ := boxes2 w (.cells #[.pointer none, .pointer (some ⟨p, op, none⟩), .pointer none, .pointer none] 91) (.cells #[.pointer none, .pointer (some ⟨q, oq, none⟩), .pointer none, .pointer none] 91) _ (Below.refl _ _)
  generalize (w.alloc (.cells #[.pointer none, .pointer (some ⟨p, op, none⟩), .pointer none, .pointer none] 91)).alloc (.cells #[.pointer none, .pointer (some ⟨q, oq, none⟩), .pointer none, .pointer none] 91) = w1 at *
  have HE1 := hid hEE
  obtain ⟨z0, z1, z2, z3⟩ := slot4 x1
  obtain ⟨y0, y1, y2, y3⟩ := slot4 x2
  clear x1 x2 hEE
  have j1 := HE1.out.cellS HP.out
  have j2 := HE1.out.cellS HQ.out
  go_wp2_with fail
  go_still_tail 8, (by kernel_rfl)
  change wpList _ _ _ _ _ w1.drew
  go_wp2_with (go_at_call 115; refine (flc_any a b _ _ _ (H1.out.ext HE1.out.drew) (H2.out.ext HE1.out.drew)).mono ?_; rintro e w2 ⟨rfl, hE⟩; have HE2 := hid (HE1.out.drew.trans hE); clear hE)
  go_ret
  exact ⟨rfl, HE2.out⟩
theorem pec_22 (p op q oq : Nat) (w : World) (x x' : Value) (a b : Tree) (h1 : RepVal Any w a x) (h2 : RepVal Any w b x') (hp : w.cell? ⟨p, op, none⟩ = some (x)) (hq : w.cell? ⟨q, oq, none⟩ = some (x')) :
    Calls Try.prog 92 #[.agg #[.pointer none, .pointer none, .pointer (some ⟨p, op, none⟩), .pointer none], .agg #[.pointer none, .pointer none, .pointer (some ⟨q, oq, none⟩), .pointer none]] w fun e w' => e = .returned (.int .i64 (cmpT a b)) ∧ Ext w w' := by
  have H1 := hid h1
  have H2 := hid h2
  obtain ⟨vb, vv, rfl, -⟩ := h1
  obtain ⟨vb', vv', rfl, -⟩ := h2
  have HP := hid hp
  have HQ := hid hq
  clear hp hq
  go_enter Try.func92, Try.ntmps92
  go_upto_region 1 with fail
  obtain ⟨x1, x2, hEE⟩ := boxes2 w (.cells #[.pointer none, .pointer none, .pointer (some ⟨p, op, none⟩), .pointer none] 91) (.cells #[.pointer none, .pointer none, .pointer (some ⟨q, oq, none⟩), .pointer none] 91) _ (Below.refl _ _)
  generalize (w.alloc (.cells #[.pointer none, .pointer none, .pointer (some ⟨p, op, none⟩), .pointer none] 91)).alloc (.cells #[.pointer none, .pointer none, .pointer (some ⟨q, oq, none⟩), .pointer none] 91) = w1 at *
  have HE1 := hid hEE
  obtain ⟨z0, z1, z2, z3⟩ := slot4 x1
  obtain ⟨y0, y1, y2, y3⟩ := slot4 x2
  clear x1 x2 hEE
  have j1 := HE1.out.cellS HP.out
  have j2 := HE1.out.cellS HQ.out
  go_wp2_with fail
  go_still_tail 8, (by kernel_rfl)
  change wpList _ _ _ _ _ w1.drew
  go_wp2_with (go_at_call 116; refine (Compare_of a b _ (cmpU a b) _ _ _ (H1.out.ext HE1.out.drew) (H2.out.ext HE1.out.drew)).mono ?_; rintro e w2 ⟨rfl, hE⟩; have HE2 := hid (HE1.out.drew.trans hE); clear hE)
  go_ret
  exact ⟨rfl, HE2.out⟩
theorem pec_33lt (p op q oq : Nat) (w : World) (n n' : Int) (h : n < n') (hp : w.cell? ⟨p, op, none⟩ = some (.int .i64 n)) (hq : w.cell? ⟨q, oq, none⟩ = some (.int .i64 n')) :
    Calls Try.prog 92 #[.agg #[.pointer none, .pointer none, .pointer none, .pointer (some ⟨p, op, none⟩)], .agg #[.pointer none, .pointer none, .pointer none, .pointer (some ⟨q, oq, none⟩)]] w fun e w' => e = .returned (.int .i64 (-1)) ∧ Ext w w' := by
  have HP := hid hp
  have HQ := hid hq
  clear hp hq
  have g1 : n < n' := h
  go_enter Try.func92, Try.ntmps92
  go_upto_region 1 with fail
  obtain ⟨x1, x2, hEE⟩ := boxes2 w (.cells #[.pointer none, .pointer none, .pointer none, .pointer (some ⟨p, op, none⟩)] 91) (.cells #[.pointer none, .pointer none, .pointer none, .pointer (some ⟨q, oq, none⟩)] 91) _ (Below.refl _ _)
  generalize (w.alloc (.cells #[.pointer none, .pointer none, .pointer none, .pointer (some ⟨p, op, none⟩)] 91)).alloc (.cells #[.pointer none, .pointer none, .pointer none, .pointer (some ⟨q, oq, none⟩)] 91) = w1 at *
  have HE1 := hid hEE
  obtain ⟨z0, z1, z2, z3⟩ := slot4 x1
  obtain ⟨y0, y1, y2, y3⟩ := slot4 x2
  clear x1 x2 hEE
  have j1 := HE1.out.cellS HP.out
  have j2 := HE1.out.cellS HQ.out
  go_wp2_with fail
  go_quiet (fail)
  go_wp2_with fail
  go_ret
  exact ⟨rfl, HE1.out.drewN _⟩
theorem pec_33eq (p op q oq : Nat) (w : World) (n n' : Int) (h : n = n') (hp : w.cell? ⟨p, op, none⟩ = some (.int .i64 n)) (hq : w.cell? ⟨q, oq, none⟩ = some (.int .i64 n')) :
    Calls Try.prog 92 #[.agg #[.pointer none, .pointer none, .pointer none, .pointer (some ⟨p, op, none⟩)], .agg #[.pointer none, .pointer none, .pointer none, .pointer (some ⟨q, oq, none⟩)]] w fun e w' => e = .returned (.int .i64 (0)) ∧ Ext w w' := by
  have HP := hid hp
  have HQ := hid hq
  clear hp hq
  subst h
  have g1 : ¬ n < n := Int.lt_irrefl _
  go_enter Try.func92, Try.ntmps92
  go_upto_region 1 with fail
  obtain ⟨x1, x2, hEE⟩ := boxes2 w (.cells #[.pointer none, .pointer none, .pointer none, .pointer (some ⟨p, op, none⟩)] 91) (.cells #[.pointer none, .pointer none, .pointer none, .pointer (some ⟨q, oq, none⟩)] 91) _ (Below.refl _ _)
  generalize (w.alloc (.cells #[.pointer none, .pointer none, .pointer none, .pointer (some ⟨p, op, none⟩)] 91)).alloc (.cells #[.pointer none, .pointer none, .pointer none, .pointer (some ⟨q, oq, none⟩)] 91) = w1 at *
  have HE1 := hid hEE
  obtain ⟨z0, z1, z2, z3⟩ := slot4 x1
  obtain ⟨y0, y1, y2, y3⟩ := slot4 x2
  clear x1 x2 hEE
  have j1 := HE1.out.cellS HP.out
  have j2 := HE1.out.cellS HQ.out
  go_wp2_with fail
  go_quiet (fail)
  go_wp2_with fail
  go_quiet (fail)
  go_wp2_with fail
  go_ret
  exact ⟨rfl, (HE1.out.drewN _).drewN _⟩
theorem pec_33gt (p op q oq : Nat) (w : World) (n n' : Int) (h : n' < n) (hp : w.cell? ⟨p, op, none⟩ = some (.int .i64 n)) (hq : w.cell? ⟨q, oq, none⟩ = some (.int .i64 n')) :
    Calls Try.prog 92 #[.agg #[.pointer none, .pointer none, .pointer none, .pointer (some ⟨p, op, none⟩)], .agg #[.pointer none, .pointer none, .pointer none, .pointer (some ⟨q, oq, none⟩)]] w fun e w' => e = .returned (.int .i64 (1)) ∧ Ext w w' := by
  have HP := hid hp
  have HQ := hid hq
  clear hp hq
  have g1 : ¬ n < n' := by omega
  have g2 : (n == n') = false := by rw [beq_eq_false_iff_ne]; omega
  go_enter Try.func92, Try.ntmps92
  go_upto_region 1 with fail
  obtain ⟨x1, x2, hEE⟩ := boxes2 w (.cells #[.pointer none, .pointer none, .pointer none, .pointer (some ⟨p, op, none⟩)] 91) (.cells #[.pointer none, .pointer none, .pointer none, .pointer (some ⟨q, oq, none⟩)] 91) _ (Below.refl _ _)
  generalize (w.alloc (.cells #[.pointer none, .pointer none, .pointer none, .pointer (some ⟨p, op, none⟩)] 91)).alloc (.cells #[.pointer none, .pointer none, .pointer none, .pointer (some ⟨q, oq, none⟩)] 91) = w1 at *
  have HE1 := hid hEE
  obtain ⟨z0, z1, z2, z3⟩ := slot4 x1
  obtain ⟨y0, y1, y2, y3⟩ := slot4 x2
  clear x1 x2 hEE
  have j1 := HE1.out.cellS HP.out
  have j2 := HE1.out.cellS HQ.out
  go_wp2_with fail
  go_quiet (fail)
  go_wp2_with fail
  go_quiet (fail)
  go_wp2_with fail
  go_ret
  exact ⟨rfl, (HE1.out.drewN _).drewN _⟩
theorem pec_any (e1 e2 : El) (c1 c2 : List Value) (w : World) (h1 : RepEl Any w e1 c1) (h2 : RepEl Any w e2 c2) :
    Calls Try.prog 92 #[.agg c1.toArray, .agg c2.toArray] w fun e w' => e = .returned (.int .i64 (cmpE e1 e2)) ∧ Ext w w' := by
  obtain ⟨b1, o1, -, r1⟩ := h1
  obtain ⟨b2, o2, -, r2⟩ := h2
  cases e1 <;> cases e2 <;> obtain ⟨rfl, r1⟩ := r1 <;> obtain ⟨rfl, r2⟩ := r2
  · exact pec_00 _ _ _ _ w _ _ r1.1 r2.1
  · exact pec_01 _ _ _ _ w
  · exact pec_02 _ _ _ _ w
  · exact pec_03 _ _ _ _ w
  · exact pec_10 _ _ _ _ w
  · obtain ⟨v, k1, k2⟩ := r1
    obtain ⟨v', k1', k2'⟩ := r2
    exact pec_11 _ _ _ _ w _ _ _ _ k2 k2' k1 k1'
  · exact pec_12 _ _ _ _ w
  · exact pec_13 _ _ _ _ w
  · exact pec_20 _ _ _ _ w
  · exact pec_21 _ _ _ _ w
  · obtain ⟨v, k1, k2⟩ := r1
    obtain ⟨v', k1', k2'⟩ := r2
    exact pec_22 _ _ _ _ w _ _ _ _ k2 k2' k1 k1'
  · exact pec_23 _ _ _ _ w
  · exact pec_30 _ _ _ _ w
  · exact pec_31 _ _ _ _ w
  · exact pec_32 _ _ _ _ w
  · rename_i n n'
    rcases Int.lt_trichotomy n n' with h | h | h
    · rw [show cmpE (.idx n) (.idx n') = -1 by show icmp n n' = -1; unfold icmp; rw [if_pos h]]
      exact pec_33lt _ _ _ _ w n n' h r1.1 r2.1
    · rw [show cmpE (.idx n) (.idx n') = 0 by show icmp n n' = 0; rw [h]; exact icmp_eq0 n']
      exact pec_33eq _ _ _ _ w n n' h r1.1 r2.1
    · rw [show cmpE (.idx n) (.idx n') = 1 by show icmp n n' = 1; unfold icmp; rw [if_neg (by omega), if_pos h]]
      exact pec_33gt _ _ _ _ w n n' h r1.1 r2.1
end Go.Proofs.Ytempfaefopfobaa
