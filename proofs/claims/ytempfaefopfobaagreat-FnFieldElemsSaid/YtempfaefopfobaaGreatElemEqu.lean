/- ElemEqu: FieldList.Equals, PathElement.Equals, impl.EqualElems. -/
import Derived.Test.YtempfaefopfobaaGreatElemOf
import Derived.Test.YtempfaefopfobaaGreatEquAll
import Derived.Deep.QuietTactic
import Derived.BigQuiet
import Derived.StillTailTactics

set_option maxRecDepth 100000
namespace Go.Proofs.YtempfaefopfobaaGreat
open Go.ChangeShapes Go.WideShapes Go.ChangeAt Go.RowKit
set_option linter.unusedVariables false
set_option linter.unusedSimpArgs false

/-- two lists of fields are alike in pairs -/
noncomputable def eqFs (z : Tree → Tree → Bool) : List (ByteArray × Tree) → List (ByteArray × Tree) → Bool
  | [], [] => true
  | p :: x, q :: y => decide (p.1 = q.1) && (z p.2 q.2 && eqFs z x y)
  | _, _ => false
theorem eqFs_step {z : Tree → Tree → Bool} {l1 l2 : List (ByteArray × Tree)} {k : Nat} {p q : ByteArray × Tree} (h1 : l1[k]? = some p) (h2 : l2[k]? = some q) :
    eqFs z (l1.drop k) (l2.drop k) = (decide (p.1 = q.1) && (z p.2 q.2 && eqFs z (l1.drop (k + 1)) (l2.drop (k + 1)))) := by
  obtain ⟨h3, rfl⟩ := List.getElem?_eq_some_iff.1 h1
  obtain ⟨h4, rfl⟩ := List.getElem?_eq_some_iff.1 h2
  rw [List.drop_eq_getElem_cons h3, List.drop_eq_getElem_cons h4]
  rfl
theorem eqFs_len {z : Tree → Tree → Bool} : ∀ {l1 l2 : List (ByteArray × Tree)}, l1.length ≠ l2.length → eqFs z l1 l2 = false
  | [], [], h => absurd rfl h
  | [], _ :: _, _ => rfl
  | _ :: _, [], _ => rfl
  | p :: x, q :: y, h => by
    unfold eqFs
    rw [eqFs_len (l1 := x) (l2 := y) (by simpa using h), Bool.and_false, Bool.and_false]
/-- how the package holds path elements equal -/
noncomputable def eqE : El → El → Bool
  | .fld a, .fld b => decide (a = b)
  | .key a, .key b => eqFs eqT a b
  | .val a, .val b => eqT a b
  | .idx a, .idx b => decide (a = b)
  | _, _ => false
set_option maxHeartbeats 4000000 in
theorem fle_any (a b : List (ByteArray × Tree)) (v1 v2 : Value) (w : World) (h1 : RepFs Any w v1 a) (h2 : RepFs Any w v2 b) :
    Calls Tryz.prog 32 #[v1, v2] w fun e w' => e = .returned (.bool (eqFs eqT a b)) ∧ Ext w w' := by
  obtain ⟨a1, b1, o1, c1, rfl, l1, s1, p1, at1⟩ := h1
  obtain ⟨a2, b2, o2, c2, rfl, l2, s2, p2, at2⟩ := h2
  by_cases hlen : a.length = b.length
  · have HP1 := hid p1
    have HP2 := hid p2
    have HA1 := hid at1
    have HA2 := hid at2
    have HLN := hid hlen
    clear p1 p2 at1 at2
    rw [← hlen] at HP2 ⊢
    clear hlen
    go_enter Tryz.func32, Tryz.ntmps32
    go_wp2_with fail
    go_loopw [13] (fun i wr => ∃ k : Nat, i = .int .i64 k ∧ k ≤ a.length ∧ Hid (eqFs eqT (a.drop k) (b.drop k) = eqFs eqT a b) ∧ Hid (Ext w wr)) (fun i _ => a.length - (intOf i).toNat)
    case atStart => exact ⟨0, rfl, Nat.zero_le _, hid rfl, hid (Ext.refl _)⟩
    case round =>
      obtain ⟨k, rfl, hk1, HC, HE⟩ := hrel
      by_cases h1 : k < a.length
      · obtain ⟨p, hp⟩ : ∃ p, a[k]? = some p := ⟨_, List.getElem?_eq_getElem h1⟩
        obtain ⟨q, hq⟩ : ∃ q, b[k]? = some q := ⟨_, List.getElem?_eq_getElem (by have := HLN.out; omega)⟩
        obtain ⟨rfl, -⟩ := HP1.out (by omega)
        obtain ⟨rfl, -⟩ := HP2.out (by omega)
        obtain ⟨-, kc1, x1, kx1, hv1⟩ := HA1.out k p hp
        obtain ⟨-, kc2, x2, kx2, hv2⟩ := HA2.out k q hq
        have j1 := HE.out.cellS kc1
        have j2 := HE.out.cellS kc2
        have j3 := HE.out.cellS kx1
        have j4 := HE.out.cellS kx2
        have KX1 := hid kx1
        have KX2 := hid kx2
        have hst := eqFs_step (z := eqT) hp hq
        rw [HC.out] at hst
        obtain ⟨z, hz⟩ : ∃ z, eqT p.2 q.2 = z := ⟨_, rfl⟩
        have HCU := hid (fun W (E : Ext w W) => Equals_of p.2 q.2 _ (equU p.2 q.2) x1 x2 W (hv1.ext E) (hv2.ext E))
        rw [hz] at HCU hst
        have HST := hid hst
        have hi0 : (0 : Int) ≤ (k : Int) := by omega
        have hi1 : (k : Int) < (a.length : Int) := by omega
        clear hst hp hq kc1 kc2 kx1 kx2 hv1 hv2 hz
        by_cases hn : p.1 = q.1
        · have HN := hid hn
          have hne : (p.1.toList == q.1.toList) = true := by rw [ba_toList_beq, decide_eq_true hn]
          clear hn
          cases z
          all_goals
            go_wp2_with fail
            go_quiet (fail)
            go_wp2_with fail
            have k3 := (HE.out.drewN nq).cellS KX1.out
            have k4 := (HE.out.drewN nq).cellS KX2.out
            have HEQ := hid (HE.out.drewN nq)
            clear j1 j2 j3 j4
            generalize wr.drewN nq = w5 at *
            go_still_tail 10, (by kernel_rfl)
            change wpList _ _ _ _ _ w5.drew
            go_wp2_with (go_at_call 33; refine (HCU.out _ HEQ.out.drew).mono ?_; rintro e w3 ⟨rfl, hE⟩; have HE3 := hid (HEQ.out.drew.trans hE); clear hE)
          · go_ret
            exact ⟨congrArg (fun z => Ending.returned (.bool z)) (show false = eqFs eqT a b by rw [HST.out]; simp), HE3.out⟩
          · exact ⟨⟨k + 1, by go_num, by omega, hid (by rw [HST.out, decide_eq_true HN.out]; simp), HE3⟩, by simp [intOf]; omega⟩
        · have hne : (p.1.toList == q.1.toList) = false := by rw [ba_toList_beq, decide_eq_false hn]
          have RES := hid (show false = eqFs eqT a b by rw [HST.out, decide_eq_false hn]; rfl)
          clear hn
          go_wp2_with fail
          go_quiet (fail)
          go_wp2_with fail
          go_ret
          exact ⟨congrArg (fun z => Ending.returned (.bool z)) RES.out, HE.out.drewN _⟩
      · have RES := hid (show true = eqFs eqT a b by rw [← HC.out, List.drop_eq_nil_of_le (by omega), List.drop_eq_nil_of_le (by have := HLN.out; omega)]; rfl)
        go_wp2_with fail
        go_ret
        exact ⟨congrArg (fun z => Ending.returned (.bool z)) RES.out, HE.out⟩
  · have hd : ((a.length : Int) != (b.length : Int)) = true := by simp; omega
    rw [eqFs_len hlen]
    clear p1 p2 at1 at2
    go_enter Tryz.func32, Tryz.ntmps32
    go_wp2_with fail
    go_ret
    exact ⟨rfl, Ext.refl w⟩
theorem pee_01 (p op q oq : Nat) (w : World) : Calls Tryz.prog 19 #[.agg #[.pointer (some ⟨p, op, none⟩), .pointer none, .pointer none, .pointer none], .agg #[.pointer none, .pointer (some ⟨q, oq, none⟩), .pointer none, .pointer none]] w fun e w' => e = .returned (.bool false) ∧ Ext w w' := by
  go_enter Tryz.func19, Tryz.ntmps19
  go_upto_region 1 with fail
  obtain ⟨x1, x2, hEE⟩ := boxes2 w (.cells #[.pointer (some ⟨p, op, none⟩), .pointer none, .pointer none, .pointer none] 45) (.cells #[.pointer none, .pointer (some ⟨q, oq, none⟩), .pointer none, .pointer none] 45) _ (Below.refl _ _)
  generalize (w.alloc (.cells #[.pointer (some ⟨p, op, none⟩), .pointer none, .pointer none, .pointer none] 45)).alloc (.cells #[.pointer none, .pointer (some ⟨q, oq, none⟩), .pointer none, .pointer none] 45) = w1 at *
  have HE1 := hid hEE
  obtain ⟨z0, z1, z2, z3⟩ := slot4 x1
  obtain ⟨y0, y1, y2, y3⟩ := slot4 x2
  clear x1 x2 hEE
  go_wp2_with fail
  go_ret
  exact ⟨rfl, HE1.out⟩
theorem pee_02 (p op q oq : Nat) (w : World) : Calls Tryz.prog 19 #[.agg #[.pointer (some ⟨p, op, none⟩), .pointer none, .pointer none, .pointer none], .agg #[.pointer none, .pointer none, .pointer (some ⟨q, oq, none⟩), .pointer none]] w fun e w' => e = .returned (.bool false) ∧ Ext w w' := by
  go_enter Tryz.func19, Tryz.ntmps19
  go_upto_region 1 with fail
  obtain ⟨x1, x2, hEE⟩ := boxes2 w (.cells #[.pointer (some ⟨p, op, none⟩), .pointer none, .pointer none, .pointer none] 45) (.cells #[.pointer none, .pointer none, .pointer (some ⟨q, oq, none⟩), .pointer none] 45) _ (Below.refl _ _)
  generalize (w.alloc (.cells #[.pointer (some ⟨p, op, none⟩), .pointer none, .pointer none, .pointer none] 45)).alloc (.cells #[.pointer none, .pointer none, .pointer (some ⟨q, oq, none⟩), .pointer none] 45) = w1 at *
  have HE1 := hid hEE
  obtain ⟨z0, z1, z2, z3⟩ := slot4 x1
  obtain ⟨y0, y1, y2, y3⟩ := slot4 x2
  clear x1 x2 hEE
  go_wp2_with fail
  go_ret
  exact ⟨rfl, HE1.out⟩
theorem pee_03 (p op q oq : Nat) (w : World) : Calls Tryz.prog 19 #[.agg #[.pointer (some ⟨p, op, none⟩), .pointer none, .pointer none, .pointer none], .agg #[.pointer none, .pointer none, .pointer none, .pointer (some ⟨q, oq, none⟩)]] w fun e w' => e = .returned (.bool false) ∧ Ext w w' := by
  go_enter Tryz.func19, Tryz.ntmps19
  go_upto_region 1 with fail
  obtain ⟨x1, x2, hEE⟩ := boxes2 w (.cells #[.pointer (some ⟨p, op, none⟩), .pointer none, .pointer none, .pointer none] 45) (.cells #[.pointer none, .pointer none, .pointer none, .pointer (some ⟨q, oq, none⟩)] 45) _ (Below.refl _ _)
  generalize (w.alloc (.cells #[.pointer (some ⟨p, op, none⟩), .pointer none, .pointer none, .pointer none] 45)).alloc (.cells #[.pointer none, .pointer none, .pointer none, .pointer (some ⟨q, oq, none⟩)] 45) = w1 at *
  have HE1 := hid hEE
  obtain ⟨z0, z1, z2, z3⟩ := slot4 x1
  obtain ⟨y0, y1, y2, y3⟩ := slot4 x2
  clear x1 x2 hEE
  go_wp2_with fail
  go_ret
  exact ⟨rfl, HE1.out⟩
theorem pee_10 (p op q oq : Nat) (w : World) : Calls Tryz.prog 19 #[.agg #[.pointer none, .pointer (some ⟨p, op, none⟩), .pointer none, .pointer none], .agg #[.pointer (some ⟨q, oq, none⟩), .pointer none, .pointer none, .pointer none]] w fun e w' => e = .returned (.bool false) ∧ Ext w w' := by
  go_enter Tryz.func19, Tryz.ntmps19
  go_upto_region 1 with fail
  obtain ⟨x1, x2, hEE⟩ := boxes2 w (.cells #[.pointer none, .pointer (some ⟨p, op, none⟩), .pointer none, .pointer none] 45) (.cells #[.pointer (some ⟨q, oq, none⟩), .pointer none, .pointer none, .pointer none] 45) _ (Below.refl _ _)
  generalize (w.alloc (.cells #[.pointer none, .pointer (some ⟨p, op, none⟩), .pointer none, .pointer none] 45)).alloc (.cells #[.pointer (some ⟨q, oq, none⟩), .pointer none, .pointer none, .pointer none] 45) = w1 at *
  have HE1 := hid hEE
  obtain ⟨z0, z1, z2, z3⟩ := slot4 x1
  obtain ⟨y0, y1, y2, y3⟩ := slot4 x2
  clear x1 x2 hEE
  go_wp2_with fail
  go_ret
  exact ⟨rfl, HE1.out⟩
theorem pee_12 (p op q oq : Nat) (w : World) : Calls Tryz.prog 19 #[.agg #[.pointer none, .pointer (some ⟨p, op, none⟩), .pointer none, .pointer none], .agg #[.pointer none, .pointer none, .pointer (some ⟨q, oq, none⟩), .pointer none]] w fun e w' => e = .returned (.bool false) ∧ Ext w w' := by
  go_enter Tryz.func19, Tryz.ntmps19
  go_upto_region 1 with fail
  obtain ⟨x1, x2, hEE⟩ := boxes2 w (.cells #[.pointer none, .pointer (some ⟨p, op, none⟩), .pointer none, .pointer none] 45) (.cells #[.pointer none, .pointer none, .pointer (some ⟨q, oq, none⟩), .pointer none] 45) _ (Below.refl _ _)
  generalize (w.alloc (.cells #[.pointer none, .pointer (some ⟨p, op, none⟩), .pointer none, .pointer none] 45)).alloc (.cells #[.pointer none, .pointer none, .pointer (some ⟨q, oq, none⟩), .pointer none] 45) = w1 at *
  have HE1 := hid hEE
  obtain ⟨z0, z1, z2, z3⟩ := slot4 x1
  obtain ⟨y0, y1, y2, y3⟩ := slot4 x2
  clear x1 x2 hEE
  go_wp2_with fail
  go_ret
  exact ⟨rfl, HE1.out⟩
theorem pee_13 (p op q oq : Nat) (w : World) : Calls Tryz.prog 19 #[.agg #[.pointer none, .pointer (some ⟨p, op, none⟩), .pointer none, .pointer none], .agg #[.pointer none, .pointer none, .pointer none, .pointer (some ⟨q, oq, none⟩)]] w fun e w' => e = .returned (.bool false) ∧ Ext w w' := by
  go_enter Tryz.func19, Tryz.ntmps19
  go_upto_region 1 with fail
  obtain ⟨x1, x2, hEE⟩ := boxes2 w (.cells #[.pointer none, .pointer (some ⟨p, op, none⟩), .pointer none, .pointer none] 45) (.cells #[.pointer none, .pointer none, .pointer none, .pointer (some ⟨q, oq, none⟩)] 45) _ (Below.refl _ _)
  generalize (w.alloc (.cells #[.pointer none, .pointer (some ⟨p, op, none⟩), .pointer none, .pointer none] 45)).alloc (.cells #[.pointer none, .pointer none, .pointer none, .pointer (some ⟨q, oq, none⟩)] 45) = w1 at *
  have HE1 := hid hEE
  obtain ⟨z0, z1, z2, z3⟩ := slot4 x1
  obtain ⟨y0, y1, y2, y3⟩ := slot4 x2
  clear x1 x2 hEE
  go_wp2_with fail
  go_ret
  exact ⟨rfl, HE1.out⟩
theorem pee_20 (p op q oq : Nat) (w : World) : Calls Tryz.prog 19 #[.agg #[.pointer none, .pointer none, .pointer (some ⟨p, op, none⟩), .pointer none], .agg #[.pointer (some ⟨q, oq, none⟩), .pointer none, .pointer none, .pointer none]] w fun e w' => e = .returned (.bool false) ∧ Ext w w' := by
  go_enter Tryz.func19, Tryz.ntmps19
  go_upto_region 1 with fail
  obtain ⟨x1, x2, hEE⟩ := boxes2 w (.cells #[.pointer none, .pointer none, .pointer (some ⟨p, op, none⟩), .pointer none] 45) (.cells #[.pointer (some ⟨q, oq, none⟩), .pointer none, .pointer none, .pointer none] 45) _ (Below.refl _ _)
  generalize (w.alloc (.cells #[.pointer none, .pointer none, .pointer (some ⟨p, op, none⟩), .pointer none] 45)).alloc (.cells #[.pointer (some ⟨q, oq, none⟩), .pointer none, .pointer none, .pointer none] 45) = w1 at *
  have HE1 := hid hEE
  obtain ⟨z0, z1, z2, z3⟩ := slot4 x1
  obtain ⟨y0, y1, y2, y3⟩ := slot4 x2
  clear x1 x2 hEE
  go_wp2_with fail
  go_ret
  exact ⟨rfl, HE1.out⟩
theorem pee_21 (p op q oq : Nat) (w : World) : Calls Tryz.prog 19 #[.agg #[.pointer none, .pointer none, .pointer (some ⟨p, op, none⟩), .pointer none], .agg #[.pointer none, .pointer (some ⟨q, oq, none⟩), .pointer none, .pointer none]] w fun e w' => e = .returned (.bool false) ∧ Ext w w' := by
  go_enter Tryz.func19, Tryz.ntmps19
  go_upto_region 1 with fail
  obtain ⟨x1, x2, hEE⟩ := boxes2 w (.cells #[.pointer none, .pointer none, .pointer (some ⟨p, op, none⟩), .pointer none] 45) (.cells #[.pointer none, .pointer (some ⟨q, oq, none⟩), .pointer none, .pointer none] 45) _ (Below.refl _ _)
  generalize (w.alloc (.cells #[.pointer none, .pointer none, .pointer (some ⟨p, op, none⟩), .pointer none] 45)).alloc (.cells #[.pointer none, .pointer (some ⟨q, oq, none⟩), .pointer none, .pointer none] 45) = w1 at *
  have HE1 := hid hEE
  obtain ⟨z0, z1, z2, z3⟩ := slot4 x1
  obtain ⟨y0, y1, y2, y3⟩ := slot4 x2
  clear x1 x2 hEE
  go_wp2_with fail
  go_ret
  exact ⟨rfl, HE1.out⟩
theorem pee_23 (p op q oq : Nat) (w : World) : Calls Tryz.prog 19 #[.agg #[.pointer none, .pointer none, .pointer (some ⟨p, op, none⟩), .pointer none], .agg #[.pointer none, .pointer none, .pointer none, .pointer (some ⟨q, oq, none⟩)]] w fun e w' => e = .returned (.bool false) ∧ Ext w w' := by
  go_enter Tryz.func19, Tryz.ntmps19
  go_upto_region 1 with fail
  obtain ⟨x1, x2, hEE⟩ := boxes2 w (.cells #[.pointer none, .pointer none, .pointer (some ⟨p, op, none⟩), .pointer none] 45) (.cells #[.pointer none, .pointer none, .pointer none, .pointer (some ⟨q, oq, none⟩)] 45) _ (Below.refl _ _)
  generalize (w.alloc (.cells #[.pointer none, .pointer none, .pointer (some ⟨p, op, none⟩), .pointer none] 45)).alloc (.cells #[.pointer none, .pointer none, .pointer none, .pointer (some ⟨q, oq, none⟩)] 45) = w1 at *
  have HE1 := hid hEE
  obtain ⟨z0, z1, z2, z3⟩ := slot4 x1
  obtain ⟨y0, y1, y2, y3⟩ := slot4 x2
  clear x1 x2 hEE
  go_wp2_with fail
  go_ret
  exact ⟨rfl, HE1.out⟩
theorem pee_30 (p op q oq : Nat) (w : World) : Calls Tryz.prog 19 #[.agg #[.pointer none, .pointer none, .pointer none, .pointer (some ⟨p, op, none⟩)], .agg #[.pointer (some ⟨q, oq, none⟩), .pointer none, .pointer none, .pointer none]] w fun e w' => e = .returned (.bool false) ∧ Ext w w' := by
  go_enter Tryz.func19, Tryz.ntmps19
  go_upto_region 1 with fail
  obtain ⟨x1, x2, hEE⟩ := boxes2 w (.cells #[.pointer none, .pointer none, .pointer none, .pointer (some ⟨p, op, none⟩)] 45) (.cells #[.pointer (some ⟨q, oq, none⟩), .pointer none, .pointer none, .pointer none] 45) _ (Below.refl _ _)
  generalize (w.alloc (.cells #[.pointer none, .pointer none, .pointer none, .pointer (some ⟨p, op, none⟩)] 45)).alloc (.cells #[.pointer (some ⟨q, oq, none⟩), .pointer none, .pointer none, .pointer none] 45) = w1 at *
  have HE1 := hid hEE
  obtain ⟨z0, z1, z2, z3⟩ := slot4 x1
  obtain ⟨y0, y1, y2, y3⟩ := slot4 x2
  clear x1 x2 hEE
  go_wp2_with fail
  go_ret
  exact ⟨rfl, HE1.out⟩
theorem pee_31 (p op q oq : Nat) (w : World) : Calls Tryz.prog 19 #[.agg #[.pointer none, .pointer none, .pointer none, .pointer (some ⟨p, op, none⟩)], .agg #[.pointer none, .pointer (some ⟨q, oq, none⟩), .pointer none, .pointer none]] w fun e w' => e = .returned (.bool false) ∧ Ext w w' := by
  go_enter Tryz.func19, Tryz.ntmps19
  go_upto_region 1 with fail
  obtain ⟨x1, x2, hEE⟩ := boxes2 w (.cells #[.pointer none, .pointer none, .pointer none, .pointer (some ⟨p, op, none⟩)] 45) (.cells #[.pointer none, .pointer (some ⟨q, oq, none⟩), .pointer none, .pointer none] 45) _ (Below.refl _ _)
  generalize (w.alloc (.cells #[.pointer none, .pointer none, .pointer none, .pointer (some ⟨p, op, none⟩)] 45)).alloc (.cells #[.pointer none, .pointer (some ⟨q, oq, none⟩), .pointer none, .pointer none] 45) = w1 at *
  have HE1 := hid hEE
  obtain ⟨z0, z1, z2, z3⟩ := slot4 x1
  obtain ⟨y0, y1, y2, y3⟩ := slot4 x2
  clear x1 x2 hEE
  go_wp2_with fail
  go_ret
  exact ⟨rfl, HE1.out⟩
theorem pee_32 (p op q oq : Nat) (w : World) : Calls Tryz.prog 19 #[.agg #[.pointer none, .pointer none, .pointer none, .pointer (some ⟨p, op, none⟩)], .agg #[.pointer none, .pointer none, .pointer (some ⟨q, oq, none⟩), .pointer none]] w fun e w' => e = .returned (.bool false) ∧ Ext w w' := by
  go_enter Tryz.func19, Tryz.ntmps19
  go_upto_region 1 with fail
  obtain ⟨x1, x2, hEE⟩ := boxes2 w (.cells #[.pointer none, .pointer none, .pointer none, .pointer (some ⟨p, op, none⟩)] 45) (.cells #[.pointer none, .pointer none, .pointer (some ⟨q, oq, none⟩), .pointer none] 45) _ (Below.refl _ _)
  generalize (w.alloc (.cells #[.pointer none, .pointer none, .pointer none, .pointer (some ⟨p, op, none⟩)] 45)).alloc (.cells #[.pointer none, .pointer none, .pointer (some ⟨q, oq, none⟩), .pointer none] 45) = w1 at *
  have HE1 := hid hEE
  obtain ⟨z0, z1, z2, z3⟩ := slot4 x1
  obtain ⟨y0, y1, y2, y3⟩ := slot4 x2
  clear x1 x2 hEE
  go_wp2_with fail
  go_ret
  exact ⟨rfl, HE1.out⟩
theorem pee_00 (p op q oq : Nat) (w : World) (s s' : ByteArray) (hp : w.cell? ⟨p, op, none⟩ = some (.string s)) (hq : w.cell? ⟨q, oq, none⟩ = some (.string s')) :
    Calls Tryz.prog 19 #[.agg #[.pointer (some ⟨p, op, none⟩), .pointer none, .pointer none, .pointer none], .agg #[.pointer (some ⟨q, oq, none⟩), .pointer none, .pointer none, .pointer none]] w fun e w' => e = .returned (.bool (decide (s = s'))) ∧ Ext w w' := by
  have HP := hid hp
  have HQ := hid hq
  clear hp hq
  go_enter Tryz.func19, Tryz.ntmps19
  go_upto_region 1 with fail
  obtain ⟨x1, x2, hEE⟩ := boxes2 w (.cells #[.pointer (some ⟨p, op, none⟩), .pointer none, .pointer none, .pointer none] 45) (.cells #[.pointer (some ⟨q, oq, none⟩), .pointer none, .pointer none, .pointer none] 45) _ (Below.refl _ _)
  generalize (w.alloc (.cells #[.pointer (some ⟨p, op, none⟩), .pointer none, .pointer none, .pointer none] 45)).alloc (.cells #[.pointer (some ⟨q, oq, none⟩), .pointer none, .pointer none, .pointer none] 45) = w1 at *
  have HE1 := hid hEE
  obtain ⟨z0, z1, z2, z3⟩ := slot4 x1
  obtain ⟨y0, y1, y2, y3⟩ := slot4 x2
  clear x1 x2 hEE
  have j1 := HE1.out.cellS HP.out
  have j2 := HE1.out.cellS HQ.out
  go_wp2_with fail
  go_quiet (fail)
  go_wp2_with fail
  go_ret
  exact ⟨congrArg (fun z => Ending.returned (.bool z)) (ba_toList_beq s s'), HE1.out.drewN _⟩
theorem pee_33 (p op q oq : Nat) (w : World) (n n' : Int) (hp : w.cell? ⟨p, op, none⟩ = some (.int .i64 n)) (hq : w.cell? ⟨q, oq, none⟩ = some (.int .i64 n')) :
    Calls Tryz.prog 19 #[.agg #[.pointer none, .pointer none, .pointer none, .pointer (some ⟨p, op, none⟩)], .agg #[.pointer none, .pointer none, .pointer none, .pointer (some ⟨q, oq, none⟩)]] w fun e w' => e = .returned (.bool (decide (n = n'))) ∧ Ext w w' := by
  have HP := hid hp
  have HQ := hid hq
  clear hp hq
  go_enter Tryz.func19, Tryz.ntmps19
  go_upto_region 1 with fail
  obtain ⟨x1, x2, hEE⟩ := boxes2 w (.cells #[.pointer none, .pointer none, .pointer none, .pointer (some ⟨p, op, none⟩)] 45) (.cells #[.pointer none, .pointer none, .pointer none, .pointer (some ⟨q, oq, none⟩)] 45) _ (Below.refl _ _)
  generalize (w.alloc (.cells #[.pointer none, .pointer none, .pointer none, .pointer (some ⟨p, op, none⟩)] 45)).alloc (.cells #[.pointer none, .pointer none, .pointer none, .pointer (some ⟨q, oq, none⟩)] 45) = w1 at *
  have HE1 := hid hEE
  obtain ⟨z0, z1, z2, z3⟩ := slot4 x1
  obtain ⟨y0, y1, y2, y3⟩ := slot4 x2
  clear x1 x2 hEE
  have j1 := HE1.out.cellS HP.out
  have j2 := HE1.out.cellS HQ.out
  go_wp2_with fail
  go_quiet (fail)
  go_wp2_with fail
  go_ret
  exact ⟨congrArg (fun z => Ending.returned (.bool z)) (by by_cases h : n = n' <;> simp [h]), HE1.out.drewN _⟩
theorem pee_11 (p op q oq : Nat) (w : World) (v v' : Value) (a b : List (ByteArray × Tree)) (h1 : RepFs Any w v a) (h2 : RepFs Any w v' b) (hp : w.cell? ⟨p, op, none⟩ = some (v)) (hq : w.cell? ⟨q, oq, none⟩ = some (v')) :
    Calls Tryz.prog 19 #[.agg #[.pointer none, .pointer (some ⟨p, op, none⟩), .pointer none, .pointer none], .agg #[.pointer none, .pointer (some ⟨q, oq, none⟩), .pointer none, .pointer none]] w fun e w' => e = .returned (.bool (eqFs eqT a b)) ∧ Ext w w' := by
  have H1 := hid h1
  have H2 := hid h2
  obtain ⟨va, vb, vo, vc, rfl, -⟩ := h1
  obtain ⟨va', vb', vo', vc', rfl, -⟩ := h2
  have HP := hid hp
  have HQ := hid hq
  clear hp hq
  go_enter Tryz.func19, Tryz.ntmps19
  go_upto_region 1 with fail
  obtain ⟨x1, x2, hEE⟩ := boxes2 w (.cells #[.pointer none, .pointer (some ⟨p, op, none⟩), .pointer none, .pointer none] 45) (.cells #[.pointer none, .pointer (some ⟨q, oq, none⟩), .pointer none, .pointer none] 45) _ (Below.refl _ _)
  generalize (w.alloc (.cells #[.pointer none, .pointer (some ⟨p, op, none⟩), .pointer none, .pointer none] 45)).alloc (.cells #[.pointer none, .pointer (some ⟨q, oq, none⟩), .pointer none, .pointer none] 45) = w1 at *
  have HE1 := hid hEE
  obtain ⟨z0, z1, z2, z3⟩ := slot4 x1
  obtain ⟨y0, y1, y2, y3⟩ := slot4 x2
  clear x1 x2 hEE
  have j1 := HE1.out.cellS HP.out
  have j2 := HE1.out.cellS HQ.out
  go_wp2_with fail
  go_still_tail 8, (by kernel_rfl)
  change wpList _ _ _ _ _ w1.drew
  go_wp2_with (go_at_call 32; refine (fle_any a b _ _ _ (H1.out.ext HE1.out.drew) (H2.out.ext HE1.out.drew)).mono ?_; rintro e w2 ⟨rfl, hE⟩; have HE2 := hid (HE1.out.drew.trans hE); clear hE)
  go_ret
  exact ⟨rfl, HE2.out⟩
theorem pee_22 (p op q oq : Nat) (w : World) (x x' : Value) (a b : Tree) (h1 : RepVal Any w a x) (h2 : RepVal Any w b x') (hp : w.cell? ⟨p, op, none⟩ = some (x)) (hq : w.cell? ⟨q, oq, none⟩ = some (x')) :
    Calls Tryz.prog 19 #[.agg #[.pointer none, .pointer none, .pointer (some ⟨p, op, none⟩), .pointer none], .agg #[.pointer none, .pointer none, .pointer (some ⟨q, oq, none⟩), .pointer none]] w fun e w' => e = .returned (.bool (eqT a b)) ∧ Ext w w' := by
  have H1 := hid h1
  have H2 := hid h2
  obtain ⟨vb, vv, rfl, -⟩ := h1
  obtain ⟨vb', vv', rfl, -⟩ := h2
  have HP := hid hp
  have HQ := hid hq
  clear hp hq
  go_enter Tryz.func19, Tryz.ntmps19
  go_upto_region 1 with fail
  obtain ⟨x1, x2, hEE⟩ := boxes2 w (.cells #[.pointer none, .pointer none, .pointer (some ⟨p, op, none⟩), .pointer none] 45) (.cells #[.pointer none, .pointer none, .pointer (some ⟨q, oq, none⟩), .pointer none] 45) _ (Below.refl _ _)
  generalize (w.alloc (.cells #[.pointer none, .pointer none, .pointer (some ⟨p, op, none⟩), .pointer none] 45)).alloc (.cells #[.pointer none, .pointer none, .pointer (some ⟨q, oq, none⟩), .pointer none] 45) = w1 at *
  have HE1 := hid hEE
  obtain ⟨z0, z1, z2, z3⟩ := slot4 x1
  obtain ⟨y0, y1, y2, y3⟩ := slot4 x2
  clear x1 x2 hEE
  have j1 := HE1.out.cellS HP.out
  have j2 := HE1.out.cellS HQ.out
  go_wp2_with fail
  go_still_tail 8, (by kernel_rfl)
  change wpList _ _ _ _ _ w1.drew
  go_wp2_with (go_at_call 33; refine (Equals_of a b _ (equU a b) _ _ _ (H1.out.ext HE1.out.drew) (H2.out.ext HE1.out.drew)).mono ?_; rintro e w2 ⟨rfl, hE⟩; have HE2 := hid (HE1.out.drew.trans hE); clear hE)
  go_ret
  exact ⟨rfl, HE2.out⟩
theorem pee_any (e1 e2 : El) (c1 c2 : List Value) (w : World) (h1 : RepEl Any w e1 c1) (h2 : RepEl Any w e2 c2) :
    Calls Tryz.prog 19 #[.agg c1.toArray, .agg c2.toArray] w fun e w' => e = .returned (.bool (eqE e1 e2)) ∧ Ext w w' := by
  obtain ⟨b1, o1, -, r1⟩ := h1
  obtain ⟨b2, o2, -, r2⟩ := h2
  cases e1 <;> cases e2 <;> obtain ⟨rfl, r1⟩ := r1 <;> obtain ⟨rfl, r2⟩ := r2
  · exact pee_00 _ _ _ _ w _ _ r1.1 r2.1
  · exact pee_01 _ _ _ _ w
  · exact pee_02 _ _ _ _ w
  · exact pee_03 _ _ _ _ w
  · exact pee_10 _ _ _ _ w
  · obtain ⟨v, k1, k2⟩ := r1
    obtain ⟨v', k1', k2'⟩ := r2
    exact pee_11 _ _ _ _ w _ _ _ _ k2 k2' k1 k1'
  · exact pee_12 _ _ _ _ w
  · exact pee_13 _ _ _ _ w
  · exact pee_20 _ _ _ _ w
  · exact pee_21 _ _ _ _ w
  · obtain ⟨v, k1, k2⟩ := r1
    obtain ⟨v', k1', k2'⟩ := r2
    exact pee_22 _ _ _ _ w _ _ _ _ k2 k2' k1 k1'
  · exact pee_23 _ _ _ _ w
  · exact pee_30 _ _ _ _ w
  · exact pee_31 _ _ _ _ w
  · exact pee_32 _ _ _ _ w
  · exact pee_33 _ _ _ _ w _ _ r1.1 r2.1
set_option maxHeartbeats 4000000 in
theorem eqElems_any (ea eb : GE) (w : World) (ca cb : List Value) (hA : RepGE Any w ea ca) (hB : RepGE Any w eb cb) :
    Calls Tryz.prog 13 #[.agg ca.toArray, .agg cb.toArray] w fun e w' => e = .returned (.bool (eqE (toEl ea) (toEl eb))) ∧ Ext w w' := by
  have HA := hid hA
  have HB := hid hB
  obtain ⟨k, s, a1, n1, c1, a2, n2, c2, v0, v1, v2, v3, v4, v5, n, rfl⟩ := hA.form
  obtain ⟨k', s', a1', n1', c1', a2', n2', c2', v0', v1', v2', v3', v4', v5', n', rfl⟩ := hB.form
  clear hA hB
  go_enter Tryz.func13, Tryz.ntmps13
  go_upto_region 1 with fail
  obtain ⟨x1, x2, hEE⟩ := boxes2 w (.cells #[.int .i64 k, .string s, .slice a1 n1 c1, .slice a2 n2 c2, v0, v1, v2, v3, v4, v5, .int .i64 n] 30) (.cells #[.int .i64 k', .string s', .slice a1' n1' c1', .slice a2' n2' c2', v0', v1', v2', v3', v4', v5', .int .i64 n'] 30) _ (Below.refl _ _)
  generalize (w.alloc (.cells #[.int .i64 k, .string s, .slice a1 n1 c1, .slice a2 n2 c2, v0, v1, v2, v3, v4, v5, .int .i64 n] 30)).alloc (.cells #[.int .i64 k', .string s', .slice a1' n1' c1', .slice a2' n2' c2', v0', v1', v2', v3', v4', v5', .int .i64 n'] 30) = w1 at *
  have HE1 := hid hEE
  have K := hid (show ∀ w' : World, Ext w1 w' → (fun w' : World => w'.cell? ⟨w.heap.size, 0, none⟩ = some (.int .i64 k) ∧ w'.cell? ⟨w.heap.size, 1, none⟩ = some (.string s) ∧ w'.cell? ⟨w.heap.size, 2, none⟩ = some (.slice a1 n1 c1) ∧ w'.cell? ⟨w.heap.size, 3, none⟩ = some (.slice a2 n2 c2) ∧ w'.cell? ⟨w.heap.size, 4, none⟩ = some (v0) ∧ w'.cell? ⟨w.heap.size, 5, none⟩ = some (v1) ∧ w'.cell? ⟨w.heap.size, 6, none⟩ = some (v2) ∧ w'.cell? ⟨w.heap.size, 7, none⟩ = some (v3) ∧ w'.cell? ⟨w.heap.size, 8, none⟩ = some (v4) ∧ w'.cell? ⟨w.heap.size, 9, none⟩ = some (v5) ∧ w'.cell? ⟨w.heap.size, 10, none⟩ = some (.int .i64 n) ∧ w'.cell? ⟨w.heap.size + 1, 0, none⟩ = some (.int .i64 k') ∧ w'.cell? ⟨w.heap.size + 1, 1, none⟩ = some (.string s') ∧ w'.cell? ⟨w.heap.size + 1, 2, none⟩ = some (.slice a1' n1' c1') ∧ w'.cell? ⟨w.heap.size + 1, 3, none⟩ = some (.slice a2' n2' c2') ∧ w'.cell? ⟨w.heap.size + 1, 4, none⟩ = some (v0') ∧ w'.cell? ⟨w.heap.size + 1, 5, none⟩ = some (v1') ∧ w'.cell? ⟨w.heap.size + 1, 6, none⟩ = some (v2') ∧ w'.cell? ⟨w.heap.size + 1, 7, none⟩ = some (v3') ∧ w'.cell? ⟨w.heap.size + 1, 8, none⟩ = some (v4') ∧ w'.cell? ⟨w.heap.size + 1, 9, none⟩ = some (v5') ∧ w'.cell? ⟨w.heap.size + 1, 10, none⟩ = some (.int .i64 n')) w' from fun w' h => by
    obtain ⟨⟨z0, z1, z2, z3, z4, z5, z6, z7, z8, z9, z10⟩, -⟩ := slot11 (h.block x1)
    obtain ⟨⟨y0, y1, y2, y3, y4, y5, y6, y7, y8, y9, y10⟩, -⟩ := slot11 (h.block x2)
    exact ⟨z0, z1, z2, z3, z4, z5, z6, z7, z8, z9, z10, y0, y1, y2, y3, y4, y5, y6, y7, y8, y9, y10⟩)
  clear x1 x2 hEE
  go_region_held3 (fun w' : World => w'.cell? ⟨w.heap.size, 0, none⟩ = some (.int .i64 k) ∧ w'.cell? ⟨w.heap.size, 1, none⟩ = some (.string s) ∧ w'.cell? ⟨w.heap.size, 2, none⟩ = some (.slice a1 n1 c1) ∧ w'.cell? ⟨w.heap.size, 3, none⟩ = some (.slice a2 n2 c2) ∧ w'.cell? ⟨w.heap.size, 4, none⟩ = some (v0) ∧ w'.cell? ⟨w.heap.size, 5, none⟩ = some (v1) ∧ w'.cell? ⟨w.heap.size, 6, none⟩ = some (v2) ∧ w'.cell? ⟨w.heap.size, 7, none⟩ = some (v3) ∧ w'.cell? ⟨w.heap.size, 8, none⟩ = some (v4) ∧ w'.cell? ⟨w.heap.size, 9, none⟩ = some (v5) ∧ w'.cell? ⟨w.heap.size, 10, none⟩ = some (.int .i64 n) ∧ w'.cell? ⟨w.heap.size + 1, 0, none⟩ = some (.int .i64 k') ∧ w'.cell? ⟨w.heap.size + 1, 1, none⟩ = some (.string s') ∧ w'.cell? ⟨w.heap.size + 1, 2, none⟩ = some (.slice a1' n1' c1') ∧ w'.cell? ⟨w.heap.size + 1, 3, none⟩ = some (.slice a2' n2' c2') ∧ w'.cell? ⟨w.heap.size + 1, 4, none⟩ = some (v0') ∧ w'.cell? ⟨w.heap.size + 1, 5, none⟩ = some (v1') ∧ w'.cell? ⟨w.heap.size + 1, 6, none⟩ = some (v2') ∧ w'.cell? ⟨w.heap.size + 1, 7, none⟩ = some (v3') ∧ w'.cell? ⟨w.heap.size + 1, 8, none⟩ = some (v4') ∧ w'.cell? ⟨w.heap.size + 1, 9, none⟩ = some (v5') ∧ w'.cell? ⟨w.heap.size + 1, 10, none⟩ = some (.int .i64 n'))
    (first | with_reducible exact K.out _ HE7.out | with_reducible exact K.out _ HE6.out | with_reducible exact K.out _ HE5.out | with_reducible exact K.out _ (Ext.refl w1).drew)
    (first
      | (go_at_call_of 15 k; refine (toElem_any ea _ _ (HA.out.ext HE1.out.drew)).mono ?_; rintro e w5 ⟨cs1, rfl, hV, hE⟩; have HE5 := hid ((Ext.refl w1).drew.trans hE); obtain ⟨p0, p1, p2, p3, rfl⟩ := hV.form; have HV1 := hid (hV.weak (S' := Any) (fun _ _ _ => trivial)); clear hE hV)
      | (go_at_call_of 15 k'; refine (toElem_any eb _ _ (HB.out.ext (HE1.out.trans HE5.out))).mono ?_; rintro e w6 ⟨cs2, rfl, hV, hE⟩; have HE56 := hid hE; have HE6 := hid (HE5.out.trans hE); obtain ⟨p4, p5, p6, p7, rfl⟩ := hV.form; have HV2 := hid (hV.weak (S' := Any) (fun _ _ _ => trivial)); clear hE hV)
      | (go_at_call 19; refine (pee_any _ _ _ _ _ (HV1.out.ext HE56.out) HV2.out).mono ?_; rintro e w7 ⟨rfl, hE⟩; have HE7 := hid (HE6.out.trans hE); clear hE))
  all_goals
    go_wp2_with fail
    go_ret
    exact ⟨rfl, HE1.out.trans HE7.out⟩
end Go.Proofs.YtempfaefopfobaaGreat
