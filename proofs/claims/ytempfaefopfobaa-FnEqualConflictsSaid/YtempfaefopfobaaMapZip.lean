/- MapZip: MapZipUsing, ZipUsing, defaultMapZip with whatever function, in increasing order of the keys; value.MapCompareUsing. -/
import Derived.Test.YtempfaefopfobaaLexZip

set_option maxRecDepth 100000
namespace Go.Proofs.Ytempfaefopfobaa
open Go.ChangeShapes Go.WideShapes Go.ChangeAt Go.RowKit
set_option linter.unusedVariables false
set_option linter.unusedSimpArgs false

section
variable (S : Nat → Prop) (F : FuncId) (caps : Array Value) (m1 m2 : List (ByteArray × Tree)) (r1 r2 : Nat) (al : Addr) (M : Nat → Obj → Prop) (I : Nat → World → Prop) (cont : Nat → Bool) (w : World)
theorem dmz_any (hZ : ZipHyp S F caps m1 m2 r1 r2 M I cont w) :
    Calls Try.prog 215 #[.iface 172 (.pointer (some al)), .iface 316 (.map (some r1)), .iface 316 (.map (some r2)), .int .i64 1, .func (.func F) #[] caps] w (Zipped I cont (zipKeys m1 m2).length) := by
  have HZ := hid hZ
  clear hZ
  go_enter Try.func215, Try.ntmps215
  go_wp2_with (go_at_call 217; refine (lex_any S F caps m1 m2 r1 r2 al M I cont _ HZ.out).mono ?_; rintro e w2 ⟨k, b, rfl, hs, hI⟩; have HS := hid hs; have HI := hid hI; clear hs hI)
  go_ret
  exact ⟨k, b, rfl, HS.out, HI.out⟩
theorem zu_any (hZ : ZipHyp S F caps m1 m2 r1 r2 M I cont w) :
    Calls Try.prog 213 #[.map (some r1), .iface 172 (.pointer (some al)), .iface 316 (.map (some r2)), .int .i64 1, .func (.func F) #[] caps] w (Zipped I cont (zipKeys m1 m2).length) := by
  have HZ := hid hZ
  clear hZ
  go_enter Try.func213, Try.ntmps213
  go_wp2_with (go_at_call 215; refine (dmz_any S F caps m1 m2 r1 r2 al M I cont _ HZ.out).mono ?_; rintro e w2 ⟨k, b, rfl, hs, hI⟩; have HS := hid hs; have HI := hid hI; clear hs hI)
  go_ret
  exact ⟨k, b, rfl, HS.out, HI.out⟩
theorem mzu_any (hZ : ZipHyp S F caps m1 m2 r1 r2 M I cont w) :
    Calls Try.prog 100 #[.iface 172 (.pointer (some al)), .iface 316 (.map (some r1)), .iface 316 (.map (some r2)), .int .i64 1, .func (.func F) #[] caps] w (Zipped I cont (zipKeys m1 m2).length) := by
  have HZ := hid hZ
  clear hZ
  go_enter Try.func100, Try.ntmps100
  go_wp2_with (go_at_call 213; refine (zu_any S F caps m1 m2 r1 r2 al M I cont _ (HZ.out.ext ((Ext.refl w).alloc _))).mono ?_; rintro e w2 ⟨k, b, rfl, hs, hI⟩; have HS := hid hs; have HI := hid hI; clear hs hI)
  go_ret
  exact ⟨k, b, rfl, HS.out, HI.out⟩
end

/-! ### MapCompareUsing -/
def CM (bc bi : Nat) : Nat → Obj → Prop := fun b o => (b = bc ∨ b = bi) ∧ ∃ c fr, o = .cells c 3 fr
theorem cell_put {w : World} {b : Nat} {v : Value} {a : Addr} (h : a.block ≠ b) : (w.setCell ⟨b, 0, none⟩ v).cell? a = w.cell? a := by
  unfold World.cell?
  rw [Below.heap_setCell _ _ _ _ h]
/-- what the function that MapCompareUsing hands over has in hand -/
structure CSt (W : World) (al : Addr) (bi bl bc br ba : Nat) (i c n1 n2 : Int) : Prop where
  hi : W.heap[bi]? = some (.cells #[.int .i64 i] 3)
  hl : W.heap[bl]? = some (.cells #[.int .i64 n1] 3)
  hc : W.heap[bc]? = some (.cells #[.int .i64 c] 3)
  hr : W.heap[br]? = some (.cells #[.int .i64 n2] 3)
  ha : W.heap[ba]? = some (.cells #[.iface 172 (.pointer (some al))] 183)
theorem CSt.ext {W W' : World} {al : Addr} {bi bl bc br ba : Nat} {i c n1 n2 : Int} (h : CSt W al bi bl bc br ba i c n1 n2) (E : Ext W W') : CSt W' al bi bl bc br ba i c n1 n2 :=
  ⟨E.block h.hi, E.block h.hl, E.block h.hc, E.block h.hr, E.block h.ha⟩
theorem CSt.put {W : World} {al : Addr} {bi bl bc br ba : Nat} {i c n1 n2 : Int} (h : CSt W al bi bl bc br ba i c n1 n2) (hd : bi ≠ bl ∧ bi ≠ bc ∧ bi ≠ br ∧ bi ≠ ba ∧ bc ≠ bl ∧ bc ≠ br ∧ bc ≠ ba) (c' i' : Int) :
    CSt ((W.setCell ⟨bc, 0, none⟩ (.int .i64 c')).setCell ⟨bi, 0, none⟩ (.int .i64 i')) al bi bl bc br ba i' c' n1 n2 ∧ Mine (CM bc bi) W ((W.setCell ⟨bc, 0, none⟩ (.int .i64 c')).setCell ⟨bi, 0, none⟩ (.int .i64 i')) := by
  obtain ⟨d1, d2, d3, d4, d5, d6, d7⟩ := hd
  have hc1 := (setCell_heap h.hc 0 (.int .i64 c')).trans rfl
  have k1 : ∀ b, b ≠ bc → (W.setCell ⟨bc, 0, none⟩ (.int .i64 c')).heap[b]? = W.heap[b]? := fun b hb => Below.heap_setCell _ _ _ _ hb
  have k2 : ∀ b, b ≠ bi → ((W.setCell ⟨bc, 0, none⟩ (.int .i64 c')).setCell ⟨bi, 0, none⟩ (.int .i64 i')).heap[b]? = (W.setCell ⟨bc, 0, none⟩ (.int .i64 c')).heap[b]? := fun b hb => Below.heap_setCell _ _ _ _ hb
  have hi1 := (k1 bi d2).trans h.hi
  refine ⟨⟨(setCell_heap hi1 0 (.int .i64 i')).trans rfl, (k2 _ d1.symm).trans ((k1 _ d5.symm).trans h.hl), (k2 _ d2.symm).trans hc1, (k2 _ d3.symm).trans ((k1 _ d6.symm).trans h.hr), (k2 _ d4.symm).trans ((k1 _ d7.symm).trans h.ha)⟩, rfl, rfl, rfl, by simp, fun b o hb hm => ?_⟩
  have n1 : b ≠ bc := fun e => hm ⟨.inl e, by subst e; rw [h.hc] at hb; cases hb; exact ⟨_, _, rfl⟩⟩
  have n2 : b ≠ bi := fun e => hm ⟨.inr e, by subst e; rw [h.hi] at hb; cases hb; exact ⟨_, _, rfl⟩⟩
  exact (k2 b n2).trans ((k1 b n1).trans hb)
theorem CSt.facts {W : World} {al : Addr} {bi bl bc br ba : Nat} {i c n1 n2 : Int} (h : CSt W al bi bl bc br ba i c n1 n2) (hd : bi ≠ bl ∧ bi ≠ bc ∧ bi ≠ br ∧ bi ≠ ba ∧ bc ≠ bl ∧ bc ≠ br ∧ bc ≠ ba) :
    (W.cell? ⟨bi, 0, none⟩ = some (.int .i64 i) ∧ W.cell? ⟨bl, 0, none⟩ = some (.int .i64 n1) ∧ W.cell? ⟨bc, 0, none⟩ = some (.int .i64 c) ∧ W.cell? ⟨br, 0, none⟩ = some (.int .i64 n2) ∧ W.cell? ⟨ba, 0, none⟩ = some (.iface 172 (.pointer (some al)))) ∧
    W.frozen? ⟨bc, 0, none⟩ = false ∧ W.frozen? ⟨bi, 0, none⟩ = false ∧ (∀ v, (W.setCell ⟨bc, 0, none⟩ v).cell? ⟨bi, 0, none⟩ = some (.int .i64 i)) ∧ (∀ v u, ((W.setCell ⟨bc, 0, none⟩ v).setCell ⟨bi, 0, none⟩ u).cell? ⟨bc, 0, none⟩ = some v) ∧ ∀ v, (W.setCell ⟨bc, 0, none⟩ v).frozen? ⟨bi, 0, none⟩ = false := by
  refine ⟨⟨(cell_of_heap h.hi 0).trans rfl, (cell_of_heap h.hl 0).trans rfl, (cell_of_heap h.hc 0).trans rfl, (cell_of_heap h.hr 0).trans rfl, (cell_of_heap h.ha 0).trans rfl⟩, free_of_heap h.hc 0, free_of_heap h.hi 0, fun v => (cell_put hd.2.1).trans ((cell_of_heap h.hi 0).trans rfl), fun v u => (cell_put hd.2.1.symm).trans ((cell_of_heap ((setCell_heap h.hc 0 v).trans rfl) 0).trans rfl), fun v => ?_⟩
  have : (W.setCell ⟨bc, 0, none⟩ v).heap[bi]? = some (.cells #[.int .i64 i] 3) := (Below.heap_setCell _ _ _ _ hd.2.1).trans h.hi
  exact free_of_heap this 0
theorem mcc_1 (n1 n2 i : Nat) (key : ByteArray) (al : Addr) (bi bl bc br ba : Nat) (c : Int) (W : World) (hd : bi ≠ bl ∧ bi ≠ bc ∧ bi ≠ br ∧ bi ≠ ba ∧ bc ≠ bl ∧ bc ≠ br ∧ bc ≠ ba)
    (hC : CSt W al bi bl bc br ba i c n1 n2) (hi : i ≤ 140737488351232) (h1 : i = n1) (x y : Value) :
    Calls Try.prog 149 #[.string key, x, y, .pointer (some ⟨bi, 0, none⟩), .pointer (some ⟨bl, 0, none⟩), .pointer (some ⟨bc, 0, none⟩), .pointer (some ⟨br, 0, none⟩), .pointer (some ⟨ba, 0, none⟩)] W fun e W' => e = .returned (.bool ((-1 : Int) == 0)) ∧ CSt W' al bi bl bc br ba ((i + 1 : Nat) : Int) (-1) n1 n2 ∧ Mine (CM bc bi) W W' := by
  have HC := hid hC
  have HD := hid hd
  have e1 : ((i + 1 : Nat) : Int) = (i : Int) + 1 := by omega
  rw [e1]
  obtain ⟨⟨q1, q2, q3, q4, q5⟩, q6, q7, q8, q9, q10⟩ := hC.facts hd
  clear e1 hC hd
  have d1 : ((i : Int) == (n1 : Int)) = true := by rw [beq_iff_eq]; omega
  clear h1
  go_enter Try.func149, Try.ntmps149
  go_wp2_with fail
  go_ret
  have PUT := (HC.out.put HD.out (-1) ((i : Int) + 1))
  exact ⟨rfl, PUT.1, PUT.2⟩
theorem mcc_2 (n1 n2 i : Nat) (key : ByteArray) (al : Addr) (bi bl bc br ba : Nat) (c : Int) (W : World) (hd : bi ≠ bl ∧ bi ≠ bc ∧ bi ≠ br ∧ bi ≠ ba ∧ bc ≠ bl ∧ bc ≠ br ∧ bc ≠ ba)
    (hC : CSt W al bi bl bc br ba i c n1 n2) (hi : i ≤ 140737488351232) (h1 : i ≠ n1) (h2 : i = n2) (x y : Value) :
    Calls Try.prog 149 #[.string key, x, y, .pointer (some ⟨bi, 0, none⟩), .pointer (some ⟨bl, 0, none⟩), .pointer (some ⟨bc, 0, none⟩), .pointer (some ⟨br, 0, none⟩), .pointer (some ⟨ba, 0, none⟩)] W fun e W' => e = .returned (.bool ((1 : Int) == 0)) ∧ CSt W' al bi bl bc br ba ((i + 1 : Nat) : Int) (1) n1 n2 ∧ Mine (CM bc bi) W W' := by
  have HC := hid hC
  have HD := hid hd
  have e1 : ((i + 1 : Nat) : Int) = (i : Int) + 1 := by omega
  rw [e1]
  obtain ⟨⟨q1, q2, q3, q4, q5⟩, q6, q7, q8, q9, q10⟩ := hC.facts hd
  clear e1 hC hd
  have d1 : ((i : Int) == (n1 : Int)) = false := by rw [beq_eq_false_iff_ne]; omega
  clear h1
  have d2 : ((i : Int) == (n2 : Int)) = true := by rw [beq_iff_eq]; omega
  clear h2
  go_enter Try.func149, Try.ntmps149
  go_wp2_with fail
  go_ret
  have PUT := (HC.out.put HD.out (1) ((i : Int) + 1))
  exact ⟨rfl, PUT.1, PUT.2⟩
theorem mcc_3 (n1 n2 i : Nat) (key : ByteArray) (al : Addr) (bi bl bc br ba : Nat) (c : Int) (W : World) (hd : bi ≠ bl ∧ bi ≠ bc ∧ bi ≠ br ∧ bi ≠ ba ∧ bc ≠ bl ∧ bc ≠ br ∧ bc ≠ ba)
    (hC : CSt W al bi bl bc br ba i c n1 n2) (hi : i ≤ 140737488351232) (h1 : i ≠ n1) (h2 : i ≠ n2) (y : Value) :
    Calls Try.prog 149 #[.string key, .nilIface, y, .pointer (some ⟨bi, 0, none⟩), .pointer (some ⟨bl, 0, none⟩), .pointer (some ⟨bc, 0, none⟩), .pointer (some ⟨br, 0, none⟩), .pointer (some ⟨ba, 0, none⟩)] W fun e W' => e = .returned (.bool ((1 : Int) == 0)) ∧ CSt W' al bi bl bc br ba ((i + 1 : Nat) : Int) (1) n1 n2 ∧ Mine (CM bc bi) W W' := by
  have HC := hid hC
  have HD := hid hd
  have e1 : ((i + 1 : Nat) : Int) = (i : Int) + 1 := by omega
  rw [e1]
  obtain ⟨⟨q1, q2, q3, q4, q5⟩, q6, q7, q8, q9, q10⟩ := hC.facts hd
  clear e1 hC hd
  have d1 : ((i : Int) == (n1 : Int)) = false := by rw [beq_eq_false_iff_ne]; omega
  clear h1
  have d2 : ((i : Int) == (n2 : Int)) = false := by rw [beq_eq_false_iff_ne]; omega
  clear h2
  go_enter Try.func149, Try.ntmps149
  go_wp2_with fail
  go_ret
  have PUT := (HC.out.put HD.out (1) ((i : Int) + 1))
  exact ⟨rfl, PUT.1, PUT.2⟩
theorem mcc_4 (n1 n2 i : Nat) (key : ByteArray) (al : Addr) (bi bl bc br ba : Nat) (c : Int) (W : World) (hd : bi ≠ bl ∧ bi ≠ bc ∧ bi ≠ br ∧ bi ≠ ba ∧ bc ≠ bl ∧ bc ≠ br ∧ bc ≠ ba)
    (hC : CSt W al bi bl bc br ba i c n1 n2) (hi : i ≤ 140737488351232) (h1 : i ≠ n1) (h2 : i ≠ n2) (px : Nat) :
    Calls Try.prog 149 #[.string key, .iface 203 (.pointer (some ⟨px, 0, none⟩)), .nilIface, .pointer (some ⟨bi, 0, none⟩), .pointer (some ⟨bl, 0, none⟩), .pointer (some ⟨bc, 0, none⟩), .pointer (some ⟨br, 0, none⟩), .pointer (some ⟨ba, 0, none⟩)] W fun e W' => e = .returned (.bool ((-1 : Int) == 0)) ∧ CSt W' al bi bl bc br ba ((i + 1 : Nat) : Int) (-1) n1 n2 ∧ Mine (CM bc bi) W W' := by
  have HC := hid hC
  have HD := hid hd
  have e1 : ((i + 1 : Nat) : Int) = (i : Int) + 1 := by omega
  rw [e1]
  obtain ⟨⟨q1, q2, q3, q4, q5⟩, q6, q7, q8, q9, q10⟩ := hC.facts hd
  clear e1 hC hd
  have d1 : ((i : Int) == (n1 : Int)) = false := by rw [beq_eq_false_iff_ne]; omega
  clear h1
  have d2 : ((i : Int) == (n2 : Int)) = false := by rw [beq_eq_false_iff_ne]; omega
  clear h2
  go_enter Try.func149, Try.ntmps149
  go_wp2_with fail
  go_ret
  have PUT := (HC.out.put HD.out (-1) ((i : Int) + 1))
  exact ⟨rfl, PUT.1, PUT.2⟩
theorem mcc_5 (n1 n2 i : Nat) (key : ByteArray) (al : Addr) (bi bl bc br ba : Nat) (c : Int) (W : World) (hd : bi ≠ bl ∧ bi ≠ bc ∧ bi ≠ br ∧ bi ≠ ba ∧ bc ≠ bl ∧ bc ≠ br ∧ bc ≠ ba)
    (hC : CSt W al bi bl bc br ba i c n1 n2) (hi : i ≤ 140737488351232) (h1 : i ≠ n1) (h2 : i ≠ n2) (px py : Nat) (zz : Int) (hz : Calls Try.prog 130 #[.iface 172 (.pointer (some al)), .iface 203 (.pointer (some ⟨px, 0, none⟩)), .iface 203 (.pointer (some ⟨py, 0, none⟩))] W fun e W' => e = .returned (.int .i64 zz) ∧ Ext W W') :
    Calls Try.prog 149 #[.string key, .iface 203 (.pointer (some ⟨px, 0, none⟩)), .iface 203 (.pointer (some ⟨py, 0, none⟩)), .pointer (some ⟨bi, 0, none⟩), .pointer (some ⟨bl, 0, none⟩), .pointer (some ⟨bc, 0, none⟩), .pointer (some ⟨br, 0, none⟩), .pointer (some ⟨ba, 0, none⟩)] W fun e W' => e = .returned (.bool ((zz : Int) == 0)) ∧ CSt W' al bi bl bc br ba ((i + 1 : Nat) : Int) (zz) n1 n2 ∧ Mine (CM bc bi) W W' := by
  have HC := hid hC
  have HD := hid hd
  have e1 : ((i + 1 : Nat) : Int) = (i : Int) + 1 := by omega
  rw [e1]
  obtain ⟨⟨q1, q2, q3, q4, q5⟩, q6, q7, q8, q9, q10⟩ := hC.facts hd
  clear e1 hC hd
  have d1 : ((i : Int) == (n1 : Int)) = false := by rw [beq_eq_false_iff_ne]; omega
  clear h1
  have d2 : ((i : Int) == (n2 : Int)) = false := by rw [beq_eq_false_iff_ne]; omega
  clear h2
  have HZ := hid hz
  clear hz
  go_enter Try.func149, Try.ntmps149
  go_wp2_with (go_at_call 130; refine HZ.out.mono ?_; rintro e w5 ⟨rfl, hE⟩; have HE := hid hE; clear hE; obtain ⟨⟨k1, k2, k3, k4, k5⟩, k6, k7, k8, k9, k10⟩ := (HC.out.ext HE.out).facts HD.out)
  go_ret
  have PUT := ((HC.out.ext HE.out).put HD.out (zz) ((i : Int) + 1))
  exact ⟨rfl, PUT.1, (HE.out.mine _).trans PUT.2⟩
theorem mcc_any (z : Tree → Tree → Int) (n1 n2 i : Nat) (key : ByteArray) (o1 o2 : Option Tree) (x y : Value) (al : Addr) (bi bl bc br ba : Nat) (c : Int) (W : World) (hd : bi ≠ bl ∧ bi ≠ bc ∧ bi ≠ br ∧ bi ≠ ba ∧ bc ≠ bl ∧ bc ≠ br ∧ bc ≠ ba)
    (hC : CSt W al bi bl bc br ba i c n1 n2) (hi : i ≤ 140737488351232) (hx : OptV W o1 x) (hy : OptV W o2 y) (hz : ∀ a b, o1 = some a → o2 = some b → CmpU a b (z a b)) :
    Calls Try.prog 149 #[.string key, x, y, .pointer (some ⟨bi, 0, none⟩), .pointer (some ⟨bl, 0, none⟩), .pointer (some ⟨bc, 0, none⟩), .pointer (some ⟨br, 0, none⟩), .pointer (some ⟨ba, 0, none⟩)] W fun e W' =>
      e = .returned (.bool (cmpOne z n1 n2 i o1 o2 == 0)) ∧ CSt W' al bi bl bc br ba ((i + 1 : Nat) : Int) (cmpOne z n1 n2 i o1 o2) n1 n2 ∧ Mine (CM bc bi) W W' := by
  by_cases h1 : i = n1
  · rw [show cmpOne z n1 n2 i o1 o2 = -1 by unfold cmpOne; rw [if_pos h1]]
    exact mcc_1 n1 n2 i key al bi bl bc br ba c W hd hC hi h1 x y
  · by_cases h2 : i = n2
    · rw [show cmpOne z n1 n2 i o1 o2 = 1 by unfold cmpOne; rw [if_neg h1, if_pos h2]]
      exact mcc_2 n1 n2 i key al bi bl bc br ba c W hd hC hi h1 h2 x y
    · cases o1 with
      | none =>
        obtain rfl : x = .nilIface := hx
        rw [show cmpOne z n1 n2 i none o2 = 1 by unfold cmpOne; rw [if_neg h1, if_neg h2]]
        exact mcc_3 n1 n2 i key al bi bl bc br ba c W hd hC hi h1 h2 y
      | some a =>
        have hx' : RepVal Any W a x := hx
        cases o2 with
        | none =>
          obtain rfl : y = .nilIface := hy
          obtain ⟨px, vx, rfl, _⟩ := hx'
          rw [show cmpOne z n1 n2 i (some a) none = -1 by unfold cmpOne; rw [if_neg h1, if_neg h2]]
          exact mcc_4 n1 n2 i key al bi bl bc br ba c W hd hC hi h1 h2 px
        | some b =>
          have hy' : RepVal Any W b y := hy
          have hzz := hz a b rfl rfl W al x y hx' hy'
          obtain ⟨px, vx, rfl, _⟩ := hx'
          obtain ⟨py, vy, rfl, _⟩ := hy'
          rw [show cmpOne z n1 n2 i (some a) (some b) = z a b by unfold cmpOne; rw [if_neg h1, if_neg h2]]
          exact mcc_5 n1 n2 i key al bi bl bc br ba c W hd hC hi h1 h2 px py _ hzz

/-- how the values under the j-th of these keys compare, if the first of them is the i-th of all -/
def atKs (z : Tree → Tree → Int) (m1 m2 : List (ByteArray × Tree)) (ks : List ByteArray) (i j : Nat) : Int := cmpOne z m1.length m2.length (i + j) (lookKV m1 (ks.getD j ByteArray.empty)) (lookKV m2 (ks.getD j ByteArray.empty))
theorem atKs_succ (z : Tree → Tree → Int) (m1 m2 : List (ByteArray × Tree)) (key : ByteArray) (ks : List ByteArray) (i j : Nat) : atKs z m1 m2 (key :: ks) i (j + 1) = atKs z m1 m2 ks (i + 1) j := by
  unfold atKs
  rw [show i + (j + 1) = i + 1 + j by omega]
  rfl
theorem cmpKs_stops (z : Tree → Tree → Int) (m1 m2 : List (ByteArray × Tree)) : ∀ (ks : List ByteArray) (i k : Nat), Stops (fun j => atKs z m1 m2 ks i j == 0) ks.length k → cmpKs z m1 m2 ks i = if k = 0 then 0 else atKs z m1 m2 ks i (k - 1)
  | [], i, k, h => by
    have := h.1
    rw [if_pos (by simpa using this)]; rfl
  | key :: ks, i, 0, h => by
    obtain ⟨j, hj, _⟩ := h.2.2 (by simp)
    omega
  | key :: ks, i, 1, h => by
    rw [if_neg (by omega)]
    have e0 : atKs z m1 m2 (key :: ks) i (1 - 1) = cmpOne z m1.length m2.length i (lookKV m1 key) (lookKV m2 key) := rfl
    rw [e0, cmpKs]
    split
    · rename_i h0
      cases ks with
      | nil => rw [h0]; rfl
      | cons k2 ks =>
        obtain ⟨j, hj, hc⟩ := h.2.2 (by simp)
        obtain rfl : j = 0 := by omega
        replace hc : (atKs z m1 m2 (key :: k2 :: ks) i 0 == 0) = false := hc
        rw [show atKs z m1 m2 (key :: k2 :: ks) i 0 = cmpOne z m1.length m2.length i (lookKV m1 key) (lookKV m2 key) from rfl, h0] at hc
        simp at hc
    · rfl
  | key :: ks, i, k + 2, h => by
    rw [if_neg (by omega), show k + 2 - 1 = k + 1 by omega, atKs_succ, cmpKs]
    have h0 : (atKs z m1 m2 (key :: ks) i 0 == 0) = true := h.2.1 0 (by omega)
    rw [show atKs z m1 m2 (key :: ks) i 0 = cmpOne z m1.length m2.length i (lookKV m1 key) (lookKV m2 key) from rfl] at h0
    rw [if_pos (by simpa using h0)]
    have hst : Stops (fun j => atKs z m1 m2 ks (i + 1) j == 0) ks.length (k + 1) := by
      refine ⟨by have := h.1; simp at this; omega, fun j hj => ?_, fun hk => ?_⟩
      · have : (atKs z m1 m2 (key :: ks) i (j + 1) == 0) = true := h.2.1 (j + 1) (by omega)
        rwa [atKs_succ] at this
      · obtain ⟨j, hj, hc⟩ := h.2.2 (by simp; omega)
        obtain rfl : j = k + 1 := by omega
        replace hc : (atKs z m1 m2 (key :: ks) i (k + 1) == 0) = false := hc
        rw [atKs_succ] at hc
        exact ⟨k, rfl, hc⟩
    have := cmpKs_stops z m1 m2 ks (i + 1) (k + 1) hst
    rw [if_neg (by omega), show k + 1 - 1 = k by omega] at this
    exact this
/-- what holds after k calls -/
def CI (z : Tree → Tree → Int) (m1 m2 : List (ByteArray × Tree)) (al : Addr) (bi bl bc br ba : Nat) (w : World) (k : Nat) (W : World) : Prop :=
  CSt W al bi bl bc br ba k (if k = 0 then 0 else atKs z m1 m2 (zipKeys m1 m2) 0 (k - 1)) m1.length m2.length ∧ Ext w W
theorem zipKeys_length {m1 m2 : List (ByteArray × Tree)} : (zipKeys m1 m2).length ≤ m1.length + m2.length := by
  unfold zipKeys
  rw [sortN_length, List.length_append]
  have := List.length_filter_le (fun k => !(m1.map (·.1)).contains k) (m2.map (·.1))
  simp only [List.length_map] at this ⊢
  omega
theorem mcu_hyp (z : Tree → Tree → Int) (m1 m2 : List (ByteArray × Tree)) (r1 r2 : Nat) (al : Addr) (bi bl bc br ba : Nat) (w W : World) (hE : Ext w W) (hd : bi ≠ bl ∧ bi ≠ bc ∧ bi ≠ br ∧ bi ≠ ba ∧ bc ≠ bl ∧ bc ≠ br ∧ bc ≠ ba)
    (hC : CSt W al bi bl bc br ba 0 0 m1.length m2.length) (hb : w.heap.size ≤ bi ∧ w.heap.size ≤ bc) (hM1 : RepM Any w m1 r1) (hM2 : RepM Any w m2 r2) (hz : ∀ p ∈ m1, ∀ q ∈ m2, CmpU p.2 q.2 (z p.2 q.2)) :
    ZipHyp (fun b => b < w.heap.size) 149 #[.pointer (some ⟨bi, 0, none⟩), .pointer (some ⟨bl, 0, none⟩), .pointer (some ⟨bc, 0, none⟩), .pointer (some ⟨br, 0, none⟩), .pointer (some ⟨ba, 0, none⟩)] m1 m2 r1 r2 (CM bc bi) (CI z m1 m2 al bi bl bc br ba w) (fun j => atKs z m1 m2 (zipKeys m1 m2) 0 j == 0) W := by
  have hK : ∀ b o, b < w.heap.size → ¬ CM bc bi b o := by
    rintro b o hlt ⟨h | h, _⟩ <;> omega
  have hr1 := hM1.room
  have hr2 := hM2.room
  refine ⟨enters_of Try.func149 (by kernel_rfl) rfl, (hM1.mono (Same.refl _ _) (fun b _ h => h) rfl : RepM (fun b => b < w.heap.size) w m1 r1).ext hE, (hM2.mono (Same.refl _ _) (fun b _ h => h) rfl : RepM (fun b => b < w.heap.size) w m2 r2).ext hE, ?_, ?_, ?_, ?_, ?_, fun o => hK r1 o hM1.lt, fun o => hK r2 o hM2.lt, fun b o h => hK b o h⟩
  · rintro k key x y W1 hk ⟨hC1, hE1⟩ _ hx hy
    have hkl := (List.getElem?_eq_some_iff.1 hk).1
    have hkl2 := zipKeys_length (m1 := m1) (m2 := m2)
    have hkey : (zipKeys m1 m2).getD k ByteArray.empty = key := by rw [List.getD_eq_getElem?_getD, hk]; rfl
    refine (mcc_any z m1.length m2.length k key (lookKV m1 key) (lookKV m2 key) x y al bi bl bc br ba _ W1 hd hC1 (by omega) hx hy (fun a b ha hb => hz _ (lookKV_in ha) _ (lookKV_in hb))).mono ?_
    rintro e W2 ⟨he, hC2, hm⟩
    have hat : atKs z m1 m2 (zipKeys m1 m2) 0 k = cmpOne z m1.length m2.length k (lookKV m1 key) (lookKV m2 key) := by unfold atKs; rw [hkey, Nat.zero_add]
    refine ⟨by rw [he, hat], ⟨?_, ext_mine hE1 hK hm⟩, hm⟩
    rw [if_neg (by omega), show k + 1 - 1 = k by omega, hat]
    exact hC2
  · rintro W1 W2 ⟨hC1, hE1⟩ hs
    have hlt : bi < W.heap.size ∧ bl < W.heap.size ∧ bc < W.heap.size ∧ br < W.heap.size ∧ ba < W.heap.size :=
      ⟨(Array.getElem?_eq_some_iff.1 hC.hi).1, (Array.getElem?_eq_some_iff.1 hC.hl).1, (Array.getElem?_eq_some_iff.1 hC.hc).1, (Array.getElem?_eq_some_iff.1 hC.hr).1, (Array.getElem?_eq_some_iff.1 hC.ha).1⟩
    exact ⟨⟨hs.keep _ _ hC1.hi (.inl hlt.1), hs.keep _ _ hC1.hl (.inl hlt.2.1), hs.keep _ _ hC1.hc (.inl hlt.2.2.1), hs.keep _ _ hC1.hr (.inl hlt.2.2.2.1), hs.keep _ _ hC1.ha (.inl hlt.2.2.2.2)⟩, ext_still hE1 hE.size hs⟩
  · rintro k W1 W2 ⟨hC1, hE1⟩ hs
    exact ⟨hC1.ext hs, hE1.trans hs⟩
  · exact ⟨hC, hE⟩
  · rintro b c t fr _ ht ⟨_, c', fr', e⟩
    simp only [Obj.cells.injEq] at e
    rcases ht with rfl | rfl | rfl | rfl <;> simp at e
theorem ci_cell {z : Tree → Tree → Int} {m1 m2 : List (ByteArray × Tree)} {al : Addr} {bi bl bc br ba : Nat} {w W : World} {k : Nat} (h : CI z m1 m2 al bi bl bc br ba w k W) (hst : Stops (fun j => atKs z m1 m2 (zipKeys m1 m2) 0 j == 0) (zipKeys m1 m2).length k) :
    W.cell? ⟨bc, 0, none⟩ = some (.int .i64 (cmpMs z m1 m2)) := by
  have e := cmpKs_stops z m1 m2 (zipKeys m1 m2) 0 k hst
  have h1 := h.1.hc
  rw [← e] at h1
  exact (cell_of_heap h1 0).trans rfl
theorem heap5 (w : World) (a b c d e : Obj) : let W := ((((w.alloc a).alloc b).alloc c).alloc d).alloc e
    W.heap[w.heap.size]? = some a ∧ W.heap[w.heap.size + 1]? = some b ∧ W.heap[w.heap.size + 1 + 1]? = some c ∧ W.heap[w.heap.size + 1 + 1 + 1]? = some d ∧ W.heap[w.heap.size + 1 + 1 + 1 + 1]? = some e := by
  intro W
  have e1 : ∀ (v : World) (o : Obj), (v.alloc o).heap.size = v.heap.size + 1 := fun v o => by simp
  have h : ∀ (v : World) (o : Obj), (v.alloc o).heap[v.heap.size]? = some o := fun v o => heap_alloc_new v o
  have x : ∀ (v : World) (o : Obj), Ext v (v.alloc o) := fun v o => (Ext.refl v).alloc o
  refine ⟨(x _ _).block ((x _ _).block ((x _ _).block ((x _ _).block (h w a)))), ?_, ?_, ?_, ?_⟩
  · have := h (w.alloc a) b; rw [e1] at this
    exact (x _ _).block ((x _ _).block ((x _ _).block this))
  · have := h ((w.alloc a).alloc b) c; rw [e1, e1] at this
    exact (x _ _).block ((x _ _).block this)
  · have := h (((w.alloc a).alloc b).alloc c) d; rw [e1, e1, e1] at this
    exact (x _ _).block this
  · have := h ((((w.alloc a).alloc b).alloc c).alloc d) e; rw [e1, e1, e1, e1] at this
    exact this
theorem mcu_cst (w : World) (al : Addr) (n1 n2 : Int) : CSt (((((w.alloc (.cells #[.iface 172 (.pointer (some al))] 183)).alloc (.cells #[.int .i64 0] 3)).alloc (.cells #[.int .i64 n1] 3)).alloc (.cells #[.int .i64 n2] 3)).alloc (.cells #[.int .i64 0] 3))
    al (w.heap.size + 1 + 1 + 1 + 1) (w.heap.size + 1 + 1) (w.heap.size + 1) (w.heap.size + 1 + 1 + 1) w.heap.size 0 0 n1 n2 := by
  obtain ⟨h1, h2, h3, h4, h5⟩ := heap5 w (.cells #[.iface 172 (.pointer (some al))] 183) (.cells #[.int .i64 0] 3) (.cells #[.int .i64 n1] 3) (.cells #[.int .i64 n2] 3) (.cells #[.int .i64 0] 3)
  exact ⟨h5, h3, h2, h4, h1⟩
set_option maxHeartbeats 1000000 in
theorem mcu_any (z : Tree → Tree → Int) (m1 m2 : List (ByteArray × Tree)) (r1 r2 : Nat) (al : Addr) (w : World) (hM1 : RepM Any w m1 r1) (hM2 : RepM Any w m2 r2) (hz : ∀ p ∈ m1, ∀ q ∈ m2, CmpU p.2 q.2 (z p.2 q.2)) :
    Calls Try.prog 143 #[.iface 172 (.pointer (some al)), .iface 316 (.map (some r1)), .iface 316 (.map (some r2))] w fun e w' => e = .returned (.int .i64 (cmpMs z m1 m2)) ∧ Ext w w' := by
  have HM1 := hid hM1
  have HM2 := hid hM2
  have HYP := hid (fun bi bl bc br ba W hE hd hC hb => mcu_hyp z m1 m2 r1 r2 al bi bl bc br ba w W hE hd hC hb hM1 hM2 hz)
  have hr1 := hM1.room
  have hr2 := hM2.room
  have hk1 := mlen_any Any m1 r1
  have hk2 := mlen_any Any m2 r2
  have L1 := hid (fun (W : World) (E : Ext w W) => hk1 W (hM1.ext E))
  have L2 := hid (fun (W : World) (E : Ext w W) => hk2 W (hM2.ext E))
  clear hM1 hM2 hz hk1 hk2
  have hcase : (m1 = [] ∧ m2 = []) ∨ (((m1.length : Int) == 0) = true ∧ ((m2.length : Int) == 0) = false) ∨ ((m1.length : Int) == 0) = false := by
    cases m1 with
    | nil => cases m2 with
      | nil => exact .inl ⟨rfl, rfl⟩
      | cons p l => exact .inr (.inl ⟨rfl, by simp; omega⟩)
    | cons p l => exact .inr (.inr (by simp; omega))
  rcases hcase with ⟨rfl, rfl⟩ | ⟨hd1, hd2⟩ | hd1
  · go_enter Try.func143, Try.ntmps143
    go_wp2_with (first
      | (go_at_call_of 210 r1; refine (L1.out _ ?_).mono ?_; exact ((((Ext.refl w).alloc _).alloc _).alloc _).alloc _; rintro e w1 ⟨rfl, rfl⟩)
      | (go_at_call_of 210 r2; refine (L2.out _ ?_).mono ?_; exact ((((Ext.refl w).alloc _).alloc _).alloc _).alloc _; rintro e w1 ⟨rfl, rfl⟩))
    go_ret
    exact ⟨rfl, ((((Ext.refl w).alloc _).alloc _).alloc _).alloc _⟩
  all_goals
    go_enter Try.func143, Try.ntmps143
    go_wp2_with (first
      | (go_at_call_of 210 r1; refine (L1.out _ ?_).mono ?_; exact ((((Ext.refl w).alloc _).alloc _).alloc _).alloc _; rintro e w1 ⟨rfl, rfl⟩)
      | (go_at_call_of 210 r2; refine (L2.out _ ?_).mono ?_; exact ((((Ext.refl w).alloc _).alloc _).alloc _).alloc _; rintro e w1 ⟨rfl, rfl⟩)
      | (go_at_call 100; refine (mzu_any _ 149 _ m1 m2 r1 r2 al _ _ _ _ (HYP.out (w.heap.size + 1 + 1 + 1 + 1) (w.heap.size + 1 + 1) (w.heap.size + 1) (w.heap.size + 1 + 1 + 1) w.heap.size _ ?_ ?_ ?_ ?_)).mono ?_; exact (((((Ext.refl w).alloc _).alloc _).alloc _).alloc _).alloc _; omega; exact mcu_cst w al m1.length m2.length; omega; rintro e w5 ⟨k, b, rfl, hst, hC5, hE5⟩; have HST := hid hst; have HE5 := hid hE5; have HC5 := hid hC5; have qc := ci_cell ⟨hC5, hE5⟩ hst; clear hst hE5 hC5))
    go_ret
    exact ⟨rfl, HE5.out⟩
end Go.Proofs.Ytempfaefopfobaa
