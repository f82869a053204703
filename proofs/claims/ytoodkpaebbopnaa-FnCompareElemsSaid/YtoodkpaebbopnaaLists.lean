/- Lists: impl's lists of values: toList, CompareLists, EqualLists; spec.OrderlyValues; laws.joined. -/
import Derived.Test.YtoodkpaebbopnaaEquAll
import Derived.Test.YtoodkpaebbopnaaRefl
set_option maxRecDepth 100000
namespace Go.Proofs.Ytoodkpaebbopnaa
open Go.ChangeShapes Go.WideShapes Go.ChangeAt Go.RowKit
set_option linter.unusedVariables false
set_option linter.unusedSimpArgs false

theorem aslist_any (a : Option Addr) (n c : Nat) (w : World) : Calls Try.prog 150 #[.agg #[.iface 111 (.slice a n c)]] w fun e w' => e = .returned (.iface 212 (.slice a n c)) ∧ Ext w w' := by
  go_enter Try.func150, Try.ntmps150
  go_wp2_with (go_at_call 151; refine (aslu_any _ _ _ _ _).mono ?_; rintro e w' ⟨rfl, hg⟩)
  go_ret
  exact ⟨rfl, (((Ext.refl _).alloc _).alloc _).trans hg⟩
/-- a list of the package -/
def LstAt (w : World) (l : List Tree) (x : Value) : Prop := ∃ a c, x = .iface 212 (.slice a l.length c) ∧ l.length ≤ 140737488351232 ∧ ItemsAt w l a
theorem LstAt.ext {w w' : World} {l : List Tree} {x : Value} (h : LstAt w l x) (E : Ext w w') : LstAt w' l x := by
  obtain ⟨a, c, rfl, hn, hi⟩ := h
  exact ⟨a, c, rfl, hn, hi.ext E⟩
theorem toList_any (v : Value) (l : List GV) (w : World) (hv : RepVals Any w v l) : Calls Try.prog 60 #[v] w fun e w' => ∃ x, e = .returned x ∧ LstAt w' (plainTs l) x ∧ Ext w w' := by
  have hR : RepGV Any w (.mk 5 0 0 ⟨#[]⟩ [] l) [.int .i64 5, .int .i64 0, .float .f64 0, .string ⟨#[]⟩, .slice none 0 0, v] := repGV_of (by decide) (by decide) (by decide) (by decide) (RepStrs.nil Any w) hv
  have hp : plainT (.mk 5 0 0 ⟨#[]⟩ [] l) = .list (plainTs l) := by simp [plainT]
  have HV := hid (toValue_any _ w _ hR)
  obtain ⟨la, lb, lo, lc, rfl, _⟩ := hv
  clear hR
  go_enter Try.func60, Try.ntmps60
  go_wp2_with (first
    | (go_at_call 54; refine HV.out.mono ?_; rintro e w2 ⟨x, rfl, hx, hE⟩; rw [hp] at hx; obtain ⟨b, v, rfl, -, hb, hT⟩ := hx; obtain ⟨a, c, rfl, hn, hi⟩ := hT.toL; have HI := hid hi; have HN := hid hn; have HE := hid hE; have q := (cell_of_heap hb 0).trans rfl; clear hb hT hi hn hE hp)
    | (go_at_call 150; refine (aslist_any _ _ _ _).mono ?_; rintro e w3 ⟨rfl, hE⟩; have HE3 := hid hE; clear hE))
  go_ret
  exact ⟨_, rfl, ⟨a, c, rfl, HN.out, HI.out.ext HE3.out⟩, HE.out.trans HE3.out⟩
theorem lc_any (l1 l2 : List Tree) (x1 x2 : Value) (w : World) (h1 : LstAt w l1 x1) (h2 : LstAt w l2 x2) : Calls Try.prog 61 #[x1, x2] w fun e w' => e = .returned (.int .i64 (cmpLs cmpT l1 l2)) ∧ Ext w w' := by
  obtain ⟨a1, c1, rfl, hn1, hi1⟩ := h1
  obtain ⟨a2, c2, rfl, hn2, hi2⟩ := h2
  have HI1 := hid hi1
  have HI2 := hid hi2
  have HN1 := hid hn1
  have HN2 := hid hn2
  clear hi1 hi2 hn1 hn2
  go_enter Try.func61, Try.ntmps61
  go_wp2_with (go_at_call 102; refine (lcu_any cmpT l1 l2 _ a1 a2 c1 c2 _ HN1.out HN2.out (HI1.out.ext ((Ext.refl w).alloc _)) (HI2.out.ext ((Ext.refl w).alloc _)) (fun a _ b _ => cmpU a b)).mono ?_; rintro e w2 ⟨rfl, hE⟩; have HE := hid hE; clear hE)
  go_ret
  exact ⟨rfl, ((Ext.refl w).alloc _).trans HE.out⟩
theorem le_any (l1 l2 : List Tree) (x1 x2 : Value) (w : World) (h1 : LstAt w l1 x1) (h2 : LstAt w l2 x2) : Calls Try.prog 59 #[x1, x2] w fun e w' => e = .returned (.bool (eqLs eqT l1 l2)) ∧ Ext w w' := by
  obtain ⟨a1, c1, rfl, hn1, hi1⟩ := h1
  obtain ⟨a2, c2, rfl, hn2, hi2⟩ := h2
  have HI1 := hid hi1
  have HI2 := hid hi2
  have HN1 := hid hn1
  have HN2 := hid hn2
  clear hi1 hi2 hn1 hn2
  go_enter Try.func59, Try.ntmps59
  go_wp2_with (go_at_call 101; refine (leu_any_v eqT l1 l2 _ a1 a2 c1 c2 _ HN1.out (HI1.out.ext ((Ext.refl w).alloc _)) (HI2.out.ext ((Ext.refl w).alloc _)) (fun a _ b _ => equU a b)).mono ?_; rintro e w2 ⟨rfl, hE⟩; have HE := hid hE; clear hE)
  go_ret
  exact ⟨rfl, ((Ext.refl w).alloc _).trans HE.out⟩
theorem clists_any (l1 l2 : List GV) (v1 v2 : Value) (w : World) (h1 : RepVals Any w v1 l1) (h2 : RepVals Any w v2 l2) : Calls Try.prog 26 #[v1, v2] w fun e w' => e = .returned (.int .i64 (cmpLs cmpT (plainTs l1) (plainTs l2))) ∧ Ext w w' := by
  have T1 := hid (toList_any v1 l1 w h1)
  have H2 := hid h2
  obtain ⟨a1, b1, o1, c1, rfl, -⟩ := h1
  obtain ⟨a2, b2, o2, c2, rfl, -⟩ := h2
  have tk : True := trivial
  go_enter Try.func26, Try.ntmps26
  go_wp2_with (first
    | (go_at_call 60; have _t := tk; refine T1.out.mono ?_; rintro e w2 ⟨x1, rfl, hx, hE⟩; have HX1 := hid hx; have HE1 := hid hE; obtain ⟨aa, cc, rfl, -⟩ := hx; clear hE tk _t)
    | (go_at_call 60; refine (toList_any _ l2 _ (H2.out.ext HE1.out)).mono ?_; rintro e w3 ⟨x2, rfl, hx, hE⟩; have HX2 := hid hx; have HE2 := hid hE; obtain ⟨aa', cc', rfl, -⟩ := hx; clear hE)
    | (go_at_call 61; refine (lc_any _ _ _ _ _ (HX1.out.ext HE2.out) HX2.out).mono ?_; rintro e w4 ⟨rfl, hE⟩; have HE3 := hid hE; clear hE))
  go_ret
  exact ⟨rfl, (HE1.out.trans HE2.out).trans HE3.out⟩
theorem elists_any (l1 l2 : List GV) (v1 v2 : Value) (w : World) (h1 : RepVals Any w v1 l1) (h2 : RepVals Any w v2 l2) : Calls Try.prog 25 #[v1, v2] w fun e w' => e = .returned (.bool (eqLs eqT (plainTs l1) (plainTs l2))) ∧ Ext w w' := by
  have T1 := hid (toList_any v1 l1 w h1)
  have H2 := hid h2
  obtain ⟨a1, b1, o1, c1, rfl, -⟩ := h1
  obtain ⟨a2, b2, o2, c2, rfl, -⟩ := h2
  have tk : True := trivial
  go_enter Try.func25, Try.ntmps25
  go_wp2_with (first
    | (go_at_call 60; have _t := tk; refine T1.out.mono ?_; rintro e w2 ⟨x1, rfl, hx, hE⟩; have HX1 := hid hx; have HE1 := hid hE; obtain ⟨aa, cc, rfl, -⟩ := hx; clear hE tk _t)
    | (go_at_call 60; refine (toList_any _ l2 _ (H2.out.ext HE1.out)).mono ?_; rintro e w3 ⟨x2, rfl, hx, hE⟩; have HX2 := hid hx; have HE2 := hid hE; obtain ⟨aa', cc', rfl, -⟩ := hx; clear hE)
    | (go_at_call 59; refine (le_any _ _ _ _ _ (HX1.out.ext HE2.out) HX2.out).mono ?_; rintro e w4 ⟨rfl, hE⟩; have HE3 := hid hE; clear hE))
  go_ret
  exact ⟨rfl, (HE1.out.trans HE2.out).trans HE3.out⟩
set_option maxHeartbeats 1000000 in
theorem ordVals_any (lv : Value) (l : List GV) (w : World) (hv : RepVals Any w lv l) :
    Calls Try.prog 24 #[lv] w fun e w' => e = .returned (.bool (ordGs l)) ∧ Ext w w' := by
  obtain ⟨va, vb, vo, vc, rfl, vs, vat⟩ := hv.at'
  have HV := hid vat
  clear hv vat
  go_enter Try.func24, Try.ntmps24
  go_wp2_with fail
  go_loopw [7] (fun i wr => ∃ j : Nat, i = .int .i64 j ∧ j ≤ l.length ∧ Hid (ordGs (l.drop j) = ordGs l) ∧ Hid (Ext w wr)) (fun i _ => l.length - (intOf i).toNat)
  case atStart => exact ⟨0, rfl, Nat.zero_le _, hid rfl, hid (Ext.refl _)⟩
  case round =>
    obtain ⟨j, rfl, hj, HC, HE⟩ := hrel
    by_cases h1 : j < l.length
    · obtain ⟨g, hg⟩ : ∃ g, l[j]? = some g := ⟨_, List.getElem?_eq_getElem h1⟩
      obtain ⟨rfl, k1, n1, f1, s1, d1, e1, g1, d1', e1', g1', hc1, hR1⟩ := HV.out j g hg
      obtain ⟨q0, q1, q2, q3, q4, q5⟩ := cells6 (cellsAt_ext HE.out hc1)
      have hst := ordGs_step hg
      rw [HC.out] at hst
      have HCU := hid (fun W (E : Ext w W) => ord_any g W _ (hR1.ext E))
      have hi0 : (0 : Int) ≤ (j : Int) := by omega
      have hi1 : (j : Int) < (l.length : Int) := by omega
      clear hc1 hR1 hg
      cases hb : ordG g
      all_goals
        rw [hb] at hst HCU
        have HST := hid hst
        clear hst hb
        go_wp2_with (go_at_call 15; refine (HCU.out _ (HE.out.alloc _)).mono ?_; rintro e w2 ⟨rfl, hE⟩; have HE2 := hid ((HE.out.alloc _).trans hE); clear hE)
      · go_ret
        exact ⟨congrArg (fun z => Ending.returned (.bool z)) (show false = ordGs l from HST.out.symm), HE2.out⟩
      · exact ⟨⟨j + 1, by go_num, by omega, hid (by have := HST.out; simpa using this.symm), HE2⟩, by simp [intOf]; omega⟩
    · have RES := hid (show true = ordGs l by rw [← HC.out, List.drop_eq_nil_of_le (by omega)]; rfl)
      go_wp2_with fail
      go_ret
      exact ⟨congrArg (fun z => Ending.returned (.bool z)) RES.out, HE.out⟩

theorem src_vals {w : World} {a : Option Addr} {n c : Nat} {l : List GV} (h : RepVals Any w (.slice a n c) l) : n = l.length ∧ ∃ xs, RowGV Any w xs l ∧ SrcAt w a n xs := by
  obtain ⟨la, lb, lo, lc, he, hle, hsz, ha, hcs, hl⟩ := h
  simp only [Value.slice.injEq] at he
  obtain ⟨rfl, rfl, rfl⟩ := he
  obtain ⟨xs, h1, h2⟩ := row_of_rep hcs hl
  refine ⟨rfl, xs, h1, ?_⟩
  by_cases h0 : 0 < l.length
  · have := (ha h0).1
    subst this
    exact .inr ⟨_, rfl, fun j u hu => by rw [addr_add rfl]; exact h2 j u hu⟩
  · have hnil : l = [] := List.eq_nil_of_length_eq_zero (by omega)
    subst hnil
    have hx : xs = [] := List.eq_nil_of_length_eq_zero (by simpa using h1.1)
    subst hx
    cases a with
    | none => exact .inl ⟨rfl, rfl⟩
    | some ad => exact .inr ⟨ad, rfl, fun j u hu => by simp at hu⟩
theorem SrcAt.ext {w w' : World} {ao : Option Addr} {m : Nat} {news : List Value} (h : SrcAt w ao m news) (E : Ext w w') : SrcAt w' ao m news := by
  rcases h with h | ⟨ad, h1, h2⟩
  · exact .inl h
  · exact .inr ⟨ad, h1, fun j u hu => E.cellS (h2 j u hu)⟩
theorem joined_any (v1 v2 : Value) (l1 l2 : List GV) (w : World) (h1 : RepVals Any w v1 l1) (h2 : RepVals Any w v2 l2) (hn1 : l1.length ≤ 2147483647) (hn2 : l2.length ≤ 2147483647) :
    Calls Try.prog 27 #[v1, v2] w fun e w' => ∃ v, e = .returned v ∧ RepVals Any w' v (l1 ++ l2) ∧ Ext w w' := by
  obtain ⟨i0, hi, hz0, hz1, hz2⟩ := info_parts info_val
  obtain ⟨a1, b1, o1, c1, rfl, -⟩ := id h1
  obtain ⟨a2, b2, o2, c2, rfl, -⟩ := id h2
  obtain ⟨-, xs1, hr1, hs1⟩ := src_vals h1
  obtain ⟨-, xs2, hr2, hs2⟩ := src_vals h2
  have HR1 := hid hr1
  have HR2 := hid hr2
  have HS1 := hid hs1
  have HS2 := hid hs2
  clear h1 h2 hr1 hr2 hs1 hs2
  go_enter Try.func27, Try.ntmps27
  have hown0 := World.ownsRow_lit (base := w.heap.size) (e := 26) (size := 6) w #[] 0 (Nat.le_refl _) (by decide) (by simp)
  have HO0 := hid hown0
  clear hown0
  go_wp2_with (first
    | (at_builtin; refine wpList_append_src _ rfl (.tmp 5) (.tmp 6) 24 rfl w.heap.size 26 i0 _ 6 88 Try.underlying24 hi hz0 hz1 hz2 rfl (by decide) _ 0 [] rfl HO0.out a1 l1.length c1 xs1 rfl HR1.out.1 (HS1.out.ext ((Ext.refl w).alloc _)) HR1.out.oneCell (by unfold maxLen; omega) (by omega) (by simp) ?_; intro a' c' w3 hown3 hg3 hat; simp only [Nat.zero_add, List.nil_append] at hown3; have HO3 := hid hown3; have HE3 := hid (show Ext w w3 from ext_own ((Ext.refl w).alloc _) hg3 (fun g e => by cases e; exact Nat.le_refl _)); clear hown3 hg3 hat)
    | (at_builtin; refine wpList_append_src _ rfl (.tmp 7) (.tmp 8) 24 rfl w.heap.size 26 i0 _ 6 88 Try.underlying24 hi hz0 hz1 hz2 rfl (by decide) _ l1.length xs1 rfl HO3.out a2 l2.length c2 xs2 rfl HR2.out.1 (HS2.out.ext HE3.out) HR2.out.oneCell (by unfold maxLen; omega) (by omega) HE3.out.size ?_; intro a'' c'' w4 hown4 hg4 hat; have HO4 := hid hown4; have HE4 := hid (show Ext w w4 from ext_own HE3.out hg4 (own_ge HO3.out)); clear hown4 hg4 hat))
  go_ret
  have hrow : RowGV Any w4 (xs1 ++ xs2) (l1 ++ l2) := by
    exact (RowGV.append (HR1.out.mono (HE4.out.same _) (fun _ _ _ => trivial)) (HR2.out.mono (HE4.out.same _) (fun _ _ _ => trivial)))
  obtain ⟨hn, hle, lb, h1, h2, h3⟩ := vals_of_row HO4.out hrow (S := Any) (fun _ _ => trivial)
  refine ⟨_, rfl, ⟨a'', lb, 0, c'', by rw [hn]; rfl, hle, by simp only [List.length_append]; omega, h1, h2, h3⟩, HE4.out⟩
end Go.Proofs.Ytoodkpaebbopnaa
