/- OrdVals: spec.OrderlyValues; a slice of values as what is appended. -/
import Derived.Test.YtempfaefopfobaaOrd

set_option maxRecDepth 100000
namespace Go.Proofs.Ytempfaefopfobaa
open Go.ChangeShapes Go.WideShapes Go.ChangeAt Go.RowKit
set_option linter.unusedVariables false
set_option linter.unusedSimpArgs false

set_option maxHeartbeats 1000000 in
theorem ordVals_any (lv : Value) (l : List GV) (w : World) (hv : RepVals Any w lv l) :
    Calls Try.prog 16 #[lv] w fun e w' => e = .returned (.bool (ordGs l)) ∧ Ext w w' := by
  obtain ⟨va, vb, vo, vc, rfl, vs, vat⟩ := hv.at'
  have HV := hid vat
  clear hv vat
  go_enter Try.func16, Try.ntmps16
  go_wp2_with fail
  go_loopw [7] (fun i wr => ∃ j : Nat, i = .int .i64 j ∧ j ≤ l.length ∧ Hid (ordGs (l.drop j) = ordGs l) ∧ Hid (Ext w wr)) (fun i _ => l.length - (intOf i).toNat)
  case atStart => exact ⟨0, rfl, Nat.zero_le _, hid rfl, hid (Ext.refl _)⟩
  case round =>
    obtain ⟨j, rfl, hj, HC, HE⟩ := hrel
    by_cases h1 : j < l.length
    · obtain ⟨g, hg⟩ : ∃ g, l[j]? = some g := ⟨_, List.getElem?_eq_getElem h1⟩
      obtain ⟨rfl, k1, n1, f1, s1, d1, e1, g1, d1', e1', g1', hc1, hR1⟩ := HV.out j g hg
      obtain ⟨q0, q1, q2, q3, q4, q5⟩ := cells6 (cellsAt_ext HE.out hc1)
      have hst := ordGs_step hg
      rw [HC.out] at hst
      have HCU := hid (fun W (E : Ext w W) => ord_any g W _ (hR1.ext E))
      have hi0 : (0 : Int) ≤ (j : Int) := by omega
      have hi1 : (j : Int) < (l.length : Int) := by omega
      clear hc1 hR1 hg
      cases hb : ordG g
      all_goals
        rw [hb] at hst HCU
        have HST := hid hst
        clear hst hb
        go_wp2_with (go_at_call 50; refine (HCU.out _ (HE.out.alloc _)).mono ?_; rintro e w2 ⟨rfl, hE⟩; have HE2 := hid ((HE.out.alloc _).trans hE); clear hE)
      · go_ret
        exact ⟨congrArg (fun z => Ending.returned (.bool z)) (show false = ordGs l from HST.out.symm), HE2.out⟩
      · exact ⟨⟨j + 1, by go_num, by omega, hid (by have := HST.out; simpa using this.symm), HE2⟩, by simp [intOf]; omega⟩
    · have RES := hid (show true = ordGs l by rw [← HC.out, List.drop_eq_nil_of_le (by omega)]; rfl)
      go_wp2_with fail
      go_ret
      exact ⟨congrArg (fun z => Ending.returned (.bool z)) RES.out, HE.out⟩

theorem src_vals {w : World} {a : Option Addr} {n c : Nat} {l : List GV} (h : RepVals Any w (.slice a n c) l) : n = l.length ∧ ∃ xs, RowGV Any w xs l ∧ SrcAt w a n xs := by
  obtain ⟨la, lb, lo, lc, he, hle, hsz, ha, hcs, hl⟩ := h
  simp only [Value.slice.injEq] at he
  obtain ⟨rfl, rfl, rfl⟩ := he
  obtain ⟨xs, h1, h2⟩ := row_of_rep hcs hl
  refine ⟨rfl, xs, h1, ?_⟩
  by_cases h0 : 0 < l.length
  · have := (ha h0).1
    subst this
    exact .inr ⟨_, rfl, fun j u hu => by rw [addr_add rfl]; exact h2 j u hu⟩
  · have hnil : l = [] := List.eq_nil_of_length_eq_zero (by omega)
    subst hnil
    have hx : xs = [] := List.eq_nil_of_length_eq_zero (by simpa using h1.1)
    subst hx
    cases a with
    | none => exact .inl ⟨rfl, rfl⟩
    | some ad => exact .inr ⟨ad, rfl, fun j u hu => by simp at hu⟩
theorem SrcAt.ext {w w' : World} {ao : Option Addr} {m : Nat} {news : List Value} (h : SrcAt w ao m news) (E : Ext w w') : SrcAt w' ao m news := by
  rcases h with h | ⟨ad, h1, h2⟩
  · exact .inl h
  · exact .inr ⟨ad, h1, fun j u hu => E.cellS (h2 j u hu)⟩
end Go.Proofs.Ytempfaefopfobaa
