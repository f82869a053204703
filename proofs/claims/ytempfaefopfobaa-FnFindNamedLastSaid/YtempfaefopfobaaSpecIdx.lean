/- SpecIdx: spec.fieldIndex: how many names come before a key, and whether the next one is it. -/
import Derived.Test.YtempfaefopfobaaOrder
import Derived.Deep.QuietTactic
import Derived.BigQuiet

namespace Go.Proofs.Ytempfaefopfobaa
open Go.ChangeShapes Go.WideShapes Go.ChangeAt Go.RowKit
set_option linter.unusedVariables false
set_option linter.unusedSimpArgs false

theorem box_cell (w : World) (c : Array Value) (t : TypeId) {w' : World} (h : Below (w.heap.size + 1) (w.alloc (.cells c t)) w') {j : Nat} {v : Value} (hv : c[j]? = some v) : w'.cell? ⟨w.heap.size, j, none⟩ = some v :=
  below_cell h (by simp) (by simp [hv])
theorem below_drewN {B : Nat} {a w : World} (h : Below B a w) (n : Nat) : Below B a (w.drewN n) := ⟨h.os, h.tape, h.output, h.size, h.block⟩
theorem Ext.drewN {a w : World} (h : Ext a w) (n : Nat) : Ext a (w.drewN n) := below_drewN h n

set_option maxRecDepth 100000 in
set_option maxHeartbeats 1000000 in
theorem fieldIndex_any (kd n : Int) (f : Nat) (s : ByteArray) (kv lv : Value) (ks : List ByteArray) (key : ByteArray) (w : World) {S : Nat → Prop} (hks : RepStrs S w kv ks) (hso : SortedK ks) (hl : ∃ a b c, lv = .slice a b c) :
    Calls Try.prog 102 #[.agg #[.int .i64 kd, .int .i64 n, .float .f64 f, .string s, kv, lv], .string key] w fun e w' => e = .returned (.tuple #[.int .i64 (cnt ks key), .bool (decide (ks[cnt ks key]? = some key))]) ∧ Ext w w' := by
  obtain ⟨ka, kb, ko, kc, rfl, hkle, hksz, hka, hkc, hkl⟩ := hks
  obtain ⟨a1, b1, c1, rfl⟩ := hl
  have HK := hid hkc
  have HS := hid hso
  clear hkc hkl hso
  go_enter Try.func102, Try.ntmps102
  go_wp2_with fail
  go_quiet (fail)
  go_wp2_with fail
  go_loopw [6, 7] (fun lo hi wr => ∃ (l h : Nat), lo = .int .i64 l ∧ hi = .int .i64 h ∧ l ≤ h ∧ h ≤ ks.length ∧ Hid (∀ j a, j < l → ks[j]? = some a → blt a key = true) ∧ Hid (∀ j a, h ≤ j → ks[j]? = some a → blt a key = false) ∧
      Below (w.heap.size + 1) (w.alloc (.cells #[.int .i64 kd, .int .i64 n, .float .f64 f, .string s, .slice ka ks.length kc, .slice a1 b1 c1] 32)) wr) (fun lo hi _ => ((intOf hi) - (intOf lo)).toNat)
  case atStart =>
    refine ⟨0, ks.length, rfl, rfl, Nat.zero_le _, Nat.le_refl _, hid (fun j a h => absurd h (by omega)), hid (fun j a h ha => ?_), ?_⟩
    · rw [List.getElem?_eq_none (by omega)] at ha; cases ha
    · exact below_drewN (Below.refl _ _) _
  case round =>
    obtain ⟨l, h, rfl, rfl, hlh, hh, hL, hH, hB⟩ := hrel
    have hbox := box_cell w _ _ hB (j := 4) rfl
    by_cases hlt : l < h
    · have ha2 := (hka (by omega)).1
      subst ha2
      obtain ⟨a, ha⟩ : ∃ a, ks[l + (h - l) / 2]? = some a := ⟨_, List.getElem?_eq_getElem (by omega)⟩
      have hcell := (ext_of_below hB).cellS (HK.out _ a ha)
      have HA := hid ha
      clear ha
      cases hb : blt a key with
      | true =>
        have hb' : Op.bytesLess a.toList key.toList = true := hb
        have HB := hid hb
        clear hb
        go_wp2_with fail
        go_roundw
        case rel =>
          refine ⟨l + (h - l) / 2 + 1, h, by go_num, rfl, by omega, hh, hid (fun j b hj hb => ?_), hH, hB⟩
          by_cases e : j = l + (h - l) / 2
          · subst e
            rw [HA.out] at hb; cases hb; exact HB.out
          · exact blt_trans (HS.out.get hb HA.out (by omega)) HB.out
        case measure => simp [intOf]; omega
      | false =>
        have hb' : Op.bytesLess a.toList key.toList = false := hb
        have HB := hid hb
        clear hb
        go_wp2_with fail
        go_roundw
        case rel =>
          refine ⟨l, l + (h - l) / 2, rfl, by go_num, by omega, by omega, hL, hid (fun j b hj hb => ?_), hB⟩
          by_cases e : j = l + (h - l) / 2
          · subst e
            rw [HA.out] at hb; cases hb; exact HB.out
          · have h1 := HS.out.get HA.out hb (by omega)
            cases hc : blt b key with
            | false => rfl
            | true => have := blt_trans h1 hc; rw [HB.out] at this; cases this
        case measure => simp [intOf]; omega
    · obtain rfl : l = h := by omega
      have hc : cnt ks key = l := cnt_eq hh hL.out (fun a ha => hH.out l a (by omega) ha)
      have HC := hid hc
      clear hc
      by_cases hll : l < ks.length
      · have ha2 := (hka (by omega)).1
        subst ha2
        obtain ⟨a, ha⟩ : ∃ a, ks[l]? = some a := ⟨_, List.getElem?_eq_getElem hll⟩
        have hcell := (ext_of_below hB).cellS (HK.out _ a ha)
        have HA := hid ha
        clear ha
        go_wp2_with fail
        go_quiet (fail)
        go_wp2_with fail
        go_ret2
        refine ⟨?_, (ext_of_below hB).drewN _⟩
        show Ending.returned (.tuple #[.int .i64 l, .bool (a.toList == key.toList)]) = _
        rw [HC.out, HA.out, ba_toList_beq]
        simp
      · go_wp2_with fail
        have hd : decide ((l : Int) < (ks.length : Int)) = false := by simpa using hll
        go_quiet (fail)
        go_wp2_with fail
        go_ret2
        refine ⟨?_, (ext_of_below hB).drewN _⟩
        show Ending.returned (.tuple #[.int .i64 l, .bool false]) = _
        rw [HC.out, List.getElem?_eq_none (by omega)]
        simp
end Go.Proofs.Ytempfaefopfobaa
