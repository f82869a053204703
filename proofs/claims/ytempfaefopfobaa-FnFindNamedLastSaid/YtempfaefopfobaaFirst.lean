/- First: what counts of a type's lists and maps (firstList, firstMap), of a field's defaults (defaultOf); sameStrings. -/
import Derived.Test.YtempfaefopfobaaToAtom
import Derived.Test.YtempfaefopfobaaRel
import Derived.Test.YtempfaefopfobaaCleanMap
import Derived.Test.YtempfaefopfobaaAt
import Derived.Test.YtempfaefopfobaaIs
import Derived.Test.YtempfaefopfobaaLate
import Derived.StillTailTactics

set_option maxRecDepth 100000
namespace Go.Proofs.Ytempfaefopfobaa
open Go.ChangeShapes Go.WideShapes Go.ChangeAt Go.RowKit
set_option linter.unusedVariables false
set_option linter.unusedSimpArgs false

theorem take_snoc1 {α : Type} {l : List α} {k : Nat} {p : α} (h : l[k]? = some p) : l.take (k + 1) = l.take k ++ [p] := by
  obtain ⟨hlt, he⟩ := List.getElem?_eq_some_iff.1 h
  rw [List.take_succ_eq_append_getElem hlt, he]
theorem fromT_kind' (t : Tree) : (fromT t).kind = kcode t := by cases t <;> rfl
/-- a default that counts -/
def hasD : List GV → Bool
  | [] => false
  | d :: _ => !(kcode (plainT d) == 0)
@[go_sem] theorem field_v0 (a0 a1 a2 a3 a4 a5 : Value) (w : World) : (Instr.field 32 (.agg #[a0, a1, a2, a3, a4, a5]) 0).run Try.prog w = .ok a0 w := by kernel_rfl
theorem inv7 (S : Nat → Prop) (w : World) (g : GV) (cs : List Value) (h : RepGV S w g cs) : ∃ a1 b1 c1 a2 b2 c2, cs = [.int .i64 g.kind, .int .i64 g.n, .float .f64 g.f, .string g.s, .slice a1 b1 c1, .slice a2 b2 c2] := by
  cases h with
  | mk hk hn hf hs hks hle hsz ha hcs hl =>
    obtain ⟨a, b, o, cap, rfl, _⟩ := hks
    exact ⟨_, _, _, _, _, _, rfl⟩
set_option maxHeartbeats 1000000 in
theorem firstList_any (s : ByteArray) (a : Option Addr) (n c : Nat) (q : Value) (w : World) (hle : n ≤ c) (ha : 0 < n → ∃ p, a = some p) :
    Calls Try.prog 85 #[.agg #[.string s, (.slice a n c), q]] w fun e w' => e = .returned (.slice a (if n = 0 then 0 else 1) c) ∧ Ext w w' := by
  have HE := hid ((Ext.refl w).alloc (.cells #[.string s, (.slice a n c), q] 53))
  cases n with
  | zero =>
    cases a with
    | none =>
      go_enter Try.func85, Try.ntmps85
      go_wp2_with fail
      go_ret
      exact ⟨rfl, HE.out⟩
    | some p =>
      go_enter Try.func85, Try.ntmps85
      go_wp2_with fail
      go_ret
      exact ⟨rfl, HE.out⟩
  | succ n =>
    obtain ⟨p, rfl⟩ := ha (by omega)
    go_enter Try.func85, Try.ntmps85
    go_wp2_with fail
    go_ret
    exact ⟨rfl, HE.out⟩
set_option maxHeartbeats 1000000 in
theorem firstMap_any (s : ByteArray) (a : Option Addr) (n c : Nat) (q : Value) (w : World) (hle : n ≤ c) (ha : 0 < n → ∃ p, a = some p) :
    Calls Try.prog 86 #[.agg #[.string s, q, (.slice a n c)]] w fun e w' => e = .returned (.slice a (if n = 0 then 0 else 1) c) ∧ Ext w w' := by
  have HE := hid ((Ext.refl w).alloc (.cells #[.string s, q, (.slice a n c)] 53))
  cases n with
  | zero =>
    cases a with
    | none =>
      go_enter Try.func86, Try.ntmps86
      go_wp2_with fail
      go_ret
      exact ⟨rfl, HE.out⟩
    | some p =>
      go_enter Try.func86, Try.ntmps86
      go_wp2_with fail
      go_ret
      exact ⟨rfl, HE.out⟩
  | succ n =>
    obtain ⟨p, rfl⟩ := ha (by omega)
    go_enter Try.func86, Try.ntmps86
    go_wp2_with fail
    go_ret
    exact ⟨rfl, HE.out⟩
set_option maxHeartbeats 1000000 in
theorem defaultOf_any (nm : ByteArray) (c0 c1 c2 c3 c4 c5 : Value) (da : Option Addr) (db dO dc : Nat) (ds : List GV) (w : World) (hD : SlAt Any w 6 da db dO ds.length dc) (hd : ∀ (i : Nat) (g : GV) (cs : List Value), ds[i]? = some g → cs.length = 6 → cellsAt w db (dO + i * 6) cs → RepGV Any w g cs) :
    Calls Try.prog 112 #[.agg #[.string nm, c0, c1, c2, c3, c4, c5, .slice da (ds.length) dc]] w fun e w' => e = .returned (if hasD ds then .slice da 1 dc else .slice none 0 0) ∧ Ext w w' := by
  have HE := hid ((Ext.refl w).alloc (.cells #[.string nm, c0, c1, c2, c3, c4, c5, .slice da (ds.length) dc] 156))
  cases ds with
  | nil =>
    go_enter Try.func112, Try.ntmps112
    go_wp2_with fail
    go_ret
    exact ⟨rfl, HE.out⟩
  | cons d ds =>
    obtain ⟨h1, h2, h3⟩ := hD
    obtain ⟨rfl, -⟩ := h2 (by simp)
    obtain ⟨cs, hl, hc⟩ := h3 0 (by simp)
    have hR0 := hd 0 d cs rfl hl hc
    simp only [Nat.zero_mul, Nat.add_zero] at hc
    match cs, hl with
    | [a0, a1, a2, a3, a4, a5], _ =>
    have HL := hid (show ds.length + 1 ≤ dc from h1)
    have hpos : 0 < dc := by have : ds.length + 1 ≤ dc := h1; omega
    have hlen : (d :: ds).length = ds.length + 1 := rfl
    rw [hlen] at HE ⊢
    generalize ds.length = n at *
    obtain ⟨q0, q1, q2, q3, q4, q5⟩ := cells6 (cellsAt_ext HE.out hc)
    have HX := hid (heap_alloc_new w (.cells #[.string nm, c0, c1, c2, c3, c4, c5, .slice (some ⟨db, dO, none⟩) (n + 1) dc] 156))
    have HR := hid (hR0.ext HE.out)
    clear hR0
    have hn0 : ((n : Int) + 1 == 0) = false := by simp; omega
    have hn1 : (0 : Int) < (n : Int) + 1 := by omega
    have HKD := hid (show (cleanG d).kind = kcode (plainT d) by rw [clean_eq, fromT_kind'])
    clear h2 h3 hc hd h1
    cases hk : (kcode (plainT d) == 0)
    all_goals
      have HK := hid hk
      have HKI := hid (show ((kcode (plainT d) : Int) == 0) = (kcode (plainT d) == 0) by cases plainT d <;> rfl)
      have HZ := hid (show (if hasD (d :: ds) = true then Value.slice (some ⟨db, dO, none⟩) 1 dc else Value.slice none 0 0) = (if (!(kcode (plainT d) == 0)) = true then Value.slice (some ⟨db, dO, none⟩) 1 dc else Value.slice none 0 0) from rfl)
      rw [HK.out] at HZ
      generalize (if hasD (d :: ds) = true then Value.slice (some ⟨db, dO, none⟩) 1 dc else Value.slice none 0 0) = rr at *
      clear hk
      go_enter Try.func112, Try.ntmps112
      go_wp2_with (go_at_call 32; refine (clean_any d _ _ HR.out).mono ?_; rintro e w2 ⟨cs2, rfl, hT, hE⟩; obtain ⟨a21, b21, c21, a22, b22, c22, rfl⟩ := inv7 _ _ _ _ hT; rw [HKD.out]; have hkz := HKI.out.trans HK.out; have HE2 := hid (HE.out.trans hE); have y7 := (cell_of_heap (hE.block HX.out) 7).trans rfl; clear hT hE)
    all_goals
      go_ret
      exact ⟨congrArg Ending.returned (Eq.symm HZ.out), HE2.out⟩
theorem toList_inj' {s s' : ByteArray} (h : s.toList = s'.toList) : s = s' := by
  rw [Go.ByteArray.toList_eq, Go.ByteArray.toList_eq] at h
  cases s; cases s'
  exact congrArg ByteArray.mk (Array.toList_inj.1 h)
set_option maxHeartbeats 1000000 in
theorem sameStrings_any (v v' : Value) (ss ss' : List ByteArray) (w : World) (h : RepStrs Any w v ss) (h' : RepStrs Any w v' ss') : Calls Try.prog 87 #[v, v'] w fun e w' => e = .returned (.bool (decide (ss = ss'))) ∧ Ext w w' := by
  obtain ⟨a, b, o, c, rfl, hs, hat⟩ := h.at'
  obtain ⟨a', b', o', c', rfl, hs', hat'⟩ := h'.at'
  have HK := hid hat
  have HK' := hid hat'
  clear h h' hat hat'
  by_cases hl : ss.length = ss'.length
  · have HN := hid hl
    rw [← hl]
    have HLN := hid (show ∃ n, ss.length = n ∧ ss'.length = n from ⟨_, rfl, hl.symm⟩)
    clear hl hs'
    generalize hn : ss.length = n at *
    have HNN := hid hn
    clear hn
    generalize hr : decide (ss = ss') = r
    have HRR := hid hr
    clear hr
    have hne : ((n : Int) != (n : Int)) = false := by simp
    go_enter Try.func87, Try.ntmps87
    go_wp2_with fail
    go_loopw [13] (fun i wr => ∃ k : Nat, i = .int .i64 k ∧ k ≤ n ∧ Hid (ss.take k = ss'.take k) ∧ Hid (Ext w wr)) (fun i _ => n - (intOf i).toNat)
    case atStart => exact ⟨0, rfl, Nat.zero_le _, hid rfl, hid (Ext.refl _)⟩
    case round =>
      obtain ⟨k, rfl, hk, HQ, HE⟩ := hrel
      by_cases h1 : k < n
      · obtain ⟨s, hsk⟩ : ∃ s, ss[k]? = some s := ⟨_, List.getElem?_eq_getElem (by have := HNN.out; omega)⟩
        obtain ⟨s', hsk'⟩ : ∃ s', ss'[k]? = some s' := ⟨_, List.getElem?_eq_getElem (by have := HN.out; omega)⟩
        obtain ⟨rfl, k1, -⟩ := HK.out k s hsk
        obtain ⟨rfl, k1', -⟩ := HK'.out k s' hsk'
        have j1 := HE.out.cellS k1
        have j1' := HE.out.cellS k1'
        have hi0 : (0 : Int) ≤ (k : Int) := by omega
        have hi1 : (k : Int) < (n : Int) := by omega
        have HS := hid (And.intro hsk hsk')
        clear hsk hsk' k1 k1'
        by_cases he : s = s'
        · have HE' := hid he
          have heb : (s.toList == s'.toList) = true := by rw [he]; simp
          clear he
          go_wp2_with fail
          go_quiet (fail)
          go_wp2_with fail
          exact ⟨⟨k + 1, by go_num, by omega, hid (by rw [take_snoc1 HS.out.1, take_snoc1 HS.out.2, HQ.out, HE'.out]), hid (below_drewN HE.out _)⟩, by simp [intOf]; omega⟩
        · have heb : (s.toList == s'.toList) = false := by
            cases h : (s.toList == s'.toList)
            · rfl
            · exact absurd (toList_inj' (eq_of_beq h)) he
          have HN := hid (show r = false by rw [← HRR.out]; exact decide_eq_false (fun e => he (by have h := HS.out.1; rw [e, HS.out.2] at h; exact (Option.some.inj h).symm)))
          clear he
          go_wp2_with fail
          go_quiet (fail)
          go_wp2_with fail
          go_ret
          exact ⟨congrArg (fun z => Ending.returned (.bool z)) HN.out.symm, below_drewN HE.out _⟩
      · have HN := hid (show r = true by
          rw [← HRR.out]
          refine decide_eq_true ?_
          have h := HQ.out
          rwa [List.take_of_length_le (by have := HNN.out; omega), List.take_of_length_le (by have := HNN.out; have := HN.out; omega)] at h)
        go_wp2_with fail
        go_ret
        exact ⟨congrArg (fun z => Ending.returned (.bool z)) HN.out.symm, HE.out⟩
  · have hne : ((ss.length : Int) != (ss'.length : Int)) = true := by simp [bne]; omega
    have HN := hid (show decide (ss = ss') = false from decide_eq_false fun e => hl (by rw [e]))
    generalize decide (ss = ss') = r at *
    clear hl
    go_enter Try.func87, Try.ntmps87
    go_wp2_with fail
    go_ret
    exact ⟨congrArg (fun z => Ending.returned (.bool z)) HN.out.symm, Ext.refl _⟩
end Go.Proofs.Ytempfaefopfobaa
