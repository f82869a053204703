/- Ord: names that differ at every level; no NaN, no whole number beyond 2^53: spec.Orderly. -/
import Derived.Test.YtempfaefopfobaaCmpM
import Derived.Test.YtempfaefopfobaaFits
import Derived.Test.YtempfaefopfobaaAt
import Derived.Deep.RegionHeld3

set_option maxRecDepth 100000
namespace Go.Proofs.Ytempfaefopfobaa
open Go.ChangeShapes Go.WideShapes Go.ChangeAt Go.RowKit
set_option linter.unusedVariables false
set_option linter.unusedSimpArgs false

theorem cmpLs_end {z : Tree → Tree → Int} {l1 l2 : List Tree} {k : Nat} (h : l1.length ≤ k ∨ l2.length ≤ k) (h1 : k ≤ l1.length) (h2 : k ≤ l2.length) : cmpLs z (l1.drop k) (l2.drop k) = icmp l1.length l2.length := by
  unfold icmp
  rcases Nat.lt_or_ge k l1.length with g1 | g1
  · have g2 : l2.length ≤ k := by omega
    rw [List.drop_eq_nil_of_le g2, List.drop_eq_getElem_cons g1, if_neg (by omega), if_pos (by omega)]; rfl
  · rw [List.drop_eq_nil_of_le g1]
    rcases Nat.lt_or_ge k l2.length with g2 | g2
    · rw [List.drop_eq_getElem_cons g2, if_pos (by omega)]; rfl
    · rw [List.drop_eq_nil_of_le g2, if_neg (by omega), if_neg (by omega)]; rfl
theorem cmpFs_end {z : Tree → Tree → Int} {l1 l2 : List (ByteArray × Tree)} {k : Nat} (h : l1.length ≤ k ∨ l2.length ≤ k) (h1 : k ≤ l1.length) (h2 : k ≤ l2.length) : cmpFs z (l1.drop k) (l2.drop k) = icmp l1.length l2.length := by
  unfold icmp
  rcases Nat.lt_or_ge k l1.length with g1 | g1
  · have g2 : l2.length ≤ k := by omega
    rw [List.drop_eq_nil_of_le g2, List.drop_eq_getElem_cons g1, if_neg (by omega), if_pos (by omega)]; rfl
  · rw [List.drop_eq_nil_of_le g1]
    rcases Nat.lt_or_ge k l2.length with g2 | g2
    · rw [List.drop_eq_getElem_cons g2, if_pos (by omega)]; rfl
    · rw [List.drop_eq_nil_of_le g2, if_neg (by omega), if_neg (by omega)]; rfl
theorem cmpFs_step {z : Tree → Tree → Int} {l1 l2 : List (ByteArray × Tree)} {k : Nat} {p q : ByteArray × Tree} (h1 : l1[k]? = some p) (h2 : l2[k]? = some q) :
    cmpFs z (l1.drop k) (l2.drop k) = if blt p.1 q.1 = true then -1 else if blt q.1 p.1 = true then 1 else if z p.2 q.2 = 0 then cmpFs z (l1.drop (k + 1)) (l2.drop (k + 1)) else z p.2 q.2 := by
  obtain ⟨h3, rfl⟩ := List.getElem?_eq_some_iff.1 h1
  obtain ⟨h4, rfl⟩ := List.getElem?_eq_some_iff.1 h2
  rw [List.drop_eq_getElem_cons h3, List.drop_eq_getElem_cons h4]
  rfl
/-- names differ, at every level -/
inductive WfT : Tree → Prop
  | null : WfT .null
  | bool (b : Bool) : WfT (.bool b)
  | int (n : Int) : WfT (.int n)
  | flt (f : Nat) : WfT (.flt f)
  | str (s : ByteArray) : WfT (.str s)
  | list (l : List Tree) (h : ∀ t ∈ l, WfT t) : WfT (.list l)
  | map (m : List (ByteArray × Tree)) (hn : (m.map (·.1)).Nodup) (h : ∀ p ∈ m, WfT p.2) : WfT (.map m)
theorem ins_all {P : Tree → Prop} : ∀ (m : List (ByteArray × Tree)) (key : ByteArray) (t : Tree), (∀ p ∈ m, P p.2) → P t → ∀ p ∈ insKV m key t, P p.2
  | [], key, t, _, ht, p, hp => by simp [insKV] at hp; subst hp; exact ht
  | q :: m, key, t, hm, ht, p, hp => by
    unfold insKV at hp
    split at hp
    · rcases List.mem_cons.1 hp with rfl | hp
      · exact ht
      · exact hm p (by simp [hp])
    · rcases List.mem_cons.1 hp with rfl | hp
      · exact hm _ (by simp)
      · exact ins_all m key t (fun p hp => hm p (by simp [hp])) ht p hp
theorem fold_all {P : Tree → Prop} : ∀ (r m : List (ByteArray × Tree)), (∀ p ∈ m, P p.2) → (∀ p ∈ r, P p.2) → ∀ p ∈ foldKV r m, P p.2
  | [], m, hm, _ => by simpa [foldKV] using hm
  | q :: r, m, hm, hr => by
    unfold foldKV
    exact fold_all r _ (ins_all m q.1 q.2 hm (hr q (by simp))) (fun p hp => hr p (by simp [hp]))
theorem wf_plain : ∀ (N : Nat) (g : GV), SizeOf.sizeOf g ≤ N → WfT (plainT g)
  | 0, g, h => by cases g; simp at h
  | N + 1, .mk k n f s ks l, h => by
    have hl : ∀ t ∈ plainTs l, WfT t := by
      intro t ht
      obtain ⟨j, hj⟩ := List.mem_iff_getElem?.1 ht
      obtain ⟨g, hg, rfl⟩ := plainTs_get hj
      exact wf_plain N g (by have := GV.size_mk k n f s ks l hg; omega)
    unfold plainT
    split
    · exact .bool _
    · split
      · exact .int _
      · split
        · exact .flt _
        · split
          · exact .str _
          · split
            · exact .list _ hl
            · split
              · refine .map _ (rel_clean (.mk k n f s ks l)).nodup (fold_all _ _ (by simp) fun p hp => hl p.2 ?_)
                exact (List.of_mem_zip (by simpa using hp : (p.1, p.2) ∈ ks.zip (plainTs l))).2
              · exact .null
theorem wfT (g : GV) : WfT (plainT g) := wf_plain _ g (Nat.le_refl _)

theorem RepGV.inv {S : Nat → Prop} {w : World} {g : GV} {cs : List Value} (h : RepGV S w g cs) : ∃ a1 b1 c1 a2 b2 c2, cs = [.int .i64 g.kind, .int .i64 g.n, .float .f64 g.f, .string g.s, .slice a1 b1 c1, .slice a2 b2 c2] ∧ RepStrs S w (.slice a1 b1 c1) g.keys ∧ RepVals S w (.slice a2 b2 c2) g.l ∧ g.s.size ≤ 140737488351232 := by
  have hv : ∀ c0 c1 c2 c3 c4 c5, cs = [c0, c1, c2, c3, c4, c5] → RepVals S w c5 g.l := fun c0 c1 c2 c3 c4 c5 e => by subst e; exact h.vals
  cases h with
  | @mk k n f s keys l kv la lb lo lc hk hn hf hs hks hle hsz ha hcs hl =>
    have hv' := hv _ _ _ _ _ _ rfl
    have hks' := hks
    obtain ⟨a, b, o, cap, rfl, _⟩ := hks
    exact ⟨_, _, _, _, _, _, rfl, hks', hv', hs⟩
theorem srt_vals (m : List (ByteArray × Tree)) : (sortN (m.map (·.1))).map (lookG (fromTm m)) = (srt m).map fun p => fromT p.2 := by
  unfold srt
  rw [List.map_map]
  refine List.map_congr_left fun k _ => ?_
  rw [lookG_fromTm]
  show _ = fromT ((lookKV m k).getD .null)
  cases lookKV m k <;> rfl
theorem srt_mem {m : List (ByteArray × Tree)} {p : ByteArray × Tree} (h : p ∈ srt m) : p ∈ m := lookKV_in (srt_look h)
def feq (a b : Nat) : Bool := FloatKind.f64.format.order a b == some .eq
mutual
/-- no NaN, no whole number beyond 2^53 -/
def ordG : GV → Bool
  | .mk k n f s ks l => if k = 2 then decide (-9007199254740992 ≤ n) && decide (n ≤ 9007199254740992) else if k = 3 then feq f f else if k = 5 then ordGs l else if k = 6 then ordGs l else true
def ordGs : List GV → Bool
  | [] => true
  | g :: l => ordG g && ordGs l
end
theorem ordGs_eq (l : List GV) : ordGs l = l.all ordG := by
  induction l with
  | nil => rfl
  | cons g l ih => simp [ordGs, ih]
theorem ordGs_step {l : List GV} {k : Nat} {g : GV} (h : l[k]? = some g) : ordGs (l.drop k) = (ordG g && ordGs (l.drop (k + 1))) := by
  obtain ⟨h1, rfl⟩ := List.getElem?_eq_some_iff.1 h
  rw [List.drop_eq_getElem_cons h1]
  rfl
def OrdOK (g : GV) : Prop := ∀ w cs, RepGV Any w g cs → Calls Try.prog 50 #[.agg cs.toArray] w fun e w' => e = .returned (.bool (ordG g)) ∧ Ext w w'
set_option maxHeartbeats 1000000 in
theorem ord_l5 (n : Int) (f : Nat) (s : ByteArray) (ka : Option Addr) (kb kc : Nat) (lv : Value) (l : List GV) (ih : ∀ (i : Nat) (g : GV), l[i]? = some g → OrdOK g) (w : World) (hv : RepVals Any w lv l) :
    Calls Try.prog 50 #[.agg #[.int .i64 5, .int .i64 n, .float .f64 f, .string s, .slice ka kb kc, lv]] w fun e w' => e = .returned (.bool (ordGs l)) ∧ Ext w w' := by
  obtain ⟨va, vb, vo, vc, rfl, vs, vat⟩ := hv.at'
  have HV := hid vat
  have HI := hid ih
  clear hv vat ih
  go_enter Try.func50, Try.ntmps50
  go_wp2_with fail
  have HE1 := hid ((Ext.refl w).alloc (.cells #[.int .i64 5, .int .i64 n, .float .f64 f, .string s, .slice ka kb kc, .slice va l.length vc] 32))
  generalize w.alloc (.cells #[.int .i64 5, .int .i64 n, .float .f64 f, .string s, .slice ka kb kc, .slice va l.length vc] 32) = w1 at *
  go_loopw [30] (fun i wr => ∃ j : Nat, i = .int .i64 j ∧ j ≤ l.length ∧ Hid (ordGs (l.drop j) = ordGs l) ∧ Hid (Ext w wr)) (fun i _ => l.length - (intOf i).toNat)
  case atStart => exact ⟨0, rfl, Nat.zero_le _, hid rfl, HE1⟩
  case round =>
    obtain ⟨j, rfl, hj, HC, HE⟩ := hrel
    by_cases h1 : j < l.length
    · obtain ⟨g, hg⟩ : ∃ g, l[j]? = some g := ⟨_, List.getElem?_eq_getElem h1⟩
      obtain ⟨rfl, k1, n1, f1, s1, d1, e1, g1, d1', e1', g1', hc1, hR1⟩ := HV.out j g hg
      obtain ⟨q0, q1, q2, q3, q4, q5⟩ := cells6 (cellsAt_ext HE.out hc1)
      have hst := ordGs_step hg
      rw [HC.out] at hst
      have HCU := hid (fun W (E : Ext w W) => HI.out j g hg W _ (hR1.ext E))
      have hi0 : (0 : Int) ≤ (j : Int) := by omega
      have hi1 : (j : Int) < (l.length : Int) := by omega
      clear hc1 hR1 hg
      cases hb : ordG g
      all_goals
        rw [hb] at hst HCU
        have HST := hid hst
        clear hst hb
        go_wp2_with (go_at_call 50; refine (HCU.out _ (HE.out.alloc _)).mono ?_; rintro e w2 ⟨rfl, hE⟩; have HE2 := hid ((HE.out.alloc _).trans hE); clear hE)
      · go_ret
        exact ⟨congrArg (fun z => Ending.returned (.bool z)) (show false = ordGs l from HST.out.symm), HE2.out⟩
      · exact ⟨⟨j + 1, by go_num, by omega, hid (by have := HST.out; simpa using this.symm), HE2⟩, by simp [intOf]; omega⟩
    · have RES := hid (show true = ordGs l by rw [← HC.out, List.drop_eq_nil_of_le (by omega)]; rfl)
      go_wp2_with fail
      go_ret
      exact ⟨congrArg (fun z => Ending.returned (.bool z)) RES.out, HE.out⟩
set_option maxHeartbeats 1000000 in
theorem ord_l6 (n : Int) (f : Nat) (s : ByteArray) (ka : Option Addr) (kb kc : Nat) (lv : Value) (l : List GV) (ih : ∀ (i : Nat) (g : GV), l[i]? = some g → OrdOK g) (w : World) (hv : RepVals Any w lv l) :
    Calls Try.prog 50 #[.agg #[.int .i64 6, .int .i64 n, .float .f64 f, .string s, .slice ka kb kc, lv]] w fun e w' => e = .returned (.bool (ordGs l)) ∧ Ext w w' := by
  obtain ⟨va, vb, vo, vc, rfl, vs, vat⟩ := hv.at'
  have HV := hid vat
  have HI := hid ih
  clear hv vat ih
  go_enter Try.func50, Try.ntmps50
  go_wp2_with fail
  have HE1 := hid ((Ext.refl w).alloc (.cells #[.int .i64 6, .int .i64 n, .float .f64 f, .string s, .slice ka kb kc, .slice va l.length vc] 32))
  generalize w.alloc (.cells #[.int .i64 6, .int .i64 n, .float .f64 f, .string s, .slice ka kb kc, .slice va l.length vc] 32) = w1 at *
  go_loopw [30] (fun i wr => ∃ j : Nat, i = .int .i64 j ∧ j ≤ l.length ∧ Hid (ordGs (l.drop j) = ordGs l) ∧ Hid (Ext w wr)) (fun i _ => l.length - (intOf i).toNat)
  case atStart => exact ⟨0, rfl, Nat.zero_le _, hid rfl, HE1⟩
  case round =>
    obtain ⟨j, rfl, hj, HC, HE⟩ := hrel
    by_cases h1 : j < l.length
    · obtain ⟨g, hg⟩ : ∃ g, l[j]? = some g := ⟨_, List.getElem?_eq_getElem h1⟩
      obtain ⟨rfl, k1, n1, f1, s1, d1, e1, g1, d1', e1', g1', hc1, hR1⟩ := HV.out j g hg
      obtain ⟨q0, q1, q2, q3, q4, q5⟩ := cells6 (cellsAt_ext HE.out hc1)
      have hst := ordGs_step hg
      rw [HC.out] at hst
      have HCU := hid (fun W (E : Ext w W) => HI.out j g hg W _ (hR1.ext E))
      have hi0 : (0 : Int) ≤ (j : Int) := by omega
      have hi1 : (j : Int) < (l.length : Int) := by omega
      clear hc1 hR1 hg
      cases hb : ordG g
      all_goals
        rw [hb] at hst HCU
        have HST := hid hst
        clear hst hb
        go_wp2_with (go_at_call 50; refine (HCU.out _ (HE.out.alloc _)).mono ?_; rintro e w2 ⟨rfl, hE⟩; have HE2 := hid ((HE.out.alloc _).trans hE); clear hE)
      · go_ret
        exact ⟨congrArg (fun z => Ending.returned (.bool z)) (show false = ordGs l from HST.out.symm), HE2.out⟩
      · exact ⟨⟨j + 1, by go_num, by omega, hid (by have := HST.out; simpa using this.symm), HE2⟩, by simp [intOf]; omega⟩
    · have RES := hid (show true = ordGs l by rw [← HC.out, List.drop_eq_nil_of_le (by omega)]; rfl)
      go_wp2_with fail
      go_ret
      exact ⟨congrArg (fun z => Ending.returned (.bool z)) RES.out, HE.out⟩
theorem ord_int (n : Int) (f : Nat) (s : ByteArray) (kv lv : Value) (w : World) : Calls Try.prog 50 #[.agg #[.int .i64 2, .int .i64 n, .float .f64 f, .string s, kv, lv]] w fun e w' => e = .returned (.bool (decide (-9007199254740992 ≤ n) && decide (n ≤ 9007199254740992))) ∧ Ext w w' := by
  by_cases h1 : -9007199254740992 ≤ n <;> by_cases h2 : n ≤ 9007199254740992
  rotate_right
  · exact absurd h1 (by omega)
  all_goals
    simp only [h1, h2, decide_true, decide_false, Bool.and_true, Bool.and_false, Bool.false_and]
    go_enter Try.func50, Try.ntmps50
    go_wp2_with fail
    go_ret
    exact ⟨rfl, (Ext.refl _).alloc _⟩
theorem ord_flt (n : Int) (f : Nat) (s : ByteArray) (kv lv : Value) (w : World) : Calls Try.prog 50 #[.agg #[.int .i64 3, .int .i64 n, .float .f64 f, .string s, kv, lv]] w fun e w' => e = .returned (.bool (feq f f)) ∧ Ext w w' := by
  go_enter Try.func50, Try.ntmps50
  go_wp2_with fail
  go_ret
  exact ⟨rfl, (Ext.refl _).alloc _⟩
theorem ord_other (k n : Int) (f : Nat) (s : ByteArray) (kv lv : Value) (w : World) (h2 : ¬ k = 2) (h3 : ¬ k = 3) (h5 : ¬ k = 5) (h6 : ¬ k = 6) : Calls Try.prog 50 #[.agg #[.int .i64 k, .int .i64 n, .float .f64 f, .string s, kv, lv]] w fun e w' => e = .returned (.bool true) ∧ Ext w w' := by
  have d2 : (k == 2) = false := by simpa using h2
  have d3 : (k == 3) = false := by simpa using h3
  have d5 : (k == 5) = false := by simpa using h5
  have d6 : (k == 6) = false := by simpa using h6
  clear h2 h3 h5 h6
  go_enter Try.func50, Try.ntmps50
  go_wp2_with fail
  go_ret
  exact ⟨rfl, (Ext.refl _).alloc _⟩
theorem ord_all : ∀ (N : Nat) (g : GV), SizeOf.sizeOf g ≤ N → OrdOK g
  | 0, g, h => by cases g; simp at h
  | N + 1, .mk k n f s ks l, h => by
    intro w cs hR
    obtain ⟨a1, b1, c1, a2, b2, c2, rfl, hk, hv, hs⟩ := hR.inv
    have ih : ∀ (i : Nat) (g : GV), l[i]? = some g → OrdOK g := fun i g hg => ord_all N g (by have := GV.size_mk k n f s ks l hg; omega)
    unfold ordG
    by_cases h2 : k = 2
    · subst h2; rw [if_pos rfl]; exact ord_int _ _ _ _ _ w
    rw [if_neg h2]
    by_cases h3 : k = 3
    · subst h3; rw [if_pos rfl]; exact ord_flt _ _ _ _ _ w
    rw [if_neg h3]
    by_cases h5 : k = 5
    · subst h5; rw [if_pos rfl]; exact ord_l5 _ _ _ _ _ _ _ l ih w hv
    rw [if_neg h5]
    by_cases h6 : k = 6
    · subst h6; rw [if_pos rfl]; exact ord_l6 _ _ _ _ _ _ _ l ih w hv
    rw [if_neg h6]
    exact ord_other _ _ _ _ _ _ w h2 h3 h5 h6
theorem ord_any (g : GV) : OrdOK g := ord_all _ g (Nat.le_refl _)
end Go.Proofs.Ytempfaefopfobaa
