/- SpecAll: the reference's comparison of whatever two plain values; spec.CompareValues; spec.Orderly ends. -/
import Derived.Test.YtoodkpaebbopnaaSpecCmpM
import Derived.Test.YtoodkpaebbopnaaFits
set_option maxRecDepth 100000
namespace Go.Proofs.Ytoodkpaebbopnaa
open Go.ChangeShapes Go.WideShapes Go.ChangeAt Go.RowKit
set_option linter.unusedVariables false
set_option linter.unusedSimpArgs false

/-- names differ, at every level -/
inductive WfT : Tree → Prop
  | null : WfT .null
  | bool (b : Bool) : WfT (.bool b)
  | int (n : Int) : WfT (.int n)
  | flt (f : Nat) : WfT (.flt f)
  | str (s : ByteArray) : WfT (.str s)
  | list (l : List Tree) (h : ∀ t ∈ l, WfT t) : WfT (.list l)
  | map (m : List (ByteArray × Tree)) (hn : (m.map (·.1)).Nodup) (h : ∀ p ∈ m, WfT p.2) : WfT (.map m)
theorem ins_all {P : Tree → Prop} : ∀ (m : List (ByteArray × Tree)) (key : ByteArray) (t : Tree), (∀ p ∈ m, P p.2) → P t → ∀ p ∈ insKV m key t, P p.2
  | [], key, t, _, ht, p, hp => by simp [insKV] at hp; subst hp; exact ht
  | q :: m, key, t, hm, ht, p, hp => by
    unfold insKV at hp
    split at hp
    · rcases List.mem_cons.1 hp with rfl | hp
      · exact ht
      · exact hm p (by simp [hp])
    · rcases List.mem_cons.1 hp with rfl | hp
      · exact hm _ (by simp)
      · exact ins_all m key t (fun p hp => hm p (by simp [hp])) ht p hp
theorem fold_all {P : Tree → Prop} : ∀ (r m : List (ByteArray × Tree)), (∀ p ∈ m, P p.2) → (∀ p ∈ r, P p.2) → ∀ p ∈ foldKV r m, P p.2
  | [], m, hm, _ => by simpa [foldKV] using hm
  | q :: r, m, hm, hr => by
    unfold foldKV
    exact fold_all r _ (ins_all m q.1 q.2 hm (hr q (by simp))) (fun p hp => hr p (by simp [hp]))
theorem wf_plain : ∀ (N : Nat) (g : GV), SizeOf.sizeOf g ≤ N → WfT (plainT g)
  | 0, g, h => by cases g; simp at h
  | N + 1, .mk k n f s ks l, h => by
    have hl : ∀ t ∈ plainTs l, WfT t := by
      intro t ht
      obtain ⟨j, hj⟩ := List.mem_iff_getElem?.1 ht
      obtain ⟨g, hg, rfl⟩ := plainTs_get hj
      exact wf_plain N g (by have := GV.size_mk k n f s ks l hg; omega)
    unfold plainT
    split
    · exact .bool _
    · split
      · exact .int _
      · split
        · exact .flt _
        · split
          · exact .str _
          · split
            · exact .list _ hl
            · split
              · refine .map _ (rel_clean (.mk k n f s ks l)).nodup (fold_all _ _ (by simp) fun p hp => hl p.2 ?_)
                exact (List.of_mem_zip (by simpa using hp : (p.1, p.2) ∈ ks.zip (plainTs l))).2
              · exact .null
theorem wfT (g : GV) : WfT (plainT g) := wf_plain _ g (Nat.le_refl _)

theorem RepGV.inv {S : Nat → Prop} {w : World} {g : GV} {cs : List Value} (h : RepGV S w g cs) : ∃ a1 b1 c1 a2 b2 c2, cs = [.int .i64 g.kind, .int .i64 g.n, .float .f64 g.f, .string g.s, .slice a1 b1 c1, .slice a2 b2 c2] ∧ RepStrs S w (.slice a1 b1 c1) g.keys ∧ RepVals S w (.slice a2 b2 c2) g.l ∧ g.s.size ≤ 140737488351232 := by
  have hv : ∀ c0 c1 c2 c3 c4 c5, cs = [c0, c1, c2, c3, c4, c5] → RepVals S w c5 g.l := fun c0 c1 c2 c3 c4 c5 e => by subst e; exact h.vals
  cases h with
  | @mk k n f s keys l kv la lb lo lc hk hn hf hs hks hle hsz ha hcs hl =>
    have hv' := hv _ _ _ _ _ _ rfl
    have hks' := hks
    obtain ⟨a, b, o, cap, rfl, _⟩ := hks
    exact ⟨_, _, _, _, _, _, rfl, hks', hv', hs⟩
theorem srt_vals (m : List (ByteArray × Tree)) : (sortN (m.map (·.1))).map (lookG (fromTm m)) = (srt m).map fun p => fromT p.2 := by
  unfold srt
  rw [List.map_map]
  refine List.map_congr_left fun k _ => ?_
  rw [lookG_fromTm]
  show _ = fromT ((lookKV m k).getD .null)
  cases lookKV m k <;> rfl
theorem kr_rank (t : Tree) (cs : List Value) (w : World) (hR : RepGV Any w (fromT t) cs) : Calls Try.prog 93 #[.agg cs.toArray] w fun e w' => e = .returned (.int .i64 (rankC (kcode t))) ∧ Ext w w' := kr_any t cs w hR
theorem srt_mem {m : List (ByteArray × Tree)} {p : ByteArray × Tree} (h : p ∈ srt m) : p ∈ m := lookKV_in (srt_look h)
theorem spc_all : ∀ (N : Nat) (t1 t2 : Tree), SizeOf.sizeOf t1 ≤ N → WfT t1 → WfT t2 → SpC t1 t2
  | 0, t1, _, h, _, _ => by have := t1.size_pos; omega
  | N + 1, t1, t2, h, w1, w2 => by
    intro W c1 c2 h1 h2
    have k1 := fun W' (E : Ext W W') => kr_any t1 c1 W' (h1.ext E)
    have k2 := fun W' (E : Ext W W') => kr_any t2 c2 W' (h2.ext E)
    obtain ⟨x1, x2, x3, x4, x5, x6, rfl, hk1, hv1, hs1⟩ := h1.inv
    obtain ⟨y1, y2, y3, y4, y5, y6, rfl, hk2, hv2, hs2⟩ := h2.inv
    by_cases hr : rankC (kcode t1) = rankC (kcode t2)
    · cases w1 <;> cases w2 <;> (first | (refine absurd hr ?_; simp [rankC, kcode]; done) | skip)
      · rw [cmpT_null_null]; exact cp_null _ _ _ _ _ _ _ _ _ _ _ _ _ _ _ _ _ _ W
      · rename_i a b
        rw [cmpT_bool_bool, show bcmp a b = icmp (if a then 1 else 0) (if b then 1 else 0) by cases a <;> cases b <;> rfl]
        exact cp_bool _ _ _ _ _ _ _ _ _ _ _ _ _ _ _ _ _ _ W
      · rw [cmpT_int_int]; exact cp_int _ _ _ _ _ _ _ _ _ _ _ _ _ _ _ _ _ _ W
      · rw [cmpT_int_flt]; exact cp_intflt _ _ _ _ _ _ _ _ _ _ _ _ _ _ _ _ _ _ W
      · rw [cmpT_flt_int]; exact cp_fltint _ _ _ _ _ _ _ _ _ _ _ _ _ _ _ _ _ _ W
      · rw [cmpT_flt_flt]; exact cp_flt _ _ _ _ _ _ _ _ _ _ _ _ _ _ _ _ _ _ W
      · rw [cmpT_str_str]; exact cp_str _ _ _ _ _ _ _ _ _ _ _ _ _ _ _ _ _ _ W hs1
      · rename_i l1 hl1 l2 hl2
        rw [cmpT_list]
        refine cp_list _ _ _ _ _ _ _ _ _ _ _ _ _ _ _ _ _ _ W _ fun W' E => cpl_any l1 l2 (fun a ha b hb => spc_all N a b (by have := Tree.mem_list ha; omega) (hl1 a ha) (hl2 b hb)) W' _ _ ?_ ?_
        · have := hv1.ext E; rwa [show (fromT (.list l1)).l = fromTs l1 from rfl, fromTs_eq] at this
        · have := hv2.ext E; rwa [show (fromT (.list l2)).l = fromTs l2 from rfl, fromTs_eq] at this
      · rename_i m1 hn1 hm1 m2 hn2 hm2
        rw [cmpT_map, cmpMs_eq cmpT hn1 hn2]
        refine cp_map _ _ _ _ _ _ _ _ _ _ _ _ _ _ _ _ _ _ W _ fun W' E => cpm_any (srt m1) (srt m2) (fun p hp q hq => spc_all N p.2 q.2 (by have := Tree.size_map (k := p.1) (t := p.2) (srt_mem hp); omega) (hm1 p (srt_mem hp)) (hm2 q (srt_mem hq))) W' _ _ _ _ _ _ _ _ _ _ ?_ ?_ ?_ ?_
        · have := hk1.ext E; rwa [show (fromT (.map m1)).keys = sortN (m1.map (·.1)) from rfl, ← srt_keys] at this
        · have := hv1.ext E; rwa [show (fromT (.map m1)).l = (sortN (m1.map (·.1))).map (lookG (fromTm m1)) from rfl, srt_vals] at this
        · have := hk2.ext E; rwa [show (fromT (.map m2)).keys = sortN (m2.map (·.1)) from rfl, ← srt_keys] at this
        · have := hv2.ext E; rwa [show (fromT (.map m2)).l = (sortN (m2.map (·.1))).map (lookG (fromTm m2)) from rfl, srt_vals] at this
    · rw [cmpT_kinds hr, ← icmp_rank (kcode_le t1) (kcode_le t2) hr]
      exact cp_kinds _ _ _ _ _ _ _ _ _ _ _ _ _ _ _ _ _ _ _ _ _ _ W (by omega) k1 k2
theorem spC (ga gb : GV) : SpC (plainT ga) (plainT gb) := spc_all _ _ _ (Nat.le_refl _) (wfT ga) (wfT gb)

def feq (a b : Nat) : Bool := FloatKind.f64.format.order a b == some .eq
mutual
/-- no NaN, no whole number beyond 2^53 -/
def ordG : GV → Bool
  | .mk k n f s ks l => if k = 2 then decide (-9007199254740992 ≤ n) && decide (n ≤ 9007199254740992) else if k = 3 then feq f f else if k = 5 then ordGs l else if k = 6 then ordGs l else true
def ordGs : List GV → Bool
  | [] => true
  | g :: l => ordG g && ordGs l
end
theorem ordGs_eq (l : List GV) : ordGs l = l.all ordG := by
  induction l with
  | nil => rfl
  | cons g l ih => simp [ordGs, ih]
theorem ordGs_step {l : List GV} {k : Nat} {g : GV} (h : l[k]? = some g) : ordGs (l.drop k) = (ordG g && ordGs (l.drop (k + 1))) := by
  obtain ⟨h1, rfl⟩ := List.getElem?_eq_some_iff.1 h
  rw [List.drop_eq_getElem_cons h1]
  rfl
def OrdOK (g : GV) : Prop := ∀ w cs, RepGV Any w g cs → Calls Try.prog 15 #[.agg cs.toArray] w fun e w' => e = .returned (.bool (ordG g)) ∧ Ext w w'
set_option maxHeartbeats 1000000 in
theorem ord_l5 (n : Int) (f : Nat) (s : ByteArray) (ka : Option Addr) (kb kc : Nat) (lv : Value) (l : List GV) (ih : ∀ (i : Nat) (g : GV), l[i]? = some g → OrdOK g) (w : World) (hv : RepVals Any w lv l) :
    Calls Try.prog 15 #[.agg #[.int .i64 5, .int .i64 n, .float .f64 f, .string s, .slice ka kb kc, lv]] w fun e w' => e = .returned (.bool (ordGs l)) ∧ Ext w w' := by
  obtain ⟨va, vb, vo, vc, rfl, vs, vat⟩ := hv.at'
  have HV := hid vat
  have HI := hid ih
  clear hv vat ih
  go_enter Try.func15, Try.ntmps15
  go_wp2_with fail
  have HE1 := hid ((Ext.refl w).alloc (.cells #[.int .i64 5, .int .i64 n, .float .f64 f, .string s, .slice ka kb kc, .slice va l.length vc] 26))
  generalize w.alloc (.cells #[.int .i64 5, .int .i64 n, .float .f64 f, .string s, .slice ka kb kc, .slice va l.length vc] 26) = w1 at *
  go_loopw [30] (fun i wr => ∃ j : Nat, i = .int .i64 j ∧ j ≤ l.length ∧ Hid (ordGs (l.drop j) = ordGs l) ∧ Hid (Ext w wr)) (fun i _ => l.length - (intOf i).toNat)
  case atStart => exact ⟨0, rfl, Nat.zero_le _, hid rfl, HE1⟩
  case round =>
    obtain ⟨j, rfl, hj, HC, HE⟩ := hrel
    by_cases h1 : j < l.length
    · obtain ⟨g, hg⟩ : ∃ g, l[j]? = some g := ⟨_, List.getElem?_eq_getElem h1⟩
      obtain ⟨rfl, k1, n1, f1, s1, d1, e1, g1, d1', e1', g1', hc1, hR1⟩ := HV.out j g hg
      obtain ⟨q0, q1, q2, q3, q4, q5⟩ := cells6 (cellsAt_ext HE.out hc1)
      have hst := ordGs_step hg
      rw [HC.out] at hst
      have HCU := hid (fun W (E : Ext w W) => HI.out j g hg W _ (hR1.ext E))
      have hi0 : (0 : Int) ≤ (j : Int) := by omega
      have hi1 : (j : Int) < (l.length : Int) := by omega
      clear hc1 hR1 hg
      cases hb : ordG g
      all_goals
        rw [hb] at hst HCU
        have HST := hid hst
        clear hst hb
        go_wp2_with (go_at_call 15; refine (HCU.out _ (HE.out.alloc _)).mono ?_; rintro e w2 ⟨rfl, hE⟩; have HE2 := hid ((HE.out.alloc _).trans hE); clear hE)
      · go_ret
        exact ⟨congrArg (fun z => Ending.returned (.bool z)) (show false = ordGs l from HST.out.symm), HE2.out⟩
      · exact ⟨⟨j + 1, by go_num, by omega, hid (by have := HST.out; simpa using this.symm), HE2⟩, by simp [intOf]; omega⟩
    · have RES := hid (show true = ordGs l by rw [← HC.out, List.drop_eq_nil_of_le (by omega)]; rfl)
      go_wp2_with fail
      go_ret
      exact ⟨congrArg (fun z => Ending.returned (.bool z)) RES.out, HE.out⟩
set_option maxHeartbeats 1000000 in
theorem ord_l6 (n : Int) (f : Nat) (s : ByteArray) (ka : Option Addr) (kb kc : Nat) (lv : Value) (l : List GV) (ih : ∀ (i : Nat) (g : GV), l[i]? = some g → OrdOK g) (w : World) (hv : RepVals Any w lv l) :
    Calls Try.prog 15 #[.agg #[.int .i64 6, .int .i64 n, .float .f64 f, .string s, .slice ka kb kc, lv]] w fun e w' => e = .returned (.bool (ordGs l)) ∧ Ext w w' := by
  obtain ⟨va, vb, vo, vc, rfl, vs, vat⟩ := hv.at'
  have HV := hid vat
  have HI := hid ih
  clear hv vat ih
  go_enter Try.func15, Try.ntmps15
  go_wp2_with fail
  have HE1 := hid ((Ext.refl w).alloc (.cells #[.int .i64 6, .int .i64 n, .float .f64 f, .string s, .slice ka kb kc, .slice va l.length vc] 26))
  generalize w.alloc (.cells #[.int .i64 6, .int .i64 n, .float .f64 f, .string s, .slice ka kb kc, .slice va l.length vc] 26) = w1 at *
  go_loopw [30] (fun i wr => ∃ j : Nat, i = .int .i64 j ∧ j ≤ l.length ∧ Hid (ordGs (l.drop j) = ordGs l) ∧ Hid (Ext w wr)) (fun i _ => l.length - (intOf i).toNat)
  case atStart => exact ⟨0, rfl, Nat.zero_le _, hid rfl, HE1⟩
  case round =>
    obtain ⟨j, rfl, hj, HC, HE⟩ := hrel
    by_cases h1 : j < l.length
    · obtain ⟨g, hg⟩ : ∃ g, l[j]? = some g := ⟨_, List.getElem?_eq_getElem h1⟩
      obtain ⟨rfl, k1, n1, f1, s1, d1, e1, g1, d1', e1', g1', hc1, hR1⟩ := HV.out j g hg
      obtain ⟨q0, q1, q2, q3, q4, q5⟩ := cells6 (cellsAt_ext HE.out hc1)
      have hst := ordGs_step hg
      rw [HC.out] at hst
      have HCU := hid (fun W (E : Ext w W) => HI.out j g hg W _ (hR1.ext E))
      have hi0 : (0 : Int) ≤ (j : Int) := by omega
      have hi1 : (j : Int) < (l.length : Int) := by omega
      clear hc1 hR1 hg
      cases hb : ordG g
      all_goals
        rw [hb] at hst HCU
        have HST := hid hst
        clear hst hb
        go_wp2_with (go_at_call 15; refine (HCU.out _ (HE.out.alloc _)).mono ?_; rintro e w2 ⟨rfl, hE⟩; have HE2 := hid ((HE.out.alloc _).trans hE); clear hE)
      · go_ret
        exact ⟨congrArg (fun z => Ending.returned (.bool z)) (show false = ordGs l from HST.out.symm), HE2.out⟩
      · exact ⟨⟨j + 1, by go_num, by omega, hid (by have := HST.out; simpa using this.symm), HE2⟩, by simp [intOf]; omega⟩
    · have RES := hid (show true = ordGs l by rw [← HC.out, List.drop_eq_nil_of_le (by omega)]; rfl)
      go_wp2_with fail
      go_ret
      exact ⟨congrArg (fun z => Ending.returned (.bool z)) RES.out, HE.out⟩
theorem ord_int (n : Int) (f : Nat) (s : ByteArray) (kv lv : Value) (w : World) : Calls Try.prog 15 #[.agg #[.int .i64 2, .int .i64 n, .float .f64 f, .string s, kv, lv]] w fun e w' => e = .returned (.bool (decide (-9007199254740992 ≤ n) && decide (n ≤ 9007199254740992))) ∧ Ext w w' := by
  by_cases h1 : -9007199254740992 ≤ n <;> by_cases h2 : n ≤ 9007199254740992
  rotate_right
  · exact absurd h1 (by omega)
  all_goals
    simp only [h1, h2, decide_true, decide_false, Bool.and_true, Bool.and_false, Bool.false_and]
    go_enter Try.func15, Try.ntmps15
    go_wp2_with fail
    go_ret
    exact ⟨rfl, (Ext.refl _).alloc _⟩
theorem ord_flt (n : Int) (f : Nat) (s : ByteArray) (kv lv : Value) (w : World) : Calls Try.prog 15 #[.agg #[.int .i64 3, .int .i64 n, .float .f64 f, .string s, kv, lv]] w fun e w' => e = .returned (.bool (feq f f)) ∧ Ext w w' := by
  go_enter Try.func15, Try.ntmps15
  go_wp2_with fail
  go_ret
  exact ⟨rfl, (Ext.refl _).alloc _⟩
theorem ord_other (k n : Int) (f : Nat) (s : ByteArray) (kv lv : Value) (w : World) (h2 : ¬ k = 2) (h3 : ¬ k = 3) (h5 : ¬ k = 5) (h6 : ¬ k = 6) : Calls Try.prog 15 #[.agg #[.int .i64 k, .int .i64 n, .float .f64 f, .string s, kv, lv]] w fun e w' => e = .returned (.bool true) ∧ Ext w w' := by
  have d2 : (k == 2) = false := by simpa using h2
  have d3 : (k == 3) = false := by simpa using h3
  have d5 : (k == 5) = false := by simpa using h5
  have d6 : (k == 6) = false := by simpa using h6
  clear h2 h3 h5 h6
  go_enter Try.func15, Try.ntmps15
  go_wp2_with fail
  go_ret
  exact ⟨rfl, (Ext.refl _).alloc _⟩
theorem ord_all : ∀ (N : Nat) (g : GV), SizeOf.sizeOf g ≤ N → OrdOK g
  | 0, g, h => by cases g; simp at h
  | N + 1, .mk k n f s ks l, h => by
    intro w cs hR
    obtain ⟨a1, b1, c1, a2, b2, c2, rfl, hk, hv, hs⟩ := hR.inv
    have ih : ∀ (i : Nat) (g : GV), l[i]? = some g → OrdOK g := fun i g hg => ord_all N g (by have := GV.size_mk k n f s ks l hg; omega)
    unfold ordG
    by_cases h2 : k = 2
    · subst h2; rw [if_pos rfl]; exact ord_int _ _ _ _ _ w
    rw [if_neg h2]
    by_cases h3 : k = 3
    · subst h3; rw [if_pos rfl]; exact ord_flt _ _ _ _ _ w
    rw [if_neg h3]
    by_cases h5 : k = 5
    · subst h5; rw [if_pos rfl]; exact ord_l5 _ _ _ _ _ _ _ l ih w hv
    rw [if_neg h5]
    by_cases h6 : k = 6
    · subst h6; rw [if_pos rfl]; exact ord_l6 _ _ _ _ _ _ _ l ih w hv
    rw [if_neg h6]
    exact ord_other _ _ _ _ _ _ w h2 h3 h5 h6
theorem ord_any (g : GV) : OrdOK g := ord_all _ g (Nat.le_refl _)
set_option maxHeartbeats 2000000 in
theorem specCV_any (ga gb : GV) (w : World) (ca cb : List Value) (hA : RepGV Any w ga ca) (hB : RepGV Any w gb cb) :
    Calls Try.prog 17 #[.agg ca.toArray, .agg cb.toArray] w fun e w' => e = .returned (.int .i64 (cmpT (plainT ga) (plainT gb))) ∧ Ext w w' := by
  have HA := hid hA
  have HB := hid hB
  obtain ⟨k, n, f, s, a1, b1, c1, a2, b2, c2, rfl⟩ := hA.form
  obtain ⟨k', n', f', s', a1', b1', c1', a2', b2', c2', rfl⟩ := hB.form
  clear hA hB
  go_enter Try.func17, Try.ntmps17
  go_upto_region 1 with fail
  obtain ⟨x1, x2, hEE⟩ := boxes2 w (.cells #[.int .i64 k, .int .i64 n, .float .f64 f, .string s, .slice a1 b1 c1, .slice a2 b2 c2] 26) (.cells #[.int .i64 k', .int .i64 n', .float .f64 f', .string s', .slice a1' b1' c1', .slice a2' b2' c2'] 26) _ (Below.refl _ _)
  generalize (w.alloc (.cells #[.int .i64 k, .int .i64 n, .float .f64 f, .string s, .slice a1 b1 c1, .slice a2 b2 c2] 26)).alloc (.cells #[.int .i64 k', .int .i64 n', .float .f64 f', .string s', .slice a1' b1' c1', .slice a2' b2' c2'] 26) = w1 at *
  have HE1 := hid hEE
  have K := hid (show ∀ w' : World, Ext w1 w' → (fun w' : World => w'.cell? ⟨w.heap.size, 0, none⟩ = some (.int .i64 k) ∧ w'.cell? ⟨w.heap.size, 1, none⟩ = some (.int .i64 n) ∧ w'.cell? ⟨w.heap.size, 2, none⟩ = some (.float .f64 f) ∧ w'.cell? ⟨w.heap.size, 3, none⟩ = some (.string s) ∧ w'.cell? ⟨w.heap.size, 4, none⟩ = some (.slice a1 b1 c1) ∧ w'.cell? ⟨w.heap.size, 5, none⟩ = some (.slice a2 b2 c2) ∧ w'.cell? ⟨w.heap.size + 1, 0, none⟩ = some (.int .i64 k') ∧ w'.cell? ⟨w.heap.size + 1, 1, none⟩ = some (.int .i64 n') ∧ w'.cell? ⟨w.heap.size + 1, 2, none⟩ = some (.float .f64 f') ∧ w'.cell? ⟨w.heap.size + 1, 3, none⟩ = some (.string s') ∧ w'.cell? ⟨w.heap.size + 1, 4, none⟩ = some (.slice a1' b1' c1') ∧ w'.cell? ⟨w.heap.size + 1, 5, none⟩ = some (.slice a2' b2' c2')) w' from fun w' h => by
    obtain ⟨⟨z0, z1, z2, z3, z4, z5⟩, -⟩ := slot6 (h.block x1)
    obtain ⟨⟨y0, y1, y2, y3, y4, y5⟩, -⟩ := slot6 (h.block x2)
    exact ⟨z0, z1, z2, z3, z4, z5, y0, y1, y2, y3, y4, y5⟩)
  clear x1 x2 hEE
  go_region_held3 (fun w' : World => w'.cell? ⟨w.heap.size, 0, none⟩ = some (.int .i64 k) ∧ w'.cell? ⟨w.heap.size, 1, none⟩ = some (.int .i64 n) ∧ w'.cell? ⟨w.heap.size, 2, none⟩ = some (.float .f64 f) ∧ w'.cell? ⟨w.heap.size, 3, none⟩ = some (.string s) ∧ w'.cell? ⟨w.heap.size, 4, none⟩ = some (.slice a1 b1 c1) ∧ w'.cell? ⟨w.heap.size, 5, none⟩ = some (.slice a2 b2 c2) ∧ w'.cell? ⟨w.heap.size + 1, 0, none⟩ = some (.int .i64 k') ∧ w'.cell? ⟨w.heap.size + 1, 1, none⟩ = some (.int .i64 n') ∧ w'.cell? ⟨w.heap.size + 1, 2, none⟩ = some (.float .f64 f') ∧ w'.cell? ⟨w.heap.size + 1, 3, none⟩ = some (.string s') ∧ w'.cell? ⟨w.heap.size + 1, 4, none⟩ = some (.slice a1' b1' c1') ∧ w'.cell? ⟨w.heap.size + 1, 5, none⟩ = some (.slice a2' b2' c2'))
    (first | with_reducible exact K.out _ HE7.out | with_reducible exact K.out _ HE6.out | with_reducible exact K.out _ HE5.out | with_reducible exact K.out _ (Ext.refl w1).drew)
    (first
      | (go_at_call_of 56 k; refine (clean_any ga _ _ (HA.out.ext HE1.out.drew)).mono ?_; rintro e w5 ⟨cs1, rfl, hT, hE⟩; have HE5 := hid ((Ext.refl w1).drew.trans hE); rw [clean_eq] at hT; obtain ⟨k2, n2, f2, s2, a3, b3, c3, a4, b4, c4, rfl⟩ := hT.form; have HV1 := hid (hT.weak (S' := Any) (fun _ _ _ => trivial)); clear hE hT)
      | (go_at_call_of 56 k'; refine (clean_any gb _ _ (HB.out.ext (HE1.out.trans HE5.out))).mono ?_; rintro e w6 ⟨cs2, rfl, hT, hE⟩; have HE56 := hid hE; have HE6 := hid (HE5.out.trans hE); rw [clean_eq] at hT; obtain ⟨k3, n3, f3, s3, a5, b5, c5, a6, b6, c6, rfl⟩ := hT.form; have HV2 := hid (hT.weak (S' := Any) (fun _ _ _ => trivial)); clear hE hT)
      | (go_at_call 55; refine (spC ga gb _ _ _ (HV1.out.ext HE56.out) HV2.out).mono ?_; rintro e w7 ⟨rfl, hE⟩; have HE7 := hid (HE6.out.trans hE); clear hE))
  all_goals
    go_wp2_with fail
    go_ret
    exact ⟨rfl, HE1.out.trans HE7.out⟩
end Go.Proofs.Ytoodkpaebbopnaa
