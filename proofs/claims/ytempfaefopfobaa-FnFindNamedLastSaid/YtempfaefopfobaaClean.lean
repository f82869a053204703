/- Clean: spec.Clean, plainList, plainMap: the plain form of a value. -/
import Derived.Test.YtempfaefopfobaaSpecWith
import Derived.Deep.RegionHeld3
import Derived.Deep.DrawnRows

namespace Go.Proofs.Ytempfaefopfobaa
open Go.ChangeShapes Go.WideShapes Go.ChangeAt Go.RowKit
set_option linter.unusedVariables false
set_option linter.unusedSimpArgs false

def zeroG : GV := .mk 0 0 0 ByteArray.empty [] []
def foldW : List (ByteArray × GV) → GV → GV
  | [], m => m
  | p :: r, m => foldW r (withF m p.1 p.2)
mutual
def cleanG : GV → GV
  | .mk k n f s ks l =>
    if k = 1 then (if n ≠ 0 then .mk 1 1 0 ByteArray.empty [] [] else .mk 1 0 0 ByteArray.empty [] []) else if k = 2 then .mk 2 n 0 ByteArray.empty [] []
    else if k = 3 then .mk 3 0 f ByteArray.empty [] [] else if k = 4 then .mk 4 0 0 s [] [] else if k = 5 then .mk 5 0 0 ByteArray.empty [] (cleanGs l)
    else if k = 6 then foldW (ks.zip (cleanGs l)) (.mk 6 0 0 ByteArray.empty [] []) else zeroG
def cleanGs : List GV → List GV
  | [] => []
  | g :: l => cleanG g :: cleanGs l
end
def cleanM (g : GV) : GV := foldW (g.keys.zip (cleanGs g.l)) (.mk 6 0 0 ByteArray.empty [] [])
theorem cleanGs_eq (l : List GV) : cleanGs l = l.map cleanG := by
  induction l with
  | nil => rfl
  | cons g l ih => simp [cleanGs, ih]
theorem cleanGs_length (l : List GV) : (cleanGs l).length = l.length := by simp [cleanGs_eq]
theorem foldW_append (a b : List (ByteArray × GV)) (m : GV) : foldW (a ++ b) m = foldW b (foldW a m) := by
  induction a generalizing m with
  | nil => rfl
  | cons p a ih => simp [foldW, ih]

/-- a plain map: names in increasing order, as many as values -/
def MapG (g : GV) : Prop := SortedK g.keys ∧ g.keys.length = g.l.length
theorem MapG.empty : MapG (.mk 6 0 0 ByteArray.empty [] []) := ⟨List.Pairwise.nil, rfl⟩
theorem sorted_with {ks : List ByteArray} (h1 : SortedK ks) (key : ByteArray) {j : Nat} (hj : j = if ks[cnt ks key]? = some key then cnt ks key + 1 else cnt ks key) : SortedK (ks.take (cnt ks key) ++ [key] ++ ks.drop j) := by
  have hlt : ∀ a ∈ ks.take (cnt ks key), blt a key = true := by
    intro a ha
    obtain ⟨j, hj⟩ := List.mem_iff_getElem?.1 ha
    rw [List.getElem?_take] at hj
    split at hj
    · exact cnt_lt ‹_› hj
    · cases hj
  refine List.pairwise_append.2 ⟨List.pairwise_append.2 ⟨h1.sublist (List.take_sublist _ _), List.pairwise_singleton _ _, ?_⟩, h1.sublist (List.drop_sublist _ _), ?_⟩
  · intro a ha b hb
    simp at hb; subst hb
    exact hlt a ha
  · intro a ha b hb
    have hkb : blt key b = true := by
      obtain ⟨q, hq⟩ := List.mem_iff_getElem?.1 hb
      rw [List.getElem?_drop] at hq
      by_cases hk : ks[cnt ks key]? = some key
      · rw [if_pos hk] at hj
        exact h1.get hk hq (by omega)
      · rw [if_neg hk] at hj
        subst hj
        have h4 := cnt_ge h1 (show cnt ks key ≤ cnt ks key + q by omega) hq
        rcases blt_tri key b with h | h | h
        · exact h
        · subst h
          by_cases e : q = 0
          · subst e; exact absurd hq hk
          · have hlt' := (List.getElem?_eq_some_iff.1 hq).1
            have h3 := h1.get (List.getElem?_eq_getElem (show cnt ks key < ks.length by omega)) hq (by omega)
            have h5 := cnt_ge h1 (Nat.le_refl _) (List.getElem?_eq_getElem (show cnt ks key < ks.length by omega))
            rw [h3] at h5; cases h5
        · rw [h4] at h; cases h
    rcases List.mem_append.1 ha with ha | ha
    · exact blt_trans (hlt a ha) hkb
    · simp at ha; subst ha; exact hkb
theorem MapG.withF {m v : GV} (h : MapG m) (key : ByteArray) : MapG (withF m key v) := by
  obtain ⟨kd, n, f, s, ks, l⟩ := m
  obtain ⟨h1, h2⟩ := h
  simp only [GV.keys, GV.l] at h1 h2
  have hc := cnt_le ks key
  refine ⟨sorted_with h1 key rfl, ?_⟩
  simp only [Go.Proofs.Ytempfaefopfobaa.withF, GV.keys, GV.l, List.length_append, List.length_take, List.length_drop, List.length_singleton]
  by_cases hk : ks[cnt ks key]? = some key
  · simp only [hk, if_true]; omega
  · simp only [hk, if_false]; omega
theorem MapG.foldW {m : GV} (h : MapG m) (r : List (ByteArray × GV)) : MapG (foldW r m) := by
  induction r generalizing m with
  | nil => exact h
  | cons p r ih => exact ih (h.withF p.1)
theorem withF_length {m v : GV} (h : MapG m) (key : ByteArray) : (Go.Proofs.Ytempfaefopfobaa.withF m key v).l.length ≤ m.l.length + 1 := by
  obtain ⟨kd, n, f, s, ks, l⟩ := m
  have hc := cnt_le ks key
  simp only [Go.Proofs.Ytempfaefopfobaa.withF, GV.keys, GV.l, List.length_append, List.length_take, List.length_drop, List.length_singleton]
  by_cases hk : ks[cnt ks key]? = some key
  · simp only [hk, if_true]; omega
  · simp only [hk, if_false]; omega
theorem foldW_length {m : GV} (h : MapG m) (r : List (ByteArray × GV)) : (Go.Proofs.Ytempfaefopfobaa.foldW r m).l.length ≤ m.l.length + r.length := by
  induction r generalizing m with
  | nil => exact Nat.le_refl _
  | cons p r ih =>
    have := ih (h.withF (v := p.2) p.1)
    have := withF_length (v := p.2) h p.1
    simp only [Go.Proofs.Ytempfaefopfobaa.foldW, List.length_cons]; omega

def CleanOK (g : GV) : Prop := ∀ w cs, RepGV Any w g cs → Calls Try.prog 32 #[.agg cs.toArray] w fun e w' => ∃ cs', e = .returned (.agg cs'.toArray) ∧ RepGV (fun b => w.heap.size ≤ b) w' (cleanG g) cs' ∧ Ext w w'
def CleanMapOK (g : GV) : Prop := ∀ w cs, RepGV Any w g cs → Calls Try.prog 66 #[.agg cs.toArray] w fun e w' => ∃ cs', e = .returned (.agg cs'.toArray) ∧ RepGV (fun b => w.heap.size ≤ b) w' (cleanM g) cs' ∧ Ext w w'
/-- a slice of values -/
def RepVals (S : Nat → Prop) (w : World) (v : Value) (l : List GV) : Prop :=
  ∃ la lb lo lc, v = .slice la l.length lc ∧ l.length ≤ lc ∧ l.length * 88 ≤ 140737488351232 ∧ (0 < l.length → la = some ⟨lb, lo, none⟩ ∧ S lb) ∧ (∀ i, i < l.length → ∃ cs, cs.length = 6 ∧ cellsAt w lb (lo + i * 6) cs) ∧
    ∀ i g cs, l[i]? = some g → cs.length = 6 → cellsAt w lb (lo + i * 6) cs → RepGV S w g cs

theorem RepVals.mono {S S' : Nat → Prop} {w w' : World} (h : Same S w w') (hS : ∀ b, S b → b < w.heap.size → S' b) {v : Value} {l : List GV} (hr : RepVals S w v l) : RepVals S' w' v l := by
  obtain ⟨la, lb, lo, lc, h1, h2, h3, h4, h5, h6⟩ := hr
  have hsame : ∀ {i cs}, i < l.length → cellsAt w lb (lo + i * 6) cs → cellsAt w' lb (lo + i * 6) cs := fun hi hc j v hv => h.cell (h4 (by omega)).2 (hc j v hv)
  refine ⟨la, lb, lo, lc, h1, h2, h3, fun h0 => ⟨(h4 h0).1, hS _ (h4 h0).2 ?_⟩, fun i hi => ?_, fun i g cs hg hlen hc => ?_⟩
  · obtain ⟨cs, h1, h2⟩ := h5 0 h0
    exact World.block_lt_of_cell? w _ (h2 0 _ (List.getElem?_eq_getElem (by omega)))
  · obtain ⟨cs, h1, h2⟩ := h5 i hi
    exact ⟨cs, h1, hsame hi h2⟩
  · have hi := (List.getElem?_eq_some_iff.1 hg).1
    obtain ⟨cs', h1, h2⟩ := h5 i hi
    obtain rfl := cellsAt_unique hc (hsame hi h2) (hlen.trans h1.symm)
    exact (h6 i g cs hg hlen h2).mono h hS
theorem RepVals.ext {S : Nat → Prop} {w w' : World} (h : Ext w w') {v : Value} {l : List GV} (hr : RepVals S w v l) : RepVals S w' v l := hr.mono (h.same S) (fun _ h _ => h)
theorem RepGV.vals {S : Nat → Prop} {w : World} {g : GV} {c0 c1 c2 c3 c4 c5 : Value} (h : RepGV S w g [c0, c1, c2, c3, c4, c5]) : RepVals S w c5 g.l := by
  cases h with
  | mk hk hn hf hs hks hle hsz ha hcs hl => exact ⟨_, _, _, _, rfl, hle, hsz, ha, hcs, hl⟩
theorem RepStrs.nil (S : Nat → Prop) (w : World) : RepStrs S w (.slice none 0 0) [] := ⟨none, 0, 0, 0, rfl, by simp, by simp, by simp, by simp, by simp⟩
/-- a value out of its parts -/
theorem repGV_of {S : Nat → Prop} {w : World} {k n : Int} {f : Nat} {s : ByteArray} {keys : List ByteArray} {l : List GV} {kv lv : Value} (hk : (Lit.int .i64 k).wf = true) (hn : (Lit.int .i64 n).wf = true) (hf : f < 2 ^ 64) (hs : s.size ≤ 140737488351232)
    (hks : RepStrs S w kv keys) (hl : RepVals S w lv l) : RepGV S w (.mk k n f s keys l) [.int .i64 k, .int .i64 n, .float .f64 f, .string s, kv, lv] := by
  obtain ⟨la, lb, lo, lc, rfl, h2, h3, h4, h5, h6⟩ := hl
  exact .mk hk hn hf hs hks h2 h3 h4 h5 h6
theorem RepVals.nil (S : Nat → Prop) (w : World) : RepVals S w (.slice none 0 0) [] := ⟨none, 0, 0, 0, rfl, by simp, by simp, by simp, by simp, fun i g cs h => by simp at h⟩

set_option maxRecDepth 100000 in
set_option maxHeartbeats 1000000 in
theorem cleanList_any (v : Value) (l : List GV) (w : World) (hv : RepVals Any w v l) (ih : ∀ (i : Nat) (g : GV), l[i]? = some g → CleanOK g) :
    Calls Try.prog 73 #[v] w fun e w' => ∃ v', e = .returned v' ∧ RepVals (fun b => w.heap.size ≤ b) w' v' (cleanGs l) ∧ Ext w w' := by
  obtain ⟨la, lb, lo, lc, rfl, hle, hsz, ha, hcs, hl⟩ := hv
  obtain ⟨i0, hi, hz0, hz1, hz2⟩ := info_parts info_val
  have HC := hid hcs
  have HL := hid hl
  have HI := hid ih
  clear hcs hl ih
  go_enter Try.func73, Try.ntmps73
  go_wp2_with (at_make; refine wpList_make_own _ rfl _ _ 27 rfl (w.heap.size) 32 i0 _ 6 Try.underlying27 hi hz0 hz1 _ _ _ l.length rfl rfl rfl ?c1 ?c2 ?c3 ?c4)
  case c1 => rw [hz2]; omega
  case c2 => unfold maxLen; omega
  case c3 => simp
  intro w1 hown1 hg1
  have hE1 : Ext w w1 := ext_grownBy hg1
  have hs1 : w.heap.size < w1.heap.size := (hown1.lt (w.heap.size) rfl).2
  go_wp2_with fail
  go_loopw [3, 11] (fun v i wr => ∃ (k : Nat) (xs : List Value), i = .int .i64 k ∧ k ≤ l.length ∧ v = .slice (some ⟨w.heap.size, 0, none⟩) k l.length ∧ wr.ownsRow w.heap.size 32 6 (.slice (some ⟨w.heap.size, 0, none⟩) k l.length) k xs ∧
    Hid (RowGV (fun b => w.heap.size < b) wr xs ((cleanGs l).take k)) ∧ Ext w wr ∧ w.heap.size < wr.heap.size) (fun _ i _ => l.length - (intOf i).toNat)
  case atStart => exact ⟨0, [], rfl, Nat.zero_le _, rfl, hown1, hid (by simpa using RowGV.nil _ _), hE1, hs1⟩
  case round =>
    obtain ⟨k, xs, rfl, hk, rfl, hown, hX, hB, hs⟩ := hrel
    by_cases hlt : k < l.length
    · have ha2 := (ha (by omega)).1
      subst ha2
      obtain ⟨cs, hcl, hca⟩ := HC.out k hlt
      obtain ⟨g, hg⟩ : ∃ g, l[k]? = some g := ⟨_, List.getElem?_eq_getElem hlt⟩
      have hR := (HL.out k g cs hg hcl hca).ext hB
      have hca' := cellsAt_ext hB hca
      obtain ⟨k', n', f', s', a1, b1, c1, a2, b2, c2, rfl⟩ := hR.form
      obtain ⟨e0, e1, e2, e3, e4, e5⟩ := cells6 hca'
      have HP := hid (HI.out k g hg)
      have HR := hid hR
      have HG := hid hg
      clear hR hca hca' hcl hg
      go_wp2_with (first | (go_at_call 32; refine (HP.out _ _ (HR.out.ext ?_)).mono ?_; exact (Ext.refl _).alloc _; rintro e w2 ⟨cs', rfl, hT, hE⟩; obtain ⟨k2, n2, f2, s2, a3, b3, c3, a4, b4, c4, rfl⟩ := hT.form; have HT := hid hT; clear hT) | (at_builtin; refine wpList_append_fits _ rfl (.tmp 15) (.tmp 18) 27 rfl w.heap.size 32 i0 6 Try.underlying27 hi hz1 (w.heap.size) k l.length xs rfl ((ownsRow_ext (hown.alloc _) hE).alloc _) ⟨w2.heap.size, 0, none⟩ 1 1 [.int .i64 k2, .int .i64 n2, .float .f64 f2, .string s2, .slice a3 b3 c3, .slice a4 b4 c4] rfl rfl (cells_new _ _ _) (rep_oneCell HT.out) (by omega) ?_; intro w3 hown3 hg3))
      go_roundw
      case rel =>
        refine ⟨k + 1, _, by go_num, by omega, rfl, hown3, hid ?_, ?_, ?_⟩
        · have e : (cleanGs l).take (k + 1) = (cleanGs l).take k ++ [cleanG g] := by
            rw [List.take_add_one, cleanGs_eq, List.getElem?_map, HG.out]; rfl
          rw [e]
          refine (hX.out.mono ((((Ext.refl wr).alloc _).trans (hE.trans ((Ext.refl w2).alloc _))).same _ |>.trans (same_grownBy hg3 (fun b hb => by simp; omega))) (fun _ h _ => h)).append (RowGV.one (HT.out.mono ((((Ext.refl w2).alloc _).same _).trans (same_grownBy hg3 (fun b hb => by simp at hb ⊢; omega))) (fun b hb _ => by simp at hb; omega)))
        · refine Below.trans (hB.trans (((Ext.refl wr).alloc _).trans (hE.trans ((Ext.refl w2).alloc _)))) ⟨hg3.os, hg3.tape, hg3.output, hg3.size, fun i hi => hg3.block i (by have := hE.size; simp at this ⊢; omega) (by simp; omega)⟩
        · have := hE.size; have := hg3.size; simp at *; omega
      case measure => simp [intOf]; omega
    · obtain rfl : k = l.length := by omega
      go_wp2_with fail
      go_ret
      refine ⟨_, rfl, ?_, hB⟩
      have hrow := hX.out
      rw [List.take_of_length_le (by rw [cleanGs_length]; omega)] at hrow
      obtain ⟨hn, hle', lb', ha', hcs', hl'⟩ := vals_of_row (S := fun b => w.heap.size ≤ b) hown (hrow.mono (Same.refl _ _) (fun b hb _ => by omega)) (fun b hb => hb)
      refine ⟨_, lb', 0, _, by rw [cleanGs_length]; rfl, hle', by rw [cleanGs_length]; exact hsz, ha', hcs', hl'⟩

set_option maxRecDepth 100000 in
theorem clean_b1 (n : Int) (f : Nat) (s : ByteArray) (kv lv : Value) (hn : (n == 0) = false) (hn' : (n != 0) = true) (w : World) : Calls Try.prog 32 #[.agg #[.int .i64 1, .int .i64 n, .float .f64 f, .string s, kv, lv]] w fun e w' => e = .returned (.agg #[(.int .i64 1), (.int .i64 1), (.float .f64 0), (.string ⟨#[]⟩), (.slice none 0 0), (.slice none 0 0)]) ∧ Ext w w' := by
  go_enter Try.func32, Try.ntmps32
  go_wp2_with fail
  exact bodyPost_ret (v := .agg #[(.int .i64 1), (.int .i64 1), (.float .f64 0), (.string ⟨#[]⟩), (.slice none 0 0), (.slice none 0 0)]) (by simp [results, Try.results32, go_sem]) rfl ⟨rfl, ((Ext.refl _).alloc _).alloc _⟩
set_option maxRecDepth 100000 in
theorem clean_b0 (n : Int) (f : Nat) (s : ByteArray) (kv lv : Value) (hn : (n == 0) = true) (hn' : (n != 0) = false) (w : World) : Calls Try.prog 32 #[.agg #[.int .i64 1, .int .i64 n, .float .f64 f, .string s, kv, lv]] w fun e w' => e = .returned (.agg #[(.int .i64 1), (.int .i64 0), (.float .f64 0), (.string ⟨#[]⟩), (.slice none 0 0), (.slice none 0 0)]) ∧ Ext w w' := by
  go_enter Try.func32, Try.ntmps32
  go_wp2_with fail
  exact bodyPost_ret (v := .agg #[(.int .i64 1), (.int .i64 0), (.float .f64 0), (.string ⟨#[]⟩), (.slice none 0 0), (.slice none 0 0)]) (by simp [results, Try.results32, go_sem]) rfl ⟨rfl, ((Ext.refl _).alloc _).alloc _⟩
set_option maxRecDepth 100000 in
theorem clean_i (n : Int) (f : Nat) (s : ByteArray) (kv lv : Value) (w : World) : Calls Try.prog 32 #[.agg #[.int .i64 2, .int .i64 n, .float .f64 f, .string s, kv, lv]] w fun e w' => e = .returned (.agg #[(.int .i64 2), (.int .i64 n), (.float .f64 0), (.string ⟨#[]⟩), (.slice none 0 0), (.slice none 0 0)]) ∧ Ext w w' := by
  go_enter Try.func32, Try.ntmps32
  go_wp2_with fail
  exact bodyPost_ret (v := .agg #[(.int .i64 2), (.int .i64 n), (.float .f64 0), (.string ⟨#[]⟩), (.slice none 0 0), (.slice none 0 0)]) (by simp [results, Try.results32, go_sem]) rfl ⟨rfl, ((Ext.refl _).alloc _).alloc _⟩
set_option maxRecDepth 100000 in
theorem clean_f (n : Int) (f : Nat) (s : ByteArray) (kv lv : Value) (w : World) : Calls Try.prog 32 #[.agg #[.int .i64 3, .int .i64 n, .float .f64 f, .string s, kv, lv]] w fun e w' => e = .returned (.agg #[(.int .i64 3), (.int .i64 0), (.float .f64 f), (.string ⟨#[]⟩), (.slice none 0 0), (.slice none 0 0)]) ∧ Ext w w' := by
  go_enter Try.func32, Try.ntmps32
  go_wp2_with fail
  exact bodyPost_ret (v := .agg #[(.int .i64 3), (.int .i64 0), (.float .f64 f), (.string ⟨#[]⟩), (.slice none 0 0), (.slice none 0 0)]) (by simp [results, Try.results32, go_sem]) rfl ⟨rfl, ((Ext.refl _).alloc _).alloc _⟩
set_option maxRecDepth 100000 in
theorem clean_s (n : Int) (f : Nat) (s : ByteArray) (kv lv : Value) (w : World) : Calls Try.prog 32 #[.agg #[.int .i64 4, .int .i64 n, .float .f64 f, .string s, kv, lv]] w fun e w' => e = .returned (.agg #[(.int .i64 4), (.int .i64 0), (.float .f64 0), (.string s), (.slice none 0 0), (.slice none 0 0)]) ∧ Ext w w' := by
  go_enter Try.func32, Try.ntmps32
  go_wp2_with fail
  exact bodyPost_ret (v := .agg #[(.int .i64 4), (.int .i64 0), (.float .f64 0), (.string s), (.slice none 0 0), (.slice none 0 0)]) (by simp [results, Try.results32, go_sem]) rfl ⟨rfl, ((Ext.refl _).alloc _).alloc _⟩
set_option maxRecDepth 100000 in
theorem clean_z (k : Int) (n : Int) (f : Nat) (s : ByteArray) (kv lv : Value) (h1 : k ≠ 1) (h2 : k ≠ 2) (h3 : k ≠ 3) (h4 : k ≠ 4) (h5 : k ≠ 5) (h6 : k ≠ 6) (w : World) : Calls Try.prog 32 #[.agg #[.int .i64 k, .int .i64 n, .float .f64 f, .string s, kv, lv]] w fun e w' => e = .returned (.agg #[(.int .i64 0), (.int .i64 0), (.float .f64 0), (.string ⟨#[]⟩), (.slice none 0 0), (.slice none 0 0)]) ∧ Ext w w' := by
  go_enter Try.func32, Try.ntmps32
  go_wp2_with fail
  exact bodyPost_ret (v := .agg #[(.int .i64 0), (.int .i64 0), (.float .f64 0), (.string ⟨#[]⟩), (.slice none 0 0), (.slice none 0 0)]) (by simp [results, Try.results32, go_sem]) rfl ⟨rfl, ((Ext.refl _).alloc _).alloc _⟩

set_option maxRecDepth 100000 in
theorem clean_list (n : Int) (f : Nat) (s : ByteArray) (kv : Value) (a : Option Addr) (ll c : Nat) (l : List GV) (w : World) (hv : RepVals Any w (.slice a ll c) l) (ih : ∀ (i : Nat) (g : GV), l[i]? = some g → CleanOK g) :
    Calls Try.prog 32 #[.agg #[.int .i64 5, .int .i64 n, .float .f64 f, .string s, kv, .slice a ll c]] w fun e w' => ∃ cs', e = .returned (.agg cs'.toArray) ∧ RepGV (fun b => w.heap.size ≤ b) w' (.mk 5 0 0 ByteArray.empty [] (cleanGs l)) cs' ∧ Ext w w' := by
  have HI := hid ih
  have HV := hid hv
  have bx := hid (boxes2 w (.cells #[.int .i64 5, .int .i64 n, .float .f64 f, .string s, kv, .slice a ll c] 32) (.cells #[.int .i64 0, .int .i64 0, .float .f64 0, .string ⟨#[]⟩, .slice none 0 0, .slice none 0 0] 32))
  clear ih hv
  go_enter Try.func32, Try.ntmps32
  go_wp2_with (go_at_call 73; refine (cleanList_any _ _ _ (HV.out.ext ?_) HI.out).mono ?_; exact ((Ext.refl _).alloc _).alloc _; rintro e w2 ⟨v', rfl, hT, hE⟩; obtain ⟨a2, b2, o2, c2, hv2, _⟩ := id hT; subst hv2; obtain ⟨x1, x2, hE3⟩ := bx.out w2 (hE.mono (by simp)); obtain ⟨⟨z0, z1, z2, z3, z4, z5⟩, f0, f1, f2, f3, f4, f5⟩ := slot6 x2; have HT := hid hT; have X2 := hid x2; clear x1 x2 hT)
  have e6 := set6_heap X2.out (.int .i64 5) (.int .i64 0) (.float .f64 0) (.string ⟨#[]⟩) (.slice none 0 0) (.slice a2 (cleanGs l).length c2)
  have x6 := set6_below hE3 (b := w.heap.size + 1) (by omega) (.int .i64 5) (.int .i64 0) (.float .f64 0) (.string ⟨#[]⟩) (.slice none 0 0) (.slice a2 (cleanGs l).length c2)
  have T6 := HT.out.mono (w' := set6 w2 (w.heap.size + 1) (.int .i64 5) (.int .i64 0) (.float .f64 0) (.string ⟨#[]⟩) (.slice none 0 0) (.slice a2 (cleanGs l).length c2)) (S' := fun b => w.heap.size ≤ b) (fun b o hb ho => (set6_other (by simp at hb; omega) _ _ _ _ _ _).trans ho) (fun b hb _ => by simp at hb; omega)
  change bodyPost _ _ _ _ _ (set6 w2 (w.heap.size + 1) (.int .i64 5) (.int .i64 0) (.float .f64 0) (.string ⟨#[]⟩) (.slice none 0 0) (.slice a2 (cleanGs l).length c2))
  generalize set6 w2 (w.heap.size + 1) (.int .i64 5) (.int .i64 0) (.float .f64 0) (.string ⟨#[]⟩) (.slice none 0 0) (.slice a2 (cleanGs l).length c2) = WF at *
  obtain ⟨⟨y0, y1, y2, y3, y4, y5⟩, _⟩ := slot6 e6
  refine bodyPost_ret (v := .agg #[.int .i64 5, .int .i64 0, .float .f64 0, .string ⟨#[]⟩, .slice none 0 0, .slice a2 (cleanGs l).length c2]) (by simp [results, Try.results32, go_sem, y0, y1, y2, y3, y4, y5]) rfl ?_
  exact ⟨[.int .i64 5, .int .i64 0, .float .f64 0, .string ⟨#[]⟩, .slice none 0 0, .slice a2 (cleanGs l).length c2], rfl, repGV_of (by decide) (by decide) (by decide) (by decide) (RepStrs.nil _ _) T6, x6⟩
end Go.Proofs.Ytempfaefopfobaa
