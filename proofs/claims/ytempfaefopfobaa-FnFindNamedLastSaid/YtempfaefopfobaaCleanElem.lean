/- CleanElem: spec.CleanElem. -/
import Derived.Test.YtempfaefopfobaaElRep
import Derived.Test.YtempfaefopfobaaSetL
import Derived.Test.YtempfaefopfobaaCleanMap
import Derived.Test.YtempfaefopfobaaStep
import Derived.Deep.RegionHeld3

set_option maxRecDepth 100000
namespace Go.Proofs.Ytempfaefopfobaa
open Go.ChangeShapes Go.WideShapes Go.ChangeAt Go.RowKit
set_option linter.unusedVariables false
set_option linter.unusedSimpArgs false

/-- the plain form of a path element -/
def cleanE (e : GE) : GE :=
  if e.kind = 1 then ⟨1, ByteArray.empty, e.keys.take (min e.keys.length e.l.length), cleanGs (e.l.take (min e.keys.length e.l.length)), zeroG, 0⟩
  else if e.kind = 2 then ⟨2, ByteArray.empty, [], [], cleanG e.v, 0⟩
  else if e.kind = 3 then ⟨3, ByteArray.empty, [], [], zeroG, e.n⟩
  else ⟨0, e.s, [], [], zeroG, 0⟩
theorem wfk (k : Int) (h : (Lit.int .i64 k).wf = true) : (Lit.int .i64 k).wf = true := h
theorem es0 : ByteArray.empty.size ≤ 140737488351232 := by decide
theorem repZero (S : Nat → Prop) (w : World) : RepGV S w zeroG [.int .i64 0, .int .i64 0, .float .f64 0, .string ⟨#[]⟩, .slice none 0 0, .slice none 0 0] :=
  repGV_of (by decide) (by decide) (by decide) (by decide) (RepStrs.nil _ _) (RepVals.nil _ _)
theorem first_heap (w : World) (a b : Obj) : ((w.alloc a).alloc b).heap[w.heap.size]? = some a := ((Ext.refl (w.alloc a)).alloc b).block (heap_alloc_new w a)
theorem putE {w W : World} {R : Nat} {cs vs : List Value} {e : GE} {S : Nat → Prop} {t : TypeId} (hx : W.heap[R]? = some (.cells cs.toArray t)) (hl : vs.length = cs.length) (hR : w.heap.size ≤ R) (hE : Ext w W) (hG : RepGE S W e vs)
    (hS : ∀ b, S b → b ≠ R ∧ w.heap.size ≤ b) (WF : World) (hWF : WF = setL W R 0 vs) :
    WF.heap[R]? = some (.cells vs.toArray t) ∧ RepGE (fun b => w.heap.size ≤ b) WF e vs ∧ Ext w WF := by
  subst hWF
  exact ⟨setL_all hx vs hl, hG.mono (fun b o hb ho => (setL_other (hS b hb).1 _).trans ho) (fun b hb _ => (hS b hb).2), setL_below hE hR _ _⟩
theorem RepStrs.take {S : Nat → Prop} {w : World} {a : Option Addr} {n c : Nat} {ss : List ByteArray} (h : RepStrs S w (.slice a n c) ss) {m : Nat} (hm : m ≤ n) : RepStrs S w (.slice a m c) (ss.take m) := by
  obtain ⟨a', b, o, cap, h1, h2, h3, h4, h5, h6⟩ := h
  simp only [Value.slice.injEq] at h1
  obtain ⟨rfl, rfl, rfl⟩ := h1
  refine ⟨a, b, o, c, by simp [hm], by simp; omega, by simp; omega, fun h0 => h4 (by simp at h0; omega), fun i s hs => h5 i s ?_, fun s hs => h6 s (List.mem_of_mem_take hs)⟩
  rw [List.getElem?_take] at hs
  split at hs
  · exact hs
  · simp at hs
theorem RepVals.take {S : Nat → Prop} {w : World} {a : Option Addr} {n c : Nat} {l : List GV} (h : RepVals S w (.slice a n c) l) {m : Nat} (hm : m ≤ n) : RepVals S w (.slice a m c) (l.take m) := by
  obtain ⟨a', b, o, cap, h1, h2, h3, h4, h5, h6⟩ := h
  simp only [Value.slice.injEq] at h1
  obtain ⟨rfl, rfl, rfl⟩ := h1
  refine ⟨a, b, o, c, by simp [hm], by simp; omega, by simp; omega, fun h0 => h4 (by simp at h0; omega), fun i hi => h5 i (by simp at hi; omega), fun i g cs hg => h6 i g cs ?_⟩
  rw [List.getElem?_take] at hg
  split at hg
  · exact hg
  · simp at hg
theorem set11_raw {B : Nat} {a W : World} (h : Below B a W) {b : Nat} (hb : B ≤ b) (x0 x1 x2 x3 x4 x5 x6 x7 x8 x9 x10 : Value) : Below B a (((((((((((W.setCell ⟨b, 0, none⟩ x0).setCell ⟨b, 1, none⟩ x1).setCell ⟨b, 2, none⟩ x2).setCell ⟨b, 3, none⟩ x3).setCell ⟨b, 4, none⟩ x4).setCell ⟨b, 5, none⟩ x5).setCell ⟨b, 6, none⟩ x6).setCell ⟨b, 7, none⟩ x7).setCell ⟨b, 8, none⟩ x8).setCell ⟨b, 9, none⟩ x9).setCell ⟨b, 10, none⟩ x10) := setL_below h hb 0 [x0, x1, x2, x3, x4, x5, x6, x7, x8, x9, x10]
set_option maxHeartbeats 1000000 in
theorem ce_k (k : Int) (s : ByteArray) (a1 : Option Addr) (n1 c1 : Nat) (a2 : Option Addr) (n2 c2 : Nat) (v0 v1 v2 v3 v4 v5 : Value) (n : Int) (w : World) (d1 : (k == 1) = false) (d2 : (k == 2) = false) (d3 : (k == 3) = false) (hs : s.size ≤ 140737488351232) : Calls Try.prog 54 #[.agg #[.int .i64 k, .string s, .slice a1 n1 c1, .slice a2 n2 c2, v0, v1, v2, v3, v4, v5, .int .i64 n]] w fun en w' => ∃ cs', en = .returned (.agg cs'.toArray) ∧ RepGE (fun b => w.heap.size ≤ b) w' ⟨0, s, [], [], zeroG, 0⟩ cs' ∧ Ext w w' := by
  go_enter Try.func54, Try.ntmps54
  go_wp2_with fail
  obtain ⟨⟨y0, y1, y2, y3, y4, y5, y6, y7, y8, y9, y10⟩, -⟩ := slot11 (second_heap w (.cells #[.int .i64 k, .string s, .slice a1 n1 c1, .slice a2 n2 c2, v0, v1, v2, v3, v4, v5, .int .i64 n] 34) (.cells #[.int .i64 0, .string s, .slice none 0 0, .slice none 0 0, .int .i64 0, .int .i64 0, .float .f64 0, .string ⟨#[]⟩, .slice none 0 0, .slice none 0 0, .int .i64 0] 34))
  refine bodyPost_ret (v := .agg #[.int .i64 0, .string s, .slice none 0 0, .slice none 0 0, .int .i64 0, .int .i64 0, .float .f64 0, .string ⟨#[]⟩, .slice none 0 0, .slice none 0 0, .int .i64 0]) (by simp [results, Try.results54, go_sem, y0, y1, y2, y3, y4, y5, y6, y7, y8, y9, y10]) rfl ⟨_, rfl, ⟨none, 0, none, 0, _, _, _, _, _, _, rfl, wfk 0 rfl, wfk 0 rfl, hs, RepStrs.nil _ _, RepVals.nil _ _, repZero _ _⟩, ((Ext.refl w).alloc _).alloc _⟩
set_option maxHeartbeats 1000000 in
theorem ce_3 (s : ByteArray) (a1 : Option Addr) (n1 c1 : Nat) (a2 : Option Addr) (n2 c2 : Nat) (v0 v1 v2 v3 v4 v5 : Value) (n : Int) (w : World) (hn : (Lit.int .i64 n).wf = true) : Calls Try.prog 54 #[.agg #[.int .i64 3, .string s, .slice a1 n1 c1, .slice a2 n2 c2, v0, v1, v2, v3, v4, v5, .int .i64 n]] w fun en w' => ∃ cs', en = .returned (.agg cs'.toArray) ∧ RepGE (fun b => w.heap.size ≤ b) w' ⟨3, ByteArray.empty, [], [], zeroG, n⟩ cs' ∧ Ext w w' := by
  go_enter Try.func54, Try.ntmps54
  go_wp2_with fail
  obtain ⟨⟨y0, y1, y2, y3, y4, y5, y6, y7, y8, y9, y10⟩, -⟩ := slot11 (second_heap w (.cells #[.int .i64 3, .string s, .slice a1 n1 c1, .slice a2 n2 c2, v0, v1, v2, v3, v4, v5, .int .i64 n] 34) (.cells #[.int .i64 3, .string ⟨#[]⟩, .slice none 0 0, .slice none 0 0, .int .i64 0, .int .i64 0, .float .f64 0, .string ⟨#[]⟩, .slice none 0 0, .slice none 0 0, .int .i64 n] 34))
  refine bodyPost_ret (v := .agg #[.int .i64 3, .string ⟨#[]⟩, .slice none 0 0, .slice none 0 0, .int .i64 0, .int .i64 0, .float .f64 0, .string ⟨#[]⟩, .slice none 0 0, .slice none 0 0, .int .i64 n]) (by simp [results, Try.results54, go_sem, y0, y1, y2, y3, y4, y5, y6, y7, y8, y9, y10]) rfl ⟨_, rfl, ⟨none, 0, none, 0, _, _, _, _, _, _, rfl, wfk 3 rfl, hn, es0, RepStrs.nil _ _, RepVals.nil _ _, repZero _ _⟩, ((Ext.refl w).alloc _).alloc _⟩
set_option maxHeartbeats 1000000 in
theorem ce_2 (s : ByteArray) (a1 : Option Addr) (n1 c1 : Nat) (a2 : Option Addr) (n2 c2 : Nat) (v0 v1 v2 v3 v4 v5 : Value) (n : Int) (w : World) (g : GV) (hg : RepGV Any w g [v0, v1, v2, v3, v4, v5]) : Calls Try.prog 54 #[.agg #[.int .i64 2, .string s, .slice a1 n1 c1, .slice a2 n2 c2, v0, v1, v2, v3, v4, v5, .int .i64 n]] w fun en w' => ∃ cs', en = .returned (.agg cs'.toArray) ∧ RepGE (fun b => w.heap.size ≤ b) w' ⟨2, ByteArray.empty, [], [], cleanG g, 0⟩ cs' ∧ Ext w w' := by
  have HG := hid hg
  clear hg
  go_enter Try.func54, Try.ntmps54
  have xx := second_heap w (.cells #[.int .i64 2, .string s, .slice a1 n1 c1, .slice a2 n2 c2, v0, v1, v2, v3, v4, v5, .int .i64 n] 34) (.cells #[.int .i64 0, .string ⟨#[]⟩, .slice none 0 0, .slice none 0 0, .int .i64 0, .int .i64 0, .float .f64 0, .string ⟨#[]⟩, .slice none 0 0, .slice none 0 0, .int .i64 0] 34)
  have HX := hid xx
  have hsz : w.heap.size + 2 ≤ ((w.alloc (.cells #[.int .i64 2, .string s, .slice a1 n1 c1, .slice a2 n2 c2, v0, v1, v2, v3, v4, v5, .int .i64 n] 34)).alloc (.cells #[.int .i64 0, .string ⟨#[]⟩, .slice none 0 0, .slice none 0 0, .int .i64 0, .int .i64 0, .float .f64 0, .string ⟨#[]⟩, .slice none 0 0, .slice none 0 0, .int .i64 0] 34)).heap.size := by simp
  clear xx
  go_wp2_with (go_at_call 32; refine (clean_any g _ _ (HG.out.ext (((Ext.refl w).alloc _).alloc _))).mono ?_; rintro e w2 ⟨cs, rfl, hT, hE⟩; obtain ⟨u1, u2, u3, u4, u5, u6, u7, u8, u9, u10, rfl⟩ := hT.form; have HT := hid (hT.weak (S' := fun b => w.heap.size + 2 ≤ b) (fun b hb _ => by simp at hb; omega)); have HX2 := hid (hE.block HX.out); have HE := hid ((((Ext.refl w).alloc _).alloc _).trans hE); have HS2 := hid (Nat.le_trans hsz hE.size); obtain ⟨⟨z0, z1, z2, z3, z4, z5, z6, z7, z8, z9, z10⟩, f0, f1, f2, f3, f4, f5, f6, f7, f8, f9, f10⟩ := slot11 (hE.block HX.out); clear hT hE)
  have hsz2 := HS2.out
  change bodyPost _ _ _ _ _ (setL w2 (w.heap.size + 1) 0 [.int .i64 2, .string ⟨#[]⟩, .slice none 0 0, .slice none 0 0, .int .i64 u1, .int .i64 u2, .float .f64 u3, .string u4, .slice u5 u6 u7, .slice u8 u9 u10, .int .i64 0])
  obtain ⟨e4, hr4, x4⟩ := putE (e := ⟨2, ByteArray.empty, [], [], cleanG g, 0⟩) (w := w) (W := w2) (S := fun b => w.heap.size + 2 ≤ b) (vs := [.int .i64 2, .string ⟨#[]⟩, .slice none 0 0, .slice none 0 0, .int .i64 u1, .int .i64 u2, .float .f64 u3, .string u4, .slice u5 u6 u7, .slice u8 u9 u10, .int .i64 0]) HX2.out rfl (Nat.le_succ _) HE.out ⟨none, 0, none, 0, _, _, _, _, _, _, rfl, wfk 2 rfl, wfk 0 rfl, es0, RepStrs.nil _ _, RepVals.nil _ _, HT.out⟩ (fun b hb => by have hb2 : w.heap.size + 2 ≤ b := hb; omega) _ rfl
  generalize setL w2 (w.heap.size + 1) 0 [.int .i64 2, .string ⟨#[]⟩, .slice none 0 0, .slice none 0 0, .int .i64 u1, .int .i64 u2, .float .f64 u3, .string u4, .slice u5 u6 u7, .slice u8 u9 u10, .int .i64 0] = WF at *
  obtain ⟨⟨y0, y1, y2, y3, y4, y5, y6, y7, y8, y9, y10⟩, -⟩ := slot11 e4
  refine bodyPost_ret (v := .agg #[.int .i64 2, .string ⟨#[]⟩, .slice none 0 0, .slice none 0 0, .int .i64 u1, .int .i64 u2, .float .f64 u3, .string u4, .slice u5 u6 u7, .slice u8 u9 u10, .int .i64 0]) (by simp [results, Try.results54, go_sem, y0, y1, y2, y3, y4, y5, y6, y7, y8, y9, y10]) rfl ⟨_, rfl, hr4, x4⟩
theorem src_take {S : Nat → Prop} {w : World} {a : Option Addr} {n c : Nat} {ss : List ByteArray} (h : RepStrs S w (.slice a n c) ss) : SrcAt w a n (ss.map Value.string) := by
  have := src_all h
  obtain ⟨a', b, o, cap, h1, -⟩ := h
  simp only [Value.slice.injEq] at h1
  rwa [← h1.2.1] at this
set_option maxHeartbeats 2000000 in
theorem ce_1 (s : ByteArray) (a1 : Option Addr) (n1 c1 : Nat) (a2 : Option Addr) (n2 c2 : Nat) (v0 v1 v2 v3 v4 v5 : Value) (n : Int) (w : World) (ks : List ByteArray) (l : List GV) (hk : RepStrs Any w (.slice a1 n1 c1) ks) (hl : RepVals Any w (.slice a2 n2 c2) l) :
    Calls Try.prog 54 #[.agg #[.int .i64 1, .string s, .slice a1 n1 c1, .slice a2 n2 c2, v0, v1, v2, v3, v4, v5, .int .i64 n]] w fun en w' => ∃ cs', en = .returned (.agg cs'.toArray) ∧ RepGE (fun b => w.heap.size ≤ b) w' ⟨1, ByteArray.empty, ks.take (min n1 n2), cleanGs (l.take (min n1 n2)), zeroG, 0⟩ cs' ∧ Ext w w' := by
  obtain ⟨is, his, hs0, hs1, hs2⟩ := info_parts infoStr
  obtain ⟨m, hm⟩ : ∃ m, m = min n1 n2 := ⟨_, rfl⟩
  have HM := hid hm
  have hm1 : m ≤ n1 := by omega
  have hm2 : m ≤ n2 := by omega
  have HK := hid (hk.take hm1)
  have HL := hid (hl.take hm2)
  have HKL := hid (show ((ks.take m).map Value.string).length = m * 1 by obtain ⟨_, _, _, _, h1, h2, -⟩ := hk; simp only [Value.slice.injEq] at h1; obtain ⟨rfl, rfl, rfl⟩ := h1; simp [hm1])
  rw [← hm]
  clear hm
  have hc1 : n1 ≤ c1 := by obtain ⟨_, _, _, _, h1, h2, -⟩ := hk; simp only [Value.slice.injEq] at h1; obtain ⟨rfl, rfl, rfl⟩ := h1; exact h2
  have hc2 : n2 ≤ c2 := by obtain ⟨_, _, _, _, h1, h2, -⟩ := hl; simp only [Value.slice.injEq] at h1; obtain ⟨rfl, rfl, rfl⟩ := h1; exact h2
  have hn1 : n1 * 16 ≤ 140737488351232 := by obtain ⟨_, _, _, _, h1, h2, h3, -⟩ := hk; simp only [Value.slice.injEq] at h1; obtain ⟨rfl, rfl, rfl⟩ := h1; exact h3
  clear hk hl
  go_enter Try.func54, Try.ntmps54
  go_upto_region 3 with fail
  have xx1 := first_heap w (.cells #[.int .i64 1, .string s, .slice a1 n1 c1, .slice a2 n2 c2, v0, v1, v2, v3, v4, v5, .int .i64 n] 34) (.cells #[.int .i64 0, .string ⟨#[]⟩, .slice none 0 0, .slice none 0 0, .int .i64 0, .int .i64 0, .float .f64 0, .string ⟨#[]⟩, .slice none 0 0, .slice none 0 0, .int .i64 0] 34)
  have xx2 := second_heap w (.cells #[.int .i64 1, .string s, .slice a1 n1 c1, .slice a2 n2 c2, v0, v1, v2, v3, v4, v5, .int .i64 n] 34) (.cells #[.int .i64 0, .string ⟨#[]⟩, .slice none 0 0, .slice none 0 0, .int .i64 0, .int .i64 0, .float .f64 0, .string ⟨#[]⟩, .slice none 0 0, .slice none 0 0, .int .i64 0] 34)
  have HE1 := hid (((Ext.refl w).alloc (.cells #[.int .i64 1, .string s, .slice a1 n1 c1, .slice a2 n2 c2, v0, v1, v2, v3, v4, v5, .int .i64 n] 34)).alloc (.cells #[.int .i64 0, .string ⟨#[]⟩, .slice none 0 0, .slice none 0 0, .int .i64 0, .int .i64 0, .float .f64 0, .string ⟨#[]⟩, .slice none 0 0, .slice none 0 0, .int .i64 0] 34))
  have hsz : w.heap.size + 2 = ((w.alloc (.cells #[.int .i64 1, .string s, .slice a1 n1 c1, .slice a2 n2 c2, v0, v1, v2, v3, v4, v5, .int .i64 n] 34)).alloc (.cells #[.int .i64 0, .string ⟨#[]⟩, .slice none 0 0, .slice none 0 0, .int .i64 0, .int .i64 0, .float .f64 0, .string ⟨#[]⟩, .slice none 0 0, .slice none 0 0, .int .i64 0] 34)).heap.size := by simp
  generalize (w.alloc (.cells #[.int .i64 1, .string s, .slice a1 n1 c1, .slice a2 n2 c2, v0, v1, v2, v3, v4, v5, .int .i64 n] 34)).alloc (.cells #[.int .i64 0, .string ⟨#[]⟩, .slice none 0 0, .slice none 0 0, .int .i64 0, .int .i64 0, .float .f64 0, .string ⟨#[]⟩, .slice none 0 0, .slice none 0 0, .int .i64 0] 34) = w1 at *
  have X1 := hid xx1
  have X2 := hid xx2
  obtain ⟨⟨z0, z1, z2, z3, z4, z5, z6, z7, z8, z9, z10⟩, f0, f1, f2, f3, f4, f5, f6, f7, f8, f9, f10⟩ := slot11 xx1
  obtain ⟨⟨y0, y1, y2, y3, y4, y5, y6, y7, y8, y9, y10⟩, g0, g1, g2, g3, g4, g5, g6, g7, g8, g9, g10⟩ := slot11 xx2
  clear xx1 xx2
  have HO := hid (World.ownsRow_lit (base := w1.heap.size) (e := 9) (size := 1) w1 #[] 0 (Nat.le_refl _) (by decide) (by simp))
  have HTK := hid (show (ks.take m).length * 16 ≤ 140737488351232 ∧ ∀ s ∈ ks.take m, s.size ≤ 140737488351232 by obtain ⟨_, _, _, _, h1, h2, h3, -, -, h6⟩ := HK.out; exact ⟨h3, h6⟩)
  have HSZ := hid (show w.heap.size + 1 ≤ w1.heap.size by omega)
  have HKM := hid (show (ks.take m).length = m by have := HKL.out; simpa using this)
  have HS0 := hid (show w1.heap.size ≤ (w1.alloc (.cells #[] 9)).drew.heap.size by simp)
  have HMIN := hid (show (if n2 < n1 then (n2 : Int) else (n1 : Int)) = (m : Int) by have := HM.out; split <;> omega)
  have hi0 : (0 : Int) ≤ (m : Int) := by omega
  have hi1 : (m : Int) ≤ (c1 : Int) := by omega
  have hi2 : (m : Int) ≤ (c2 : Int) := by omega
  have K := hid (show ∀ w' : World, Below (w.heap.size + 1) w1 w' → (fun w' : World => w'.cell? ⟨w.heap.size, 2, none⟩ = some (.slice a1 n1 c1) ∧ w'.cell? ⟨w.heap.size, 3, none⟩ = some (.slice a2 n2 c2)) w' from fun w' h => by
    obtain ⟨⟨z0, z1, z2, z3, z4, z5, z6, z7, z8, z9, z10⟩, -⟩ := slot11 ((Below.block h _ (by omega)).trans X1.out)
    exact ⟨z2, z3⟩)
  go_upto_region 4 with fail
  simp only [HMIN.out, ← HM.out]
  go_region_held3 (fun w' : World => w'.cell? ⟨w.heap.size, 2, none⟩ = some (.slice a1 n1 c1) ∧ w'.cell? ⟨w.heap.size, 3, none⟩ = some (.slice a2 n2 c2))
    (first | with_reducible exact K.out _ (HE5.out.mono HSZ.out) | with_reducible exact K.out _ (HEA.out.mono HSZ.out) | with_reducible exact K.out _ ((Ext.refl w1).drew.mono HSZ.out) | with_reducible exact K.out _ ((((Ext.refl w1).alloc (.cells #[] 9)).drew).mono HSZ.out) | with_reducible exact K.out _ (((Ext.refl w1).alloc (.cells #[] 9)).mono HSZ.out) | with_reducible exact K.out _ (set11_raw (HE5.out.mono HSZ.out) (Nat.le_refl _) _ _ _ _ _ _ _ _ _ _ _))
    (first
      | (refine step_append_src _ rfl (.tmp 15) (.tmp 19) 26 rfl w1.heap.size 9 is (.string ByteArray.empty) 1 16 Try.underlying26 his hs0 hs1 hs2 rfl (by decide) _ 0 [] rfl HO.out a1 m c1 ((ks.take m).map .string) rfl HKL.out (src_take (HK.out.ext (HE1.out.trans (((Ext.refl w1).alloc (.cells #[] 9)).drew)))) (strs_oneCell _) (by unfold maxLen; omega) (by omega) HS0.out ?_; intro a4 c4 w4 hown4 hg4 hat; rw [Nat.zero_add] at hown4; have HRS := hid (strs_of_row (S := fun b => w1.heap.size ≤ b) hown4 (fun b h => h) HTK.out.1 HTK.out.2); have HEA := hid (ext_own (((Ext.refl w1).alloc (.cells #[] 9)).drew) hg4 (fun g e => by cases e; exact Nat.le_refl _)); obtain ⟨⟨z0, z1, z2, z3, z4, z5, z6, z7, z8, z9, z10⟩, f0, f1, f2, f3, f4, f5, f6, f7, f8, f9, f10⟩ := slot11 (HEA.out.block X2.out); clear hown4 hg4 hat)
      | (go_at_call 73; refine (cleanList_any _ (l.take m) _ (HL.out.ext (HE1.out.trans HEA.out)) (fun _ g _ => clean_any g)).mono ?_; rintro e5 w5 ⟨v', rfl, hT, hE⟩; obtain ⟨b1, b2, b3, b4, hf, -⟩ := id hT; rw [hf] at hT ⊢; have HT := hid hT; have HG := hid hE; have HE5 := hid (HEA.out.trans hE); have HS4 := hid (HEA.out.size); obtain ⟨⟨z0, z1, z2, z3, z4, z5, z6, z7, z8, z9, z10⟩, f0, f1, f2, f3, f4, f5, f6, f7, f8, f9, f10⟩ := slot11 (HE5.out.block X2.out); clear hT hE hf))
  go_wp2_with fail
  have hs4 := HS4.out
  change bodyPost _ _ _ _ _ (setL w5 (w.heap.size + 1) 0 [.int .i64 1, .string ⟨#[]⟩, .slice a4 m c4, .slice b1 (cleanGs (l.take m)).length b4, .int .i64 0, .int .i64 0, .float .f64 0, .string ⟨#[]⟩, .slice none 0 0, .slice none 0 0, .int .i64 0])
  obtain ⟨e4, hr4, x4⟩ := putE (e := ⟨1, ByteArray.empty, ks.take m, cleanGs (l.take m), zeroG, 0⟩) (w := w) (W := w5) (S := fun b => w1.heap.size ≤ b) (vs := [.int .i64 1, .string ⟨#[]⟩, .slice a4 m c4, .slice b1 (cleanGs (l.take m)).length b4, .int .i64 0, .int .i64 0, .float .f64 0, .string ⟨#[]⟩, .slice none 0 0, .slice none 0 0, .int .i64 0]) (HE5.out.block X2.out) rfl (Nat.le_succ _) (HE1.out.trans HE5.out) ⟨a4, c4, b1, b4, _, _, _, _, _, _, by simp only [HKM.out]; rfl, wfk 1 rfl, wfk 0 rfl, es0, by simp only [HKM.out]; exact HRS.out.ext HG.out, HT.out.mono (Same.refl _ _) (fun b hb _ => Nat.le_trans hs4 hb), repZero _ _⟩ (fun b hb => by have hb2 : w1.heap.size ≤ b := hb; omega) _ rfl
  generalize setL w5 (w.heap.size + 1) 0 [.int .i64 1, .string ⟨#[]⟩, .slice a4 m c4, .slice b1 (cleanGs (l.take m)).length b4, .int .i64 0, .int .i64 0, .float .f64 0, .string ⟨#[]⟩, .slice none 0 0, .slice none 0 0, .int .i64 0] = WF at *
  obtain ⟨⟨y0, y1, y2, y3, y4, y5, y6, y7, y8, y9, y10⟩, -⟩ := slot11 e4
  refine bodyPost_ret (v := .agg #[.int .i64 1, .string ⟨#[]⟩, .slice a4 m c4, .slice b1 (cleanGs (l.take m)).length b4, .int .i64 0, .int .i64 0, .float .f64 0, .string ⟨#[]⟩, .slice none 0 0, .slice none 0 0, .int .i64 0]) (by simp [results, Try.results54, go_sem, y0, y1, y2, y3, y4, y5, y6, y7, y8, y9, y10]) rfl ⟨_, rfl, hr4, x4⟩
theorem cleanElem_any (e : GE) (cs : List Value) (w : World) (hR : RepGE Any w e cs) :
    Calls Try.prog 54 #[.agg cs.toArray] w fun en w' => ∃ cs', en = .returned (.agg cs'.toArray) ∧ RepGE (fun b => w.heap.size ≤ b) w' (cleanE e) cs' ∧ Ext w w' := by
  obtain ⟨ka, kc, la, lc, v0, v1, v2, v3, v4, v5, rfl, hk, hn, hs, hks, hl, hv⟩ := hR
  unfold cleanE
  by_cases h1 : e.kind = 1
  · rw [if_pos h1, h1]
    exact ce_1 _ _ _ _ _ _ _ _ _ _ _ _ _ _ w _ _ hks hl
  rw [if_neg h1]
  by_cases h2 : e.kind = 2
  · rw [if_pos h2, h2]
    exact ce_2 _ _ _ _ _ _ _ _ _ _ _ _ _ _ w _ hv
  rw [if_neg h2]
  by_cases h3 : e.kind = 3
  · rw [if_pos h3, h3]
    exact ce_3 _ _ _ _ _ _ _ _ _ _ _ _ _ _ w hn
  rw [if_neg h3]
  exact ce_k _ _ _ _ _ _ _ _ _ _ _ _ _ _ _ w (by simpa using h1) (by simpa using h2) (by simpa using h3) hs
end Go.Proofs.Ytempfaefopfobaa
