/- SortKeys: impl.SortKeys. -/
import Derived.Test.YtempfaefopfobaaSort
import Derived.Test.YtempfaefopfobaaFromEl

set_option maxRecDepth 100000
namespace Go.Proofs.Ytempfaefopfobaa
open Go.ChangeShapes Go.WideShapes Go.ChangeAt Go.RowKit
set_option linter.unusedVariables false
set_option linter.unusedSimpArgs false

theorem RepGE.form7 {S : Nat → Prop} {w : World} {e : GE} {cs : List Value} (h : RepGE S w e cs) : ∃ r0 r1 r2 e2 r3 r4 e4 r5 u1 u2 u3 u4 u5 u6 u7 u8 u9 u10 r6, cs = [.int .i64 r0, .string r1, .slice r2 e2 r3, .slice r4 e4 r5, .int .i64 u1, .int .i64 u2, .float .f64 u3, .string u4, .slice u5 u6 u7, .slice u8 u9 u10, .int .i64 r6] := by
  obtain ⟨ka, kc, la, lc, v0, v1, v2, v3, v4, v5, h, -, -, -, -, -, hv⟩ := h
  obtain ⟨u1, u2, u3, u4, u5, u6, u7, u8, u9, u10, h2⟩ := hv.form
  simp only [List.cons.injEq, and_true] at h2
  obtain ⟨rfl, rfl, rfl, rfl, rfl, rfl⟩ := h2
  exact ⟨_, _, _, _, _, _, _, _, _, _, _, _, _, _, _, _, _, _, _, h⟩
set_option maxHeartbeats 2000000 in
theorem sortKeys_any (e : GE) (cs : List Value) (w : World) (hR : RepGE Any w e cs) :
    Calls Try.prog 30 #[.agg cs.toArray] w fun en w' => ∃ cs', en = .returned (.agg cs'.toArray) ∧ RepGE (fun b => w.heap.size ≤ b) w' (fromEl (.key (sortP (keyT e)))) cs' ∧ Ext w w' := by
  have HR := hid hR
  obtain ⟨k, s, a1, n1, c1, a2, n2, c2, v0, v1, v2, v3, v4, v5, m, rfl⟩ := hR.form
  clear hR
  go_enter Try.func30, Try.ntmps30
  have HX := hid (second_heap w (.cells #[.int .i64 k, .string s, .slice a1 n1 c1, .slice a2 n2 c2, v0, v1, v2, v3, v4, v5, .int .i64 m] 34) (.cells #[.int .i64 0, .string ⟨#[]⟩, .slice none 0 0, .slice none 0 0, .int .i64 0, .int .i64 0, .float .f64 0, .string ⟨#[]⟩, .slice none 0 0, .slice none 0 0, .int .i64 0] 34))
  have HSW := hid (show ((w.alloc (.cells #[.int .i64 k, .string s, .slice a1 n1 c1, .slice a2 n2 c2, v0, v1, v2, v3, v4, v5, .int .i64 m] 34)).alloc (.cells #[.int .i64 0, .string ⟨#[]⟩, .slice none 0 0, .slice none 0 0, .int .i64 0, .int .i64 0, .float .f64 0, .string ⟨#[]⟩, .slice none 0 0, .slice none 0 0, .int .i64 0] 34)).heap.size = w.heap.size + 2 by simp)
  go_wp2_with (first
    | (go_at_call 71; refine (toKeys_own e _ _ (HR.out.ext (((Ext.refl w).alloc _).alloc _))).mono ?_; rintro en w2 ⟨v, n, xs, rfl, hown, hrow, hsz, hE⟩; obtain ⟨va, vc, rfl⟩ := own_form hown; have HOWN := hid hown; have HROW := hid hrow; have HSZ := hid hsz; have HE2 := hid hE; clear hown hrow hsz hE)
    | (go_at_call 72; refine (sortFs_any _ (keyT e) _ n _ xs _ (HOWN.out.alloc _) (HROW.out.mono (((Ext.refl w2).alloc _).same _) (fun _ h _ => h)) (fun b hb => hb.2) HSZ.out).mono ?_; rintro en w4 ⟨rfl, ⟨xs', hown4, hrow4⟩, hg4⟩; have HB4 := hid (show w4.heap[w2.heap.size]? = some (.cells #[.slice va n vc] 116) from (hg4.block _ (by simp) (fun e => by have := own_lt HOWN.out _ e.symm; omega)).trans (heap_alloc_new w2 _)); have HE4 := hid (show Ext ((w.alloc (.cells #[.int .i64 k, .string s, .slice a1 n1 c1, .slice a2 n2 c2, v0, v1, v2, v3, v4, v5, .int .i64 m] 34)).alloc (.cells #[.int .i64 0, .string ⟨#[]⟩, .slice none 0 0, .slice none 0 0, .int .i64 0, .int .i64 0, .float .f64 0, .string ⟨#[]⟩, .slice none 0 0, .slice none 0 0, .int .i64 0] 34)) w4 from ext_own (HE2.out.alloc _) hg4 (fun g e => by have := own_ge HOWN.out g e; omega)); have HREP := hid (show RepEl Any w4 (.key (sortP (keyT e))) [.pointer none, .pointer (some ⟨w2.heap.size, 0, none⟩), .pointer none, .pointer none] from ⟨w2.heap.size, 0, trivial, rfl, _, (cell_of_heap HB4.out 0).trans rfl, fs_of_row hown4 (hrow4.mono (Same.refl _ _) (fun _ _ _ => trivial)) (fun _ _ => trivial) (by rw [sortP_length]; exact HSZ.out)⟩); clear hown4 hrow4 hg4)
    | (go_at_call 52; refine (fromElem_any Any (.key (sortP (keyT e))) [.pointer none, .pointer (some ⟨w2.heap.size, 0, none⟩), .pointer none, .pointer none] _ HREP.out).mono ?_; rintro en w5 ⟨cs5, rfl, hG, hE⟩; obtain ⟨r0, r1, r2, e2, r3, r4, e4, r5, u1, u2, u3, u4, u5, u6, u7, u8, u9, u10, r6, rfl⟩ := hG.form7; have HG := hid (hG.weak (S' := fun b => w.heap.size + 2 ≤ b) (fun b hb _ => by have := HE4.out.size; have := HSW.out; omega)); have HE5 := hid (HE4.out.trans hE); obtain ⟨⟨z0, z1, z2, z3, z4, z5, z6, z7, z8, z9, z10⟩, f0, f1, f2, f3, f4, f5, f6, f7, f8, f9, f10⟩ := slot11 (HE5.out.block HX.out); clear hG hE))
  change bodyPost _ _ _ _ _ (setL w5 (w.heap.size + 1) 0 [.int .i64 r0, .string r1, .slice r2 e2 r3, .slice r4 e4 r5, .int .i64 u1, .int .i64 u2, .float .f64 u3, .string u4, .slice u5 u6 u7, .slice u8 u9 u10, .int .i64 r6])
  obtain ⟨e6, hr6, x6⟩ := putE (e := fromEl (.key (sortP (keyT e)))) (w := w) (W := w5) (S := fun b => w.heap.size + 2 ≤ b) (vs := [.int .i64 r0, .string r1, .slice r2 e2 r3, .slice r4 e4 r5, .int .i64 u1, .int .i64 u2, .float .f64 u3, .string u4, .slice u5 u6 u7, .slice u8 u9 u10, .int .i64 r6]) (HE5.out.block HX.out) rfl (Nat.le_succ _) ((((Ext.refl w).alloc _).alloc _).trans HE5.out) HG.out (fun b hb => by have hb2 : w.heap.size + 2 ≤ b := hb; omega) _ rfl
  generalize setL w5 (w.heap.size + 1) 0 [.int .i64 r0, .string r1, .slice r2 e2 r3, .slice r4 e4 r5, .int .i64 u1, .int .i64 u2, .float .f64 u3, .string u4, .slice u5 u6 u7, .slice u8 u9 u10, .int .i64 r6] = WF at *
  obtain ⟨⟨y0, y1, y2, y3, y4, y5, y6, y7, y8, y9, y10⟩, -⟩ := slot11 e6
  refine bodyPost_ret (v := .agg #[.int .i64 r0, .string r1, .slice r2 e2 r3, .slice r4 e4 r5, .int .i64 u1, .int .i64 u2, .float .f64 u3, .string u4, .slice u5 u6 u7, .slice u8 u9 u10, .int .i64 r6]) (by simp [results, Try.results30, go_sem, y0, y1, y2, y3, y4, y5, y6, y7, y8, y9, y10]) rfl ⟨_, rfl, hr6, x6⟩
end Go.Proofs.Ytempfaefopfobaa
