/- GuessD: DoorGuess, impl.GuessElem: the path element of an item of a list of which no type is known. -/
import Derived.Test.YtempfaefopfobaaDoorGuess
import Derived.Test.YtempfaefopfobaaDoorSameElem

set_option maxRecDepth 100000
namespace Go.Proofs.YtempfaefopfobaaDoor
open Go.ChangeShapes Go.WideShapes Go.ChangeAt Go.RowKit
set_option linter.unusedVariables false
set_option linter.unusedSimpArgs false

theorem guess_any (S : Nat → Prop) (t : Tree) (x : Value) (n : Int) (hn : (Lit.int .i64 n).wf = true) (ow : Nat) (al : Addr) (gb go gc : Nat) (w : World)
    (hW : w.heap[ow]? = some (.cells #[.slice none 0 0, .nilIface, .iface 75 (.pointer (some al)), .nilFunc] 65)) (hG : CandAt w gb go gc) (hV : RepVal S w t x) :
    Calls Tryd.prog 19 #[.pointer (some ⟨ow, 0, none⟩), .int .i64 n, x] w fun en w' => ∃ cs', en = .returned (.agg cs'.toArray) ∧ RepEl (fun b => S b ∨ w.heap.size ≤ b) w' (guessEl n t) cs' ∧ Ext w w' := by
  cases t with
  | map m => exact guess_map S x n hn ow al gb go gc w hW hG m hV
  | _ => exact guess_idx S x n hn ow al gb go gc w hW hG _ rfl hV
theorem RepEl.form4 {S : Nat → Prop} {w : World} {e : El} {cs : List Value} (h : RepEl S w e cs) : ∃ a0 a1 a2 a3, cs = [.pointer a0, .pointer a1, .pointer a2, .pointer a3] := by
  obtain ⟨b, o, -, h⟩ := h
  cases e <;> exact ⟨_, _, _, _, h.1⟩
theorem putG' {w W : World} {R : Nat} {cs vs : List Value} {e : GE} {t : TypeId} (hx : W.heap[R]? = some (.cells cs.toArray t)) (hl : vs.length = cs.length) (hR : w.heap.size ≤ R) (hE : Ext w W) (hG : RepGE (fun b => w.heap.size ≤ b ∧ b ≠ R) W e vs)
    (WF : World) (hWF : WF = setL W R 0 vs) : WF.heap[R]? = some (.cells vs.toArray t) ∧ RepGE (fun b => w.heap.size ≤ b) WF e vs ∧ Ext w WF := by
  subst hWF
  exact ⟨setL_all hx vs hl, hG.mono (fun b o hb ho => (setL_other hb.2 _).trans ho) (fun b hb _ => hb.1), setL_below hE hR _ _⟩
set_option maxHeartbeats 1000000 in
theorem newHeap_any (w : World) : Calls Tryd.prog 18 #[] w fun e w' => (∃ b, e = .returned (.iface 75 (.pointer (some ⟨b, 0, none⟩)))) ∧ Ext w w' := by
  go_enter Tryd.func18, Tryd.ntmps18
  go_wp2
  go_ret
  exact ⟨⟨_, rfl⟩, (Ext.refl _).alloc _⟩
set_option maxHeartbeats 2000000 in
theorem door_any (S : Nat → Prop) (t : Tree) (x : Value) (n : Int) (hn : (Lit.int .i64 n).wf = true) (gb go gc : Nat) (w : World) (hG : CandAt w gb go gc) (hV : RepVal S w t x) :
    Calls Tryd.prog 10 #[.int .i64 n, x] w fun en w' => ∃ cs', en = .returned (.agg cs'.toArray) ∧ RepEl (fun b => S b ∨ w.heap.size ≤ b) w' (guessEl n t) cs' ∧ Ext w w' := by
  have HV := hid (hV.weak (S' := fun b => S b ∧ b < w.heap.size) (fun b h1 h2 => ⟨h1, h2⟩))
  have HG := hid hG
  have HN := hid hn
  obtain ⟨bx, rfl⟩ := repVal_form hV
  clear hV hG hn
  have HX0 := hid (heap_alloc_new w (.cells #[.pointer none, .pointer none, .pointer none, .pointer none] 40))
  have HE0 := hid ((Ext.refl w).alloc (.cells #[.pointer none, .pointer none, .pointer none, .pointer none] 40))
  go_enter Tryd.func10, Tryd.ntmps10
  go_wp2_with (first
    | (go_at_call 18; refine (newHeap_any _).mono ?_; rintro e w2 ⟨⟨b, rfl⟩, hE⟩; have HE2 := hid (HE0.out.trans hE); have HS2 := hid (show w.heap.size < w2.heap.size by have := hE.size; simp at this; omega); have X2 := hid (hE.block HX0.out); clear hE)
    | (go_at_call 19; refine (guess_any (fun b => S b ∧ b < w.heap.size) t _ n HN.out _ ⟨b, 0, none⟩ gb go gc _ (heap_alloc_new w2 _) (HG.out.ext (HE2.out.alloc _)) (HV.out.ext (HE2.out.alloc _))).mono ?_; rintro e w3 ⟨cs3, rfl, hR, hE⟩; obtain ⟨a0, a1, a2, a3, rfl⟩ := hR.form4; have HR := hid hR; have HE3 := hid ((HE2.out.alloc _).trans hE); have X3 := hid ((((Ext.refl w2).alloc _).trans hE).block X2.out); obtain ⟨⟨z0, z1, z2, z3⟩, f0, f1, f2, f3⟩ := slot4f X3.out; clear hE hR))
  change bodyPost _ _ _ _ _ (set4 w3 w.heap.size (.pointer a0) (.pointer a1) (.pointer a2) (.pointer a3))
  obtain ⟨e4, hr4, x4⟩ := put4' (T := fun b => S b ∨ w.heap.size ≤ b) (w := w) (e := guessEl n t) X3.out (Nat.le_refl _) HE3.out (v0 := .pointer a0) (v1 := .pointer a1) (v2 := .pointer a2) (v3 := .pointer a3) (HR.out.weak (fun b hb hlt => by
    have h2 := HE2.out.size
    have h0 : w.heap.size < w2.heap.size := HS2.out
    rcases hb with ⟨h, h1⟩ | h
    · exact ⟨.inl h, by omega⟩
    · simp at h; exact ⟨.inr (by omega), by omega⟩)) _ rfl
  generalize set4 w3 w.heap.size (.pointer a0) (.pointer a1) (.pointer a2) (.pointer a3) = WF at *
  obtain ⟨⟨y0, y1, y2, y3⟩, -⟩ := slot4f e4
  refine bodyPost_ret (v := .agg #[.pointer a0, .pointer a1, .pointer a2, .pointer a3]) (by simp [results, Tryd.results10, go_sem, y0, y1, y2, y3]) rfl ⟨_, rfl, hr4, x4⟩
set_option maxHeartbeats 2000000 in
theorem guessE_any (g : GV) (cs : List Value) (n : Int) (hn : (Lit.int .i64 n).wf = true) (gb go gc : Nat) (w : World) (hG : CandAt w gb go gc) (hR : RepGV Any w g cs) :
    Calls Tryd.prog 5 #[.int .i64 n, .agg cs.toArray] w fun en w' => ∃ cs', en = .returned (.agg cs'.toArray) ∧ RepGE (fun b => w.heap.size ≤ b) w' (fromEl (guessEl n (plainT g))) cs' ∧ Ext w w' := by
  have HR := hid hR
  have HG := hid hG
  have HN := hid hn
  obtain ⟨c1, c2, c3, c4, c5, c6, c7, c8, c9, c10, rfl⟩ := hR.form
  clear hR hG hn
  have HX0 := hid (first_heap w (.cells #[.int .i64 c1, .int .i64 c2, .float .f64 c3, .string c4, .slice c5 c6 c7, .slice c8 c9 c10] 26) (.cells #[.int .i64 0, .string ⟨#[]⟩, .slice none 0 0, .slice none 0 0, .int .i64 0, .int .i64 0, .float .f64 0, .string ⟨#[]⟩, .slice none 0 0, .slice none 0 0, .int .i64 0] 29))
  have HX1 := hid (second_heap w (.cells #[.int .i64 c1, .int .i64 c2, .float .f64 c3, .string c4, .slice c5 c6 c7, .slice c8 c9 c10] 26) (.cells #[.int .i64 0, .string ⟨#[]⟩, .slice none 0 0, .slice none 0 0, .int .i64 0, .int .i64 0, .float .f64 0, .string ⟨#[]⟩, .slice none 0 0, .slice none 0 0, .int .i64 0] 29))
  have HE1 := hid (((Ext.refl w).alloc (.cells #[.int .i64 c1, .int .i64 c2, .float .f64 c3, .string c4, .slice c5 c6 c7, .slice c8 c9 c10] 26)).alloc (.cells #[.int .i64 0, .string ⟨#[]⟩, .slice none 0 0, .slice none 0 0, .int .i64 0, .int .i64 0, .float .f64 0, .string ⟨#[]⟩, .slice none 0 0, .slice none 0 0, .int .i64 0] 29))
  have HSZ := hid (show ((w.alloc (.cells #[.int .i64 c1, .int .i64 c2, .float .f64 c3, .string c4, .slice c5 c6 c7, .slice c8 c9 c10] 26)).alloc (.cells #[.int .i64 0, .string ⟨#[]⟩, .slice none 0 0, .slice none 0 0, .int .i64 0, .int .i64 0, .float .f64 0, .string ⟨#[]⟩, .slice none 0 0, .slice none 0 0, .int .i64 0] 29)).heap.size = w.heap.size + 2 by simp)
  go_enter Tryd.func5, Tryd.ntmps5
  go_upto_region 1 with fail
  generalize (w.alloc (.cells #[.int .i64 c1, .int .i64 c2, .float .f64 c3, .string c4, .slice c5 c6 c7, .slice c8 c9 c10] 26)).alloc (.cells #[.int .i64 0, .string ⟨#[]⟩, .slice none 0 0, .slice none 0 0, .int .i64 0, .int .i64 0, .float .f64 0, .string ⟨#[]⟩, .slice none 0 0, .slice none 0 0, .int .i64 0] 29) = w1 at *
  obtain ⟨⟨q0, q1, q2, q3, q4, q5⟩, p0, p1, p2, p3, p4, p5⟩ := slot6 HX0.out
  go_wp2_with (first
    | (go_at_call 11; refine (toValue_any g _ _ (HR.out.ext HE1.out)).mono ?_; rintro e w2 ⟨x, rfl, hx, hE⟩; obtain ⟨bx, rfl⟩ := repVal_form hx; have HX := hid hx; have HE2 := hid hE; clear hE hx)
    | (go_at_call 10; refine (door_any _ (plainT g) _ n HN.out gb go gc _ (HG.out.ext (HE1.out.trans HE2.out)) HX.out).mono ?_; rintro e w3 ⟨cs3, rfl, hr, hE⟩; obtain ⟨a0, a1, a2, a3, rfl⟩ := hr.form4; have HR3 := hid hr; have HE3 := hid (HE2.out.trans hE); clear hE hr)
    | (go_at_call 9; refine (fromElem_any _ _ _ _ HR3.out).mono ?_; rintro e w4 ⟨cs4, rfl, hr, hE⟩; obtain ⟨r2, r3, r4, r5, u1, u2, u3, u4, u5, u6, u7, u8, u9, u10, rfl⟩ := hr.form8; have HR4 := hid hr; have HE4 := hid (HE1.out.trans (HE3.out.trans hE)); have X4 := hid ((HE3.out.trans hE).block HX1.out); have HS4 := hid (show w.heap.size + 2 ≤ w3.heap.size by have := HSZ.out; have := HE3.out.size; omega); obtain ⟨⟨z0, z1, z2, z3, z4, z5, z6, z7, z8, z9, z10⟩, f0, f1, f2, f3, f4, f5, f6, f7, f8, f9, f10⟩ := slot11 X4.out; clear hE hr q0 q1 q2 q3 q4 q5 p0 p1 p2 p3 p4 p5))
  generalize fromEl (guessEl n (plainT g)) = G at *
  change bodyPost _ _ _ _ _ (setL w4 (w.heap.size + 1) 0 [.int .i64 G.kind, .string G.s, .slice r2 G.keys.length r3, .slice r4 G.l.length r5, .int .i64 u1, .int .i64 u2, .float .f64 u3, .string u4, .slice u5 u6 u7, .slice u8 u9 u10, .int .i64 G.n])
  obtain ⟨e4, hr4, x4⟩ := putG' (w := w) (e := G) (vs := [.int .i64 G.kind, .string G.s, .slice r2 G.keys.length r3, .slice r4 G.l.length r5, .int .i64 u1, .int .i64 u2, .float .f64 u3, .string u4, .slice u5 u6 u7, .slice u8 u9 u10, .int .i64 G.n]) X4.out rfl (Nat.le_succ _) HE4.out (HR4.out.weak (fun b hb _ => by have := HS4.out; have hb' : w3.heap.size ≤ b := hb; exact ⟨by omega, by omega⟩)) _ rfl
  generalize setL w4 (w.heap.size + 1) 0 [.int .i64 G.kind, .string G.s, .slice r2 G.keys.length r3, .slice r4 G.l.length r5, .int .i64 u1, .int .i64 u2, .float .f64 u3, .string u4, .slice u5 u6 u7, .slice u8 u9 u10, .int .i64 G.n] = WF at *
  obtain ⟨⟨y0, y1, y2, y3, y4, y5, y6, y7, y8, y9, y10⟩, -⟩ := slot11 e4
  refine bodyPost_ret (v := .agg #[.int .i64 G.kind, .string G.s, .slice r2 G.keys.length r3, .slice r4 G.l.length r5, .int .i64 u1, .int .i64 u2, .float .f64 u3, .string u4, .slice u5 u6 u7, .slice u8 u9 u10, .int .i64 G.n]) (by simp [results, Tryd.results5, go_sem, y0, y1, y2, y3, y4, y5, y6, y7, y8, y9, y10]) rfl ⟨_, rfl, hr4, x4⟩
end Go.Proofs.YtempfaefopfobaaDoor
