/- Field: spec.Field: what a plain map has at a key. -/
import Derived.Test.YtempfaefopfobaaDoorRel
import Derived.Test.YtempfaefopfobaaDoorSpecIdx
import Derived.Test.YtempfaefopfobaaDoorCleanMap

namespace Go.Proofs.YtempfaefopfobaaDoor
open Go.ChangeShapes Go.WideShapes Go.ChangeAt Go.RowKit
set_option linter.unusedVariables false
set_option linter.unusedSimpArgs false

theorem zeroRep (S : Nat → Prop) (w : World) : RepGV S w zeroG [.int .i64 0, .int .i64 0, .float .f64 0, .string ⟨#[]⟩, .slice none 0 0, .slice none 0 0] :=
  repGV_of (by decide) (by decide) (by decide) (by decide) (RepStrs.nil _ _) (RepVals.nil _ _)
set_option maxRecDepth 100000 in
set_option maxHeartbeats 1000000 in
theorem field_S (S : Nat → Prop) (g : GV) (key : ByteArray) (w : World) (cs : List Value) (hR : RepGV S w g cs) (h6 : g.kind = 6) (hM : MapG g) :
    Calls Tryd.prog 13 #[.agg cs.toArray, .string key] w fun e w' => ∃ cs', e = .returned (.tuple #[.agg cs'.toArray, .bool (fieldG g key).isSome]) ∧ RepGV S w' ((fieldG g key).getD zeroG) cs' ∧ Ext w w' := by
  have hR0 := hid hR
  cases hR with
  | @mk kd n f s ks l kv la lb lo lc hk hn hf hs hks hle hsz ha hcs hl =>
    simp only [GV.kind] at h6
    subst h6
    have HKS := hid hks
    obtain ⟨ka, kb, ko, kc, rfl, _⟩ := hks
    have HSO : Hid (SortedK ks) := hid hM.1
    have HLE : Hid (ks.length = l.length) := hid hM.2
    have HC := hid hcs
    have HL := hid hl
    have bx := hid (boxes2 w (.cells #[.int .i64 6, .int .i64 n, .float .f64 f, .string s, .slice ka ks.length kc, .slice la l.length lc] 26) (.cells #[.int .i64 0, .int .i64 0, .float .f64 0, .string ⟨#[]⟩, .slice none 0 0, .slice none 0 0] 26))
    clear hcs hl hM hk hn hf hs
    have FI := hid (fun (W : World) (hW : Ext w W) (q : Nat) (b : Bool) (hq : cnt ks key = q) (hb : decide (ks[cnt ks key]? = some key) = b) =>
      show Calls Tryd.prog 24 #[.agg #[.int .i64 6, .int .i64 n, .float .f64 f, .string s, .slice ka ks.length kc, .slice la l.length lc], .string key] W fun e w' => e = .returned (.tuple #[.int .i64 q, .bool b]) ∧ Ext W w' from by
        subst hq hb
        exact fieldIndex_any _ _ _ _ _ _ ks key W (HKS.out.ext hW) HSO.out ⟨_, _, _, rfl⟩)
    by_cases hkey : ks[cnt ks key]? = some key
    · have hlt := (List.getElem?_eq_some_iff.1 hkey).1
      have hlt2 : cnt ks key < l.length := by have := HLE.out; omega
      obtain ⟨cs', hcl, hca⟩ := HC.out (cnt ks key) hlt2
      obtain ⟨x, hx⟩ : ∃ x, l[cnt ks key]? = some x := ⟨_, List.getElem?_eq_getElem hlt2⟩
      have hRx := HL.out _ x cs' hx hcl hca
      obtain ⟨k6, n6, f6, s6, a61, b61, c61, a62, b62, c62, rfl⟩ := hRx.form
      have ha2 := (ha (by omega)).1
      subst ha2
      have HFG : Hid (fieldG (.mk 6 n f s ks l) key = some x) := hid (by simp [fieldG, GV.keys, GV.l, hkey, hx])
      have HRX := hid hRx
      have HFI := hid (fun W hW => FI.out W hW _ true rfl (decide_eq_true hkey))
      clear FI hx hRx hkey hlt
      generalize cnt ks key = q at *
      have HCA := hid hca
      clear hca
      have hq0 : (0 : Int) ≤ (q : Int) := by omega
      have hq1 : (q : Int) < (l.length : Int) := by omega
      go_enter Tryd.func13, Tryd.ntmps13
      go_wp2_with (go_at_call 24; refine (HFI.out _ (((Ext.refl _).alloc _).alloc _)).mono ?_; rintro e w2 ⟨rfl, hE⟩; obtain ⟨x1, x2, hEE⟩ := bx.out w2 (Below.mono hE (by simp)); obtain ⟨⟨z0, z1, z2, z3, z4, z5⟩, f0, f1, f2, f3, f4, f5⟩ := slot6 x2; obtain ⟨⟨o0, o1, o2, o3, o4, o5⟩, _⟩ := slot6 x1; have X2 := hid x2; have HEE := hid hEE; have HE := hid hE; obtain ⟨e0, e1, e2, e3, e4, e5⟩ := cells6 (cellsAt_ext hEE HCA.out); clear hE x1 x2 hEE)
      change bodyPost _ _ _ _ _ (set6 w2 (w.heap.size + 1) (.int .i64 k6) (.int .i64 n6) (.float .f64 f6) (.string s6) (.slice a61 b61 c61) (.slice a62 b62 c62))
      have e6 := set6_heap X2.out (.int .i64 k6) (.int .i64 n6) (.float .f64 f6) (.string s6) (.slice a61 b61 c61) (.slice a62 b62 c62)
      have x6 := set6_below HEE.out (b := w.heap.size + 1) (by omega) (.int .i64 k6) (.int .i64 n6) (.float .f64 f6) (.string s6) (.slice a61 b61 c61) (.slice a62 b62 c62)
      have r6 : RepGV S (set6 w2 (w.heap.size + 1) (.int .i64 k6) (.int .i64 n6) (.float .f64 f6) (.string s6) (.slice a61 b61 c61) (.slice a62 b62 c62)) x _ := ((HRX.out.mono (S' := fun b => S b ∧ b < w.heap.size) (Same.refl _ _) (fun b h1 h => ⟨h1, h⟩)).ext HEE.out).mono (fun b o hb ho => (set6_other (by have := hb.2; omega) _ _ _ _ _ _).trans ho) (fun _ h _ => h.1)
      generalize set6 w2 (w.heap.size + 1) (.int .i64 k6) (.int .i64 n6) (.float .f64 f6) (.string s6) (.slice a61 b61 c61) (.slice a62 b62 c62) = WF at *
      obtain ⟨⟨y0, y1, y2, y3, y4, y5⟩, _⟩ := slot6 e6
      refine bodyPost_ret (v := .tuple #[.agg #[.int .i64 k6, .int .i64 n6, .float .f64 f6, .string s6, .slice a61 b61 c61, .slice a62 b62 c62], .bool true]) (by simp [results, Tryd.results13, go_sem, y0, y1, y2, y3, y4, y5]) rfl ?_
      rw [HFG.out]
      exact ⟨_, rfl, r6, x6⟩
    · have HFG : Hid (fieldG (.mk 6 n f s ks l) key = none) := hid (by simp [fieldG, GV.keys, GV.l, hkey])
      have HFI := hid (fun W hW => FI.out W hW _ false rfl (decide_eq_false hkey))
      clear FI hkey
      generalize cnt ks key = q at *
      go_enter Tryd.func13, Tryd.ntmps13
      go_wp2_with (go_at_call 24; refine (HFI.out _ (((Ext.refl _).alloc _).alloc _)).mono ?_; rintro e w2 ⟨rfl, hE⟩; obtain ⟨x1, x2, hEE⟩ := bx.out w2 (Below.mono hE (by simp)); obtain ⟨⟨z0, z1, z2, z3, z4, z5⟩, f0, f1, f2, f3, f4, f5⟩ := slot6 x2; obtain ⟨⟨o0, o1, o2, o3, o4, o5⟩, _⟩ := slot6 x1; have X2 := hid x2; have HEE := hid hEE; have HE := hid hE; clear hE x1 x2 hEE)
      have x6 := set6_below HEE.out (b := w.heap.size + 1) (by omega) (.int .i64 0) (.int .i64 0) (.float .f64 0) (.string ⟨#[]⟩) (.slice none 0 0) (.slice none 0 0)
      have e6 := set6_heap X2.out (.int .i64 0) (.int .i64 0) (.float .f64 0) (.string ⟨#[]⟩) (.slice none 0 0) (.slice none 0 0)
      change bodyPost _ _ _ _ _ (set6 w2 (w.heap.size + 1) (.int .i64 0) (.int .i64 0) (.float .f64 0) (.string ⟨#[]⟩) (.slice none 0 0) (.slice none 0 0))
      generalize set6 w2 (w.heap.size + 1) (.int .i64 0) (.int .i64 0) (.float .f64 0) (.string ⟨#[]⟩) (.slice none 0 0) (.slice none 0 0) = WF at *
      obtain ⟨⟨y0, y1, y2, y3, y4, y5⟩, _⟩ := slot6 e6
      refine bodyPost_ret (v := .tuple #[.agg #[.int .i64 0, .int .i64 0, .float .f64 0, .string ⟨#[]⟩, .slice none 0 0, .slice none 0 0], .bool false]) (by simp [results, Tryd.results13, go_sem, y0, y1, y2, y3, y4, y5]) rfl ?_
      rw [HFG.out]
      exact ⟨[_, _, _, _, _, _], rfl, zeroRep _ _, x6⟩

theorem field_any (g : GV) (key : ByteArray) (w : World) (cs : List Value) (hR : RepGV Any w g cs) (h6 : g.kind = 6) (hM : MapG g) :
    Calls Tryd.prog 13 #[.agg cs.toArray, .string key] w fun e w' => ∃ cs', e = .returned (.tuple #[.agg cs'.toArray, .bool (fieldG g key).isSome]) ∧ RepGV Any w' ((fieldG g key).getD zeroG) cs' ∧ Ext w w' := field_S Any g key w cs hR h6 hM
end Go.Proofs.YtempfaefopfobaaDoor
