/- MapGet: impl.MapGet, MapHas; spec.Field; wMap, wSame; the sizes. -/
import Derived.Test.YtoodkpaebbopnaaMap
import Derived.Test.YtoodkpaebbopnaaRel
namespace Go.Proofs.Ytoodkpaebbopnaa
open Go.ChangeShapes Go.WideShapes Go.ChangeAt Go.RowKit
set_option linter.unusedVariables false
set_option linter.unusedSimpArgs false

theorem zeroRep (S : Nat → Prop) (w : World) : RepGV S w zeroG [.int .i64 0, .int .i64 0, .float .f64 0, .string ⟨#[]⟩, .slice none 0 0, .slice none 0 0] :=
  repGV_of (by decide) (by decide) (by decide) (by decide) (RepStrs.nil _ _) (RepVals.nil _ _)
/-- x is what the map m has at key, or nil -/
def GotX (S : Nat → Prop) (w : World) (m : List (ByteArray × Tree)) (key : ByteArray) (x : Value) : Prop := (lookKV m key = none ∧ x = .nilIface) ∨ ∃ t, lookKV m key = some t ∧ RepVal S w t x
theorem GotX.form {S : Nat → Prop} {w : World} {m : List (ByteArray × Tree)} {key : ByteArray} {x : Value} (h : GotX S w m key x) : x = .nilIface ∨ ∃ b, x = .iface 135 (.pointer (some ⟨b, 0, none⟩)) := by
  rcases h with ⟨_, rfl⟩ | ⟨t, _, b, v, rfl, _⟩
  · exact .inl rfl
  · exact .inr ⟨b, rfl⟩
theorem get2_any (S : Nat → Prop) (m : List (ByteArray × Tree)) (r : Nat) (key : ByteArray) (w : World) (hM : RepM S w m r) :
    Calls Try.prog 176 #[.map (some r), .string key] w fun e w' => ∃ x, e = .returned (.tuple #[x, .bool (lookKV m key).isSome]) ∧ GotX (fun b => S b ∨ w.heap.size ≤ b) w' m key x ∧ Ext w w' :=
  (get_any S m r key w hM).mono fun e w' h => by
    rcases h with ⟨h1, rfl, hE⟩ | ⟨t, x, h1, rfl, hV, hE⟩
    · exact ⟨_, by rw [h1]; rfl, .inl ⟨h1, rfl⟩, hE⟩
    · exact ⟨_, by rw [h1]; rfl, .inr ⟨t, h1, hV⟩, hE⟩
/-- fromValue of what Get gives -/
theorem fromGot (S : Nat → Prop) (m : List (ByteArray × Tree)) (key : ByteArray) (w : World) (x : Value) (h : GotX S w m key x) :
    Calls Try.prog 64 #[x] w fun e w' => ∃ cs', e = .returned (.agg cs'.toArray) ∧ RepGV (fun b => w.heap.size ≤ b) w' ((lookKV m key).elim zeroG fromT) cs' ∧ Ext w w' := by
  rcases h with ⟨h1, rfl⟩ | ⟨t, h1, h2⟩
  · rw [h1]
    exact (fromValue_nil w).mono fun e w' ⟨he, hE⟩ => ⟨[_, _, _, _, _, _], he, zeroRep _ _, hE⟩
  · rw [h1]
    exact fromValue_any S t x w h2

set_option maxRecDepth 100000 in
set_option maxHeartbeats 1000000 in
theorem mapGet_any (g : GV) (key : ByteArray) (w : World) (cs : List Value) (hR : RepGV Any w g cs) :
    Calls Try.prog 30 #[.agg cs.toArray, .string key] w fun e w' => ∃ cs', e = .returned (.tuple #[.agg cs'.toArray, .bool (lookKV (plainMapT g) key).isSome]) ∧ RepGV (fun b => w.heap.size ≤ b) w' ((lookKV (plainMapT g) key).elim zeroG fromT) cs' ∧ Ext w w' := by
  have HR := hid hR
  obtain ⟨k, n, f, s, a1, b1, c1, a2, b2, c2, rfl⟩ := hR.form
  have bx := hid (boxes2 w (.cells #[.int .i64 k, .int .i64 n, .float .f64 f, .string s, .slice a1 b1 c1, .slice a2 b2 c2] 26) (.cells #[.int .i64 0, .int .i64 0, .float .f64 0, .string ⟨#[]⟩, .slice none 0 0, .slice none 0 0] 26))
  clear hR
  go_enter Try.func30, Try.ntmps30
  go_wp2_with (first
    | (go_at_call 63; refine (toMapping_any g _ _ (HR.out.ext (((Ext.refl _).alloc _).alloc _))).mono ?_; rintro e w2 ⟨r, rfl, hr, hM, hE⟩; have HM := hid hM; have HE := hid hE; clear hM hE)
    | (go_at_call 176; refine (get2_any _ _ r key _ HM.out).mono ?_; rintro e w3 ⟨x, rfl, hG, hE⟩; have HG := hid hG; have HE3 := hid hE; rcases hG.form with rfl | ⟨bx1, rfl⟩ <;> clear hG hE)
    | (go_at_call 64; refine (fromGot _ _ _ _ _ HG.out).mono ?_; rintro e w4 ⟨cs', rfl, hG, hE⟩; obtain ⟨k6, n6, f6, s6, a61, b61, c61, a62, b62, c62, rfl⟩ := hG.form; have HG4 := hid hG; obtain ⟨x1, x2, hEE⟩ := bx.out w4 (Below.mono ((HE.out.trans HE3.out).trans hE) (by simp)); obtain ⟨⟨z0, z1, z2, z3, z4, z5⟩, f0, f1, f2, f3, f4, f5⟩ := slot6 x2; have X2 := hid x2; have HEE := hid hEE; have HE4 := hid hE; clear hG hE x1 x2 hEE))
  all_goals
    change bodyPost _ _ _ _ _ (set6 w4 (w.heap.size + 1) (.int .i64 k6) (.int .i64 n6) (.float .f64 f6) (.string s6) (.slice a61 b61 c61) (.slice a62 b62 c62))
    obtain ⟨e6, hr6, x6⟩ := put6 X2.out (by omega) HEE.out HG4.out (fun b hb => by have := HE3.out.size; have := HE.out.size; simp at *; omega) _ rfl
    generalize set6 w4 (w.heap.size + 1) (.int .i64 k6) (.int .i64 n6) (.float .f64 f6) (.string s6) (.slice a61 b61 c61) (.slice a62 b62 c62) = WF at *
    obtain ⟨⟨y0, y1, y2, y3, y4, y5⟩, _⟩ := slot6 e6
    refine bodyPost_ret (v := .tuple #[.agg #[.int .i64 k6, .int .i64 n6, .float .f64 f6, .string s6, .slice a61 b61 c61, .slice a62 b62 c62], .bool (lookKV (plainMapT g) key).isSome]) (by simp [results, Try.results30, go_sem, y0, y1, y2, y3, y4, y5]) rfl ?_
    exact ⟨_, rfl, hr6, x6⟩

set_option maxRecDepth 100000 in
theorem mapHas_any (g : GV) (key : ByteArray) (w : World) (cs : List Value) (hR : RepGV Any w g cs) :
    Calls Try.prog 32 #[.agg cs.toArray, .string key] w fun e w' => e = .returned (.bool (lookKV (plainMapT g) key).isSome) ∧ Ext w w' := by
  have HR := hid hR
  obtain ⟨k, n, f, s, a1, b1, c1, a2, b2, c2, rfl⟩ := hR.form
  clear hR
  go_enter Try.func32, Try.ntmps32
  go_wp2_with (first
    | (go_at_call 63; refine (toMapping_any g _ _ (HR.out.ext ((Ext.refl _).alloc _))).mono ?_; rintro e w2 ⟨r, rfl, hr, hM, hE⟩; have HM := hid hM; have HE := hid hE; clear hM hE)
    | (go_at_call 178; refine (has_any _ _ r key _ HM.out).mono ?_; rintro e w3 ⟨rfl, hE⟩; have HE3 := hid hE; clear hE))
  go_ret
  exact ⟨rfl, (((Ext.refl _).alloc _).trans HE.out).trans HE3.out⟩

set_option maxRecDepth 100000 in
theorem wMap_any (g : GV) (w : World) (cs : List Value) (hR : RepGV Any w g cs) :
    Calls Try.prog 29 #[.agg cs.toArray] w fun e w' => ∃ cs', e = .returned (.agg cs'.toArray) ∧ RepGV (fun b => w.heap.size ≤ b) w' (cleanM g) cs' ∧ Ext w w' := by
  cases hR with
  | @mk kd n f s ks l kv la lb lo lc hk hn hf hs hks hle hsz ha hcs hl =>
    have hR6 : RepGV Any w (.mk 6 n f s ks l) [.int .i64 6, .int .i64 n, .float .f64 f, .string s, kv, .slice la l.length lc] := .mk (by decide) hn hf hs hks hle hsz ha hcs hl
    have HR := hid hR6
    obtain ⟨ka, kb, ko, kc, rfl, _⟩ := hks
    have bx := hid (boxes2 w (.cells #[.int .i64 6, .int .i64 n, .float .f64 f, .string s, .slice ka ks.length kc, .slice la l.length lc] 26) (.cells #[.int .i64 0, .int .i64 0, .float .f64 0, .string ⟨#[]⟩, .slice none 0 0, .slice none 0 0] 26))
    clear hR6 hcs hl
    go_enter Try.func29, Try.ntmps29
    go_wp2_with (go_at_call 56; refine (clean_any _ _ _ (HR.out.ext (((Ext.refl _).alloc _).alloc _))).mono ?_; rintro e w2 ⟨cs', rfl, hG, hE⟩; obtain ⟨k6, n6, f6, s6, a61, b61, c61, a62, b62, c62, rfl⟩ := hG.form; have HG := hid hG; obtain ⟨x1, x2, hEE⟩ := bx.out w2 (Below.mono hE (by simp)); obtain ⟨⟨z0, z1, z2, z3, z4, z5⟩, f0, f1, f2, f3, f4, f5⟩ := slot6 x2; have X2 := hid x2; have HEE := hid hEE; have HE := hid hE; clear hG hE x1 x2 hEE)
    change bodyPost _ _ _ _ _ (set6 w2 (w.heap.size + 1) (.int .i64 k6) (.int .i64 n6) (.float .f64 f6) (.string s6) (.slice a61 b61 c61) (.slice a62 b62 c62))
    obtain ⟨e6, hr6, x6⟩ := put6 X2.out (by omega) HEE.out HG.out (fun b hb => by simp at hb; omega) _ rfl
    generalize set6 w2 (w.heap.size + 1) (.int .i64 k6) (.int .i64 n6) (.float .f64 f6) (.string s6) (.slice a61 b61 c61) (.slice a62 b62 c62) = WF at *
    obtain ⟨⟨y0, y1, y2, y3, y4, y5⟩, _⟩ := slot6 e6
    refine bodyPost_ret (v := .agg #[.int .i64 k6, .int .i64 n6, .float .f64 f6, .string s6, .slice a61 b61 c61, .slice a62 b62 c62]) (by simp [results, Try.results29, go_sem, y0, y1, y2, y3, y4, y5]) rfl ?_
    refine ⟨_, rfl, ?_, x6⟩
    rw [show cleanM (.mk kd n f s ks l) = cleanG (.mk 6 n f s ks l) by simp [cleanG, cleanM, GV.keys, GV.l]]
    exact hr6

set_option maxRecDepth 100000 in
set_option maxHeartbeats 1000000 in
theorem field_any (g : GV) (key : ByteArray) (w : World) (cs : List Value) (hR : RepGV Any w g cs) (h6 : g.kind = 6) (hM : MapG g) :
    Calls Try.prog 28 #[.agg cs.toArray, .string key] w fun e w' => ∃ cs', e = .returned (.tuple #[.agg cs'.toArray, .bool (fieldG g key).isSome]) ∧ RepGV Any w' ((fieldG g key).getD zeroG) cs' ∧ Ext w w' := by
  have hR0 := hid hR
  cases hR with
  | @mk kd n f s ks l kv la lb lo lc hk hn hf hs hks hle hsz ha hcs hl =>
    simp only [GV.kind] at h6
    subst h6
    have HKS := hid hks
    obtain ⟨ka, kb, ko, kc, rfl, _⟩ := hks
    have HSO : Hid (SortedK ks) := hid hM.1
    have HLE : Hid (ks.length = l.length) := hid hM.2
    have HC := hid hcs
    have HL := hid hl
    have bx := hid (boxes2 w (.cells #[.int .i64 6, .int .i64 n, .float .f64 f, .string s, .slice ka ks.length kc, .slice la l.length lc] 26) (.cells #[.int .i64 0, .int .i64 0, .float .f64 0, .string ⟨#[]⟩, .slice none 0 0, .slice none 0 0] 26))
    clear hcs hl hM hk hn hf hs
    have FI := hid (fun (W : World) (hW : Ext w W) (q : Nat) (b : Bool) (hq : cnt ks key = q) (hb : decide (ks[cnt ks key]? = some key) = b) =>
      show Calls Try.prog 62 #[.agg #[.int .i64 6, .int .i64 n, .float .f64 f, .string s, .slice ka ks.length kc, .slice la l.length lc], .string key] W fun e w' => e = .returned (.tuple #[.int .i64 q, .bool b]) ∧ Ext W w' from by
        subst hq hb
        exact fieldIndex_any _ _ _ _ _ _ ks key W (HKS.out.ext hW) HSO.out ⟨_, _, _, rfl⟩)
    by_cases hkey : ks[cnt ks key]? = some key
    · have hlt := (List.getElem?_eq_some_iff.1 hkey).1
      have hlt2 : cnt ks key < l.length := by have := HLE.out; omega
      obtain ⟨cs', hcl, hca⟩ := HC.out (cnt ks key) hlt2
      obtain ⟨x, hx⟩ : ∃ x, l[cnt ks key]? = some x := ⟨_, List.getElem?_eq_getElem hlt2⟩
      have hRx := HL.out _ x cs' hx hcl hca
      obtain ⟨k6, n6, f6, s6, a61, b61, c61, a62, b62, c62, rfl⟩ := hRx.form
      have ha2 := (ha (by omega)).1
      subst ha2
      have HFG : Hid (fieldG (.mk 6 n f s ks l) key = some x) := hid (by simp [fieldG, GV.keys, GV.l, hkey, hx])
      have HRX := hid hRx
      have HFI := hid (fun W hW => FI.out W hW _ true rfl (decide_eq_true hkey))
      clear FI hx hRx hkey hlt
      generalize cnt ks key = q at *
      have HCA := hid hca
      clear hca
      have hq0 : (0 : Int) ≤ (q : Int) := by omega
      have hq1 : (q : Int) < (l.length : Int) := by omega
      go_enter Try.func28, Try.ntmps28
      go_wp2_with (go_at_call 62; refine (HFI.out _ (((Ext.refl _).alloc _).alloc _)).mono ?_; rintro e w2 ⟨rfl, hE⟩; obtain ⟨x1, x2, hEE⟩ := bx.out w2 (Below.mono hE (by simp)); obtain ⟨⟨z0, z1, z2, z3, z4, z5⟩, f0, f1, f2, f3, f4, f5⟩ := slot6 x2; obtain ⟨⟨o0, o1, o2, o3, o4, o5⟩, _⟩ := slot6 x1; have X2 := hid x2; have HEE := hid hEE; have HE := hid hE; obtain ⟨e0, e1, e2, e3, e4, e5⟩ := cells6 (cellsAt_ext hEE HCA.out); clear hE x1 x2 hEE)
      change bodyPost _ _ _ _ _ (set6 w2 (w.heap.size + 1) (.int .i64 k6) (.int .i64 n6) (.float .f64 f6) (.string s6) (.slice a61 b61 c61) (.slice a62 b62 c62))
      have e6 := set6_heap X2.out (.int .i64 k6) (.int .i64 n6) (.float .f64 f6) (.string s6) (.slice a61 b61 c61) (.slice a62 b62 c62)
      have x6 := set6_below HEE.out (b := w.heap.size + 1) (by omega) (.int .i64 k6) (.int .i64 n6) (.float .f64 f6) (.string s6) (.slice a61 b61 c61) (.slice a62 b62 c62)
      have r6 : RepGV Any (set6 w2 (w.heap.size + 1) (.int .i64 k6) (.int .i64 n6) (.float .f64 f6) (.string s6) (.slice a61 b61 c61) (.slice a62 b62 c62)) x _ := ((HRX.out.mono (S' := fun b => b < w.heap.size) (Same.refl _ _) (fun b _ h => h)).ext HEE.out).mono (fun b o hb ho => (set6_other (by omega) _ _ _ _ _ _).trans ho) (fun _ _ _ => trivial)
      generalize set6 w2 (w.heap.size + 1) (.int .i64 k6) (.int .i64 n6) (.float .f64 f6) (.string s6) (.slice a61 b61 c61) (.slice a62 b62 c62) = WF at *
      obtain ⟨⟨y0, y1, y2, y3, y4, y5⟩, _⟩ := slot6 e6
      refine bodyPost_ret (v := .tuple #[.agg #[.int .i64 k6, .int .i64 n6, .float .f64 f6, .string s6, .slice a61 b61 c61, .slice a62 b62 c62], .bool true]) (by simp [results, Try.results28, go_sem, y0, y1, y2, y3, y4, y5]) rfl ?_
      rw [HFG.out]
      exact ⟨_, rfl, r6, x6⟩
    · have HFG : Hid (fieldG (.mk 6 n f s ks l) key = none) := hid (by simp [fieldG, GV.keys, GV.l, hkey])
      have HFI := hid (fun W hW => FI.out W hW _ false rfl (decide_eq_false hkey))
      clear FI hkey
      generalize cnt ks key = q at *
      go_enter Try.func28, Try.ntmps28
      go_wp2_with (go_at_call 62; refine (HFI.out _ (((Ext.refl _).alloc _).alloc _)).mono ?_; rintro e w2 ⟨rfl, hE⟩; obtain ⟨x1, x2, hEE⟩ := bx.out w2 (Below.mono hE (by simp)); obtain ⟨⟨z0, z1, z2, z3, z4, z5⟩, f0, f1, f2, f3, f4, f5⟩ := slot6 x2; obtain ⟨⟨o0, o1, o2, o3, o4, o5⟩, _⟩ := slot6 x1; have X2 := hid x2; have HEE := hid hEE; have HE := hid hE; clear hE x1 x2 hEE)
      have x6 := set6_below HEE.out (b := w.heap.size + 1) (by omega) (.int .i64 0) (.int .i64 0) (.float .f64 0) (.string ⟨#[]⟩) (.slice none 0 0) (.slice none 0 0)
      have e6 := set6_heap X2.out (.int .i64 0) (.int .i64 0) (.float .f64 0) (.string ⟨#[]⟩) (.slice none 0 0) (.slice none 0 0)
      change bodyPost _ _ _ _ _ (set6 w2 (w.heap.size + 1) (.int .i64 0) (.int .i64 0) (.float .f64 0) (.string ⟨#[]⟩) (.slice none 0 0) (.slice none 0 0))
      generalize set6 w2 (w.heap.size + 1) (.int .i64 0) (.int .i64 0) (.float .f64 0) (.string ⟨#[]⟩) (.slice none 0 0) (.slice none 0 0) = WF at *
      obtain ⟨⟨y0, y1, y2, y3, y4, y5⟩, _⟩ := slot6 e6
      refine bodyPost_ret (v := .tuple #[.agg #[.int .i64 0, .int .i64 0, .float .f64 0, .string ⟨#[]⟩, .slice none 0 0, .slice none 0 0], .bool false]) (by simp [results, Try.results28, go_sem, y0, y1, y2, y3, y4, y5]) rfl ?_
      rw [HFG.out]
      exact ⟨[_, _, _, _, _, _], rfl, zeroRep _ _, x6⟩

set_option maxRecDepth 100000 in
theorem wSame_any (ga gb : GV) (b : Bool) (w : World) (ca cb : List Value) (hA : RepGV Any w ga ca) (hB : RepGV Any w gb cb) (h : cleanG ga = cleanG gb) :
    Calls Try.prog 31 #[.agg ca.toArray, .bool b, .agg cb.toArray, .bool b] w fun e w' => e = .returned (.bool true) ∧ Ext w w' := by
  have HE := hid h
  have HA := hid hA
  have HB := hid hB
  obtain ⟨k, n, f, s, a1, b1, c1, a2, b2, c2, rfl⟩ := hA.form
  obtain ⟨k', n', f', s', a1', b1', c1', a2', b2', c2', rfl⟩ := hB.form
  clear h hA hB
  go_enter Try.func31, Try.ntmps31
  go_wp2_with (go_at_call 34; refine (same_any _ ga gb HE.out _ _ (HA.out.ext (((Ext.refl _).alloc _).alloc _)) (HB.out.ext (((Ext.refl _).alloc _).alloc _))).mono ?_; rintro e w2 ⟨rfl, hE⟩)
  go_ret
  exact ⟨rfl, (((Ext.refl _).alloc _).alloc _).trans hE⟩
end Go.Proofs.Ytoodkpaebbopnaa
