/- Find: FindNamedType, resolveNoOverrides, Resolve of a reference by name; impl.FindNamed, impl.Resolve. -/
import Derived.Test.YtempfaefopfobaaLkA

set_option maxRecDepth 100000
namespace Go.Proofs.Ytempfaefopfobaa
open Go.ChangeShapes Go.WideShapes Go.ChangeAt Go.RowKit
set_option linter.unusedVariables false
set_option linter.unusedSimpArgs false

/-- the last definition of a name -/
def lastDef : List (ByteArray × GS) → ByteArray → Option GS
  | [], _ => none
  | p :: r, n => match lastDef r n with
    | some a => some a
    | none => if p.1 = n then some p.2 else none
theorem lastDef_hit {ts : List (ByteArray × GS)} {i : Nat} {p : ByteArray × GS} {n : ByteArray} (hp : ts[i]? = some p) (hn : p.1 = n) (h : lastDef (ts.drop (i + 1)) n = none) : lastDef ts n = some p.2 := by
  induction ts generalizing i with
  | nil => simp at hp
  | cons q ts ih =>
    cases i with
    | zero =>
      simp at hp
      subst hp
      simp only [List.drop_succ_cons, List.drop_zero] at h
      simp [lastDef, h, hn]
    | succ i =>
      have := ih (i := i) (by simpa using hp) (by simpa using h)
      simp [lastDef, this]
theorem lastDef_miss {ts : List (ByteArray × GS)} {i : Nat} {p : ByteArray × GS} {n : ByteArray} (hp : ts[i]? = some p) (hn : ¬ p.1 = n) (h : lastDef (ts.drop (i + 1)) n = none) : lastDef (ts.drop i) n = none := by
  obtain ⟨hlt, he⟩ := List.getElem?_eq_some_iff.1 hp
  rw [List.drop_eq_getElem_cons hlt, he]
  simp [lastDef, h, hn]
def defAt (ts : List (ByteArray × GS)) (n : ByteArray) : GS := (lastDef ts n).getD zeroA
theorem toList_ne {s s' : ByteArray} (h : ¬ s = s') : (s.toList == s'.toList) = false := by
  cases e : (s.toList == s'.toList)
  · rfl
  · exact absurd (toList_inj' (eq_of_beq e)) h
theorem toList_same {s s' : ByteArray} (h : s = s') : (s.toList == s'.toList) = true := by rw [h]; simp
set_option maxHeartbeats 2000000 in
theorem findNamed_any (S : Nat → Prop) (w : World) (b : Nat) (ts : List (ByteArray × GS)) (name : ByteArray) (hP : PSch S w b ts) :
    Calls Try.prog 79 #[.pointer (some ⟨b, 0, none⟩), .string name] w fun e w' => (∃ nm p q r, e = .returned (.tuple #[.agg #[.string nm, .pointer p, .pointer q, .pointer r], .bool (lastDef ts name).isSome]) ∧ RepS (fun x => S x ∧ x < w.heap.size) w' (defAt ts name) [.pointer p, .pointer q, .pointer r]) ∧ Ext w w' := by
  obtain ⟨a, rb, c, hb, hsz, hat⟩ := hP.below
  have HB := hid hb
  have HA := hid hat
  clear hb hat hP
  have HE0 := hid ((Ext.refl w).alloc (.cells #[.string ⟨#[]⟩, .pointer none, .pointer none, .pointer none] 140))
  have HX0 := hid (heap_alloc_new w (.cells #[.string ⟨#[]⟩, .pointer none, .pointer none, .pointer none] 140))
  go_enter Try.func79, Try.ntmps79
  go_upto_region 1 with fail
  generalize w.alloc (.cells #[.string ⟨#[]⟩, .pointer none, .pointer none, .pointer none] 140) = w1 at *
  have hmw : IntKind.i64.wrap ((ts.length : Int) - 1) = (ts.length : Int) - 1 := by simp [IntKind.wrap, IntKind.signed, IntKind.bits]; omega
  have cb := (cell_of_heap (HE0.out.block HB.out) 0).trans rfl
  generalize hn : ts.length = n at *
  have HN := hid hn
  clear hn
  go_upto_region 2 with fail
  clear cb
  go_loopw [6] (fun i wr => ∃ (k : Nat) (m : Int), i = .int .i64 m ∧ m + 1 = k ∧ k ≤ n ∧ Hid (lastDef (ts.drop k) name = none) ∧ Hid (Ext w wr) ∧ Hid (wr.heap[w.heap.size]? = some (.cells #[.string ⟨#[]⟩, .pointer none, .pointer none, .pointer none] 140))) (fun i _ => (intOf i + 1).toNat)
  case atStart => exact ⟨n, (n : Int) - 1, rfl, by omega, Nat.le_refl _, hid (by rw [List.drop_of_length_le (by rw [HN.out]; exact Nat.le_refl _)]; rfl), HE0, HX0⟩
  case round =>
    obtain ⟨k, m, rfl, hm, hk, HQ, HE, HX⟩ := hrel
    have cb := (cell_of_heap (HE.out.block HB.out) 0).trans rfl
    obtain ⟨⟨y0, y1, y2, y3⟩, g0, g1, g2, g3⟩ := slot4f HX.out
    cases k with
    | zero =>
      obtain rfl : m = -1 := by omega
      have HZ := hid (show lastDef ts name = none from by simpa using HQ.out)
      go_wp2_with fail
      change bodyPost _ _ _ _ _ (set4 wr w.heap.size (.string ⟨#[]⟩) (.pointer none) (.pointer none) (.pointer none))
      have e6 := set4_heap HX.out (.string ⟨#[]⟩) (.pointer none) (.pointer none) (.pointer none)
      have x6 := set4_below HE.out (Nat.le_refl w.heap.size) (.string ⟨#[]⟩) (.pointer none) (.pointer none) (.pointer none)
      generalize set4 wr w.heap.size (.string ⟨#[]⟩) (.pointer none) (.pointer none) (.pointer none) = WF at *
      clear y0 y1 y2 y3
      obtain ⟨⟨y0, y1, y2, y3⟩, -⟩ := slot4f e6
      refine bodyPost_ret (v := .tuple #[.agg #[.string ⟨#[]⟩, .pointer none, .pointer none, .pointer none], .bool false]) (by simp [results, Try.results79, go_sem, y0, y1, y2, y3]) rfl ⟨⟨⟨#[]⟩, none, none, none, by rw [HZ.out]; rfl, ?_⟩, x6⟩
      rw [show defAt ts name = zeroA by unfold defAt; rw [HZ.out]; rfl]
      exact zeroA_rep _ _
    | succ j =>
      obtain rfl : m = (j : Int) := by omega
      obtain ⟨p, hp⟩ : ∃ p, ts[j]? = some p := ⟨_, List.getElem?_eq_getElem (by have := HN.out; omega)⟩
      obtain ⟨rfl, htag, hps, q, r, s, hc, hR⟩ := HA.out j p hp
      have c0 := HE.out.cellS (show w.cell? ⟨rb, j * 4, none⟩ = some (.string p.1) by simpa using hc 0 _ rfl)
      have c1 := HE.out.cellS (hc 1 _ rfl)
      have c2 := HE.out.cellS (hc 2 _ rfl)
      have c3 := HE.out.cellS (hc 3 _ rfl)
      have hi0 : (0 : Int) ≤ (j : Int) := by omega
      have hi1 : (j : Int) < (n : Int) := by omega
      have hdw : IntKind.i64.wrap ((j : Int) - 1) = (j : Int) - 1 := by simp [IntKind.wrap, IntKind.signed, IntKind.bits]; omega
      have HR := hid hR
      have HP := hid hp
      clear hc hR hp htag
      by_cases hnm : p.1 = name
      · have heb := toList_same hnm
        have HZ := hid (lastDef_hit HP.out hnm HQ.out)
        clear hnm
        go_wp2_with fail
        change bodyPost _ _ _ _ _ (set4 wr w.heap.size (.string p.1) (.pointer q) (.pointer r) (.pointer s))
        have e6 := set4_heap HX.out (.string p.1) (.pointer q) (.pointer r) (.pointer s)
        have x6 := set4_below HE.out (Nat.le_refl w.heap.size) (.string p.1) (.pointer q) (.pointer r) (.pointer s)
        have r6 := (HR.out.ext HE.out).mono (w' := set4 wr w.heap.size (.string p.1) (.pointer q) (.pointer r) (.pointer s)) (S' := fun x => S x ∧ x < w.heap.size) (fun b o hb ho => (set4_other (by have := hb.2; omega) _ _ _ _).trans ho) (fun _ h _ => h)
        generalize set4 wr w.heap.size (.string p.1) (.pointer q) (.pointer r) (.pointer s) = WF at *
        clear y0 y1 y2 y3
        obtain ⟨⟨y0, y1, y2, y3⟩, -⟩ := slot4f e6
        refine bodyPost_ret (v := .tuple #[.agg #[.string p.1, .pointer q, .pointer r, .pointer s], .bool true]) (by simp [results, Try.results79, go_sem, y0, y1, y2, y3]) rfl ⟨⟨p.1, q, r, s, by rw [HZ.out]; rfl, ?_⟩, x6⟩
        rw [show defAt ts name = p.2 by unfold defAt; rw [HZ.out]; rfl]
        exact r6
      · have heb := toList_ne hnm
        have HZ := hid (lastDef_miss HP.out hnm HQ.out)
        clear hnm
        go_wp2_with fail
        exact ⟨⟨j, (j : Int) - 1, rfl, by omega, by omega, HZ, HE, HX⟩, by simp [intOf]⟩
set_option maxHeartbeats 2000000 in
theorem resolveNo_n (S : Nat → Prop) (w : World) (b nb : Nat) (ts : List (ByteArray × GS)) (name : ByteArray) (hP : PSch S w b ts) (hn : w.heap[nb]? = some (.cells #[.string name] 9)) (hl : lastDef ts name = none) :
    Calls Try.prog 109 #[.pointer (some ⟨b, 0, none⟩), .agg #[.pointer (some ⟨nb, 0, none⟩), .pointer none, .pointer none, .pointer none, .pointer none, .bool false]] w fun e w' => (∃ p q r, e = .returned (.tuple #[.agg #[.pointer p, .pointer q, .pointer r], .bool (lastDef ts name).isSome]) ∧ RepS (fun x => S x ∧ x < w.heap.size) w' (defAt ts name) [.pointer p, .pointer q, .pointer r]) ∧ Ext w w' := by
  have HP := hid hP.below
  have HN := hid hn
  have HLD := hid hl
  have HL0 := hid (show (lastDef ts name).isSome = false by rw [hl]; rfl)
  clear hP hn hl
  go_enter Try.func109, Try.ntmps109
  go_upto_region 2 with fail
  have X0 := hid (((Ext.refl _).alloc (.cells #[.pointer none, .pointer none, .pointer none] 123)).block (first_heap w (.cells #[.pointer (some ⟨nb, 0, none⟩), .pointer none, .pointer none, .pointer none, .pointer none, .bool false] 126) (.cells #[.pointer none, .pointer none, .pointer none] 123)))
  have X1 := hid (((Ext.refl _).alloc (.cells #[.pointer none, .pointer none, .pointer none] 123)).block (second_heap w (.cells #[.pointer (some ⟨nb, 0, none⟩), .pointer none, .pointer none, .pointer none, .pointer none, .bool false] 126) (.cells #[.pointer none, .pointer none, .pointer none] 123)))
  have X2 := hid (third_heap w (.cells #[.pointer (some ⟨nb, 0, none⟩), .pointer none, .pointer none, .pointer none, .pointer none, .bool false] 126) (.cells #[.pointer none, .pointer none, .pointer none] 123) (.cells #[.pointer none, .pointer none, .pointer none] 123))
  have HE := hid ((((Ext.refl w).alloc (.cells #[.pointer (some ⟨nb, 0, none⟩), .pointer none, .pointer none, .pointer none, .pointer none, .bool false] 126)).alloc (.cells #[.pointer none, .pointer none, .pointer none] 123)).alloc (.cells #[.pointer none, .pointer none, .pointer none] 123))
  have HSZ := hid (show (((w.alloc (.cells #[.pointer (some ⟨nb, 0, none⟩), .pointer none, .pointer none, .pointer none, .pointer none, .bool false] 126)).alloc (.cells #[.pointer none, .pointer none, .pointer none] 123)).alloc (.cells #[.pointer none, .pointer none, .pointer none] 123)).heap.size = w.heap.size + 3 by simp)
  generalize ((w.alloc (.cells #[.pointer (some ⟨nb, 0, none⟩), .pointer none, .pointer none, .pointer none, .pointer none, .bool false] 126)).alloc (.cells #[.pointer none, .pointer none, .pointer none] 123)).alloc (.cells #[.pointer none, .pointer none, .pointer none] 123) = w1 at *
  obtain ⟨⟨x0, x1, x2, x3, x4, x5⟩, -⟩ := slot6 X0.out
  have cn := (cell_of_heap (HE.out.block HN.out) 0).trans rfl
  go_upto_region 4 with (go_at_call 79; refine (findNamed_any (fun x => S x ∧ x < w.heap.size) _ b ts name (HP.out.ext HE.out)).mono ?_; rintro e w2 ⟨⟨nm, p, q, r, rfl, hR⟩, hE⟩; rw [HL0.out]; have HR := hid (hR.weak (S' := fun x => S x ∧ x < w.heap.size) (fun b h _ => h.1)); have HE2 := hid (HE.out.trans hE); have HS2 := hid (show w.heap.size + 3 ≤ w2.heap.size by have := HSZ.out; have := hE.size; omega); have Y1 := hid (hE.block X1.out); have Y2 := hid (hE.block X2.out); clear hE hR cn x0 x1 x2 x3 x4 x5)
  have Q1 := hid (((Ext.refl w2).alloc (.cells #[.string nm, .pointer p, .pointer q, .pointer r] 140)).block Y1.out)
  have Q2 := hid (((Ext.refl w2).alloc (.cells #[.string nm, .pointer p, .pointer q, .pointer r] 140)).block Y2.out)
  have QD := hid (heap_alloc_new w2 (.cells #[.string nm, .pointer p, .pointer q, .pointer r] 140))
  have HE3 := hid (HE2.out.alloc (.cells #[.string nm, .pointer p, .pointer q, .pointer r] 140))
  have HR3 := hid (HR.out.ext ((Ext.refl w2).alloc (.cells #[.string nm, .pointer p, .pointer q, .pointer r] 140)))
  generalize w2.alloc (.cells #[.string nm, .pointer p, .pointer q, .pointer r] 140) = w3 at *
  obtain ⟨⟨y0, y1, y2⟩, g0, g1, g2⟩ := slot3 Q1.out
  obtain ⟨⟨q0, q1, q2⟩, s0, s1, s2⟩ := slot3 Q2.out
  obtain ⟨⟨d0, d1, d2, d3⟩, -⟩ := slot4f QD.out
  have hOR : ¬ w.heap.size + 1 = w.heap.size + 1 + 1 := by omega
  go_wp2_with fail
  change bodyPost _ _ _ _ _ (setL w3 (w.heap.size + 1) 0 [.pointer none, .pointer none, .pointer none])
  have e6 := setL_all Q1.out [.pointer none, .pointer none, .pointer none] rfl
  have x6 := setL_below HE3.out (show w.heap.size ≤ w.heap.size + 1 by omega) 0 [.pointer none, .pointer none, .pointer none]
  have r6 := HR3.out.mono (w' := setL w3 (w.heap.size + 1) 0 [.pointer none, .pointer none, .pointer none]) (S' := fun x => S x ∧ x < w.heap.size) (fun b o hb ho => (setL_other (by have := hb.2; omega) _).trans ho) (fun _ h _ => h)
  generalize setL w3 (w.heap.size + 1) 0 [.pointer none, .pointer none, .pointer none] = WF at *
  clear y0 y1 y2
  obtain ⟨⟨y0, y1, y2⟩, -⟩ := slot3 e6
  refine bodyPost_ret (v := .tuple #[.agg #[.pointer none, .pointer none, .pointer none], .bool false]) (by simp [results, Try.results109, go_sem, y0, y1, y2]) rfl ⟨⟨_, _, _, by rw [HL0.out], ?_⟩, x6⟩
  rw [show defAt ts name = zeroA by unfold defAt; rw [HLD.out]; rfl]
  exact zeroA_rep _ _
set_option maxHeartbeats 2000000 in
theorem resolveNo_y (S : Nat → Prop) (w : World) (b nb : Nat) (ts : List (ByteArray × GS)) (name : ByteArray) (hP : PSch S w b ts) (hn : w.heap[nb]? = some (.cells #[.string name] 9)) (g : GS) (hl : lastDef ts name = some g) :
    Calls Try.prog 109 #[.pointer (some ⟨b, 0, none⟩), .agg #[.pointer (some ⟨nb, 0, none⟩), .pointer none, .pointer none, .pointer none, .pointer none, .bool false]] w fun e w' => (∃ p q r, e = .returned (.tuple #[.agg #[.pointer p, .pointer q, .pointer r], .bool (lastDef ts name).isSome]) ∧ RepS (fun x => S x ∧ x < w.heap.size) w' (defAt ts name) [.pointer p, .pointer q, .pointer r]) ∧ Ext w w' := by
  have HP := hid hP.below
  have HN := hid hn
  have HLD := hid hl
  have HL0 := hid (show (lastDef ts name).isSome = true by rw [hl]; rfl)
  clear hP hn hl
  go_enter Try.func109, Try.ntmps109
  go_upto_region 2 with fail
  have X0 := hid (((Ext.refl _).alloc (.cells #[.pointer none, .pointer none, .pointer none] 123)).block (first_heap w (.cells #[.pointer (some ⟨nb, 0, none⟩), .pointer none, .pointer none, .pointer none, .pointer none, .bool false] 126) (.cells #[.pointer none, .pointer none, .pointer none] 123)))
  have X1 := hid (((Ext.refl _).alloc (.cells #[.pointer none, .pointer none, .pointer none] 123)).block (second_heap w (.cells #[.pointer (some ⟨nb, 0, none⟩), .pointer none, .pointer none, .pointer none, .pointer none, .bool false] 126) (.cells #[.pointer none, .pointer none, .pointer none] 123)))
  have X2 := hid (third_heap w (.cells #[.pointer (some ⟨nb, 0, none⟩), .pointer none, .pointer none, .pointer none, .pointer none, .bool false] 126) (.cells #[.pointer none, .pointer none, .pointer none] 123) (.cells #[.pointer none, .pointer none, .pointer none] 123))
  have HE := hid ((((Ext.refl w).alloc (.cells #[.pointer (some ⟨nb, 0, none⟩), .pointer none, .pointer none, .pointer none, .pointer none, .bool false] 126)).alloc (.cells #[.pointer none, .pointer none, .pointer none] 123)).alloc (.cells #[.pointer none, .pointer none, .pointer none] 123))
  have HSZ := hid (show (((w.alloc (.cells #[.pointer (some ⟨nb, 0, none⟩), .pointer none, .pointer none, .pointer none, .pointer none, .bool false] 126)).alloc (.cells #[.pointer none, .pointer none, .pointer none] 123)).alloc (.cells #[.pointer none, .pointer none, .pointer none] 123)).heap.size = w.heap.size + 3 by simp)
  generalize ((w.alloc (.cells #[.pointer (some ⟨nb, 0, none⟩), .pointer none, .pointer none, .pointer none, .pointer none, .bool false] 126)).alloc (.cells #[.pointer none, .pointer none, .pointer none] 123)).alloc (.cells #[.pointer none, .pointer none, .pointer none] 123) = w1 at *
  obtain ⟨⟨x0, x1, x2, x3, x4, x5⟩, -⟩ := slot6 X0.out
  have cn := (cell_of_heap (HE.out.block HN.out) 0).trans rfl
  go_upto_region 4 with (go_at_call 79; refine (findNamed_any (fun x => S x ∧ x < w.heap.size) _ b ts name (HP.out.ext HE.out)).mono ?_; rintro e w2 ⟨⟨nm, p, q, r, rfl, hR⟩, hE⟩; rw [HL0.out]; have HR := hid (hR.weak (S' := fun x => S x ∧ x < w.heap.size) (fun b h _ => h.1)); have HE2 := hid (HE.out.trans hE); have HS2 := hid (show w.heap.size + 3 ≤ w2.heap.size by have := HSZ.out; have := hE.size; omega); have Y1 := hid (hE.block X1.out); have Y2 := hid (hE.block X2.out); clear hE hR cn x0 x1 x2 x3 x4 x5)
  have Q1 := hid (((Ext.refl w2).alloc (.cells #[.string nm, .pointer p, .pointer q, .pointer r] 140)).block Y1.out)
  have Q2 := hid (((Ext.refl w2).alloc (.cells #[.string nm, .pointer p, .pointer q, .pointer r] 140)).block Y2.out)
  have QD := hid (heap_alloc_new w2 (.cells #[.string nm, .pointer p, .pointer q, .pointer r] 140))
  have HE3 := hid (HE2.out.alloc (.cells #[.string nm, .pointer p, .pointer q, .pointer r] 140))
  have HR3 := hid (HR.out.ext ((Ext.refl w2).alloc (.cells #[.string nm, .pointer p, .pointer q, .pointer r] 140)))
  generalize w2.alloc (.cells #[.string nm, .pointer p, .pointer q, .pointer r] 140) = w3 at *
  obtain ⟨⟨y0, y1, y2⟩, g0, g1, g2⟩ := slot3 Q1.out
  obtain ⟨⟨q0, q1, q2⟩, s0, s1, s2⟩ := slot3 Q2.out
  obtain ⟨⟨d0, d1, d2, d3⟩, -⟩ := slot4f QD.out
  have hOR : ¬ w.heap.size + 1 = w.heap.size + 1 + 1 := by omega
  go_upto_region 8 with fail
  change Code.wp _ _ _ _ (setL w3 (w.heap.size + 1 + 1) 0 [.pointer p, .pointer q, .pointer r])
  have Q2' := hid (setL_all Q2.out [.pointer p, .pointer q, .pointer r] rfl)
  have Q1' := hid ((setL_other (o := 0) hOR [.pointer p, .pointer q, .pointer r]).trans Q1.out)
  have HE4 := hid (setL_below HE3.out (show w.heap.size ≤ w.heap.size + 1 + 1 by omega) 0 [.pointer p, .pointer q, .pointer r])
  have HR4 := hid (HR3.out.mono (w' := setL w3 (w.heap.size + 1 + 1) 0 [.pointer p, .pointer q, .pointer r]) (S' := fun x => S x ∧ x < w.heap.size) (fun b o hb ho => (setL_other (by have := hb.2; omega) _).trans ho) (fun _ h _ => h))
  generalize setL w3 (w.heap.size + 1 + 1) 0 [.pointer p, .pointer q, .pointer r] = w4 at *
  clear y0 y1 y2 g0 g1 g2 q0 q1 q2 s0 s1 s2 d0 d1 d2 d3
  obtain ⟨⟨y0, y1, y2⟩, g0, g1, g2⟩ := slot3 Q1'.out
  obtain ⟨⟨q0, q1, q2⟩, s0, s1, s2⟩ := slot3 Q2'.out
  go_wp2_with fail
  change bodyPost _ _ _ _ _ (setL w4 (w.heap.size + 1) 0 [.pointer p, .pointer q, .pointer r])
  have e6 := setL_all Q1'.out [.pointer p, .pointer q, .pointer r] rfl
  have x6 := setL_below HE4.out (show w.heap.size ≤ w.heap.size + 1 by omega) 0 [.pointer p, .pointer q, .pointer r]
  have r6 := HR4.out.mono (w' := setL w4 (w.heap.size + 1) 0 [.pointer p, .pointer q, .pointer r]) (S' := fun x => S x ∧ x < w.heap.size) (fun b o hb ho => (setL_other (by have := hb.2; omega) _).trans ho) (fun _ h _ => h)
  generalize setL w4 (w.heap.size + 1) 0 [.pointer p, .pointer q, .pointer r] = WF at *
  clear y0 y1 y2
  obtain ⟨⟨y0, y1, y2⟩, -⟩ := slot3 e6
  refine bodyPost_ret (v := .tuple #[.agg #[.pointer p, .pointer q, .pointer r], .bool true]) (by simp [results, Try.results109, go_sem, y0, y1, y2]) rfl ⟨⟨_, _, _, by rw [HL0.out], ?_⟩, x6⟩
  exact r6
theorem resolveNo_any (S : Nat → Prop) (w : World) (b nb : Nat) (ts : List (ByteArray × GS)) (name : ByteArray) (hP : PSch S w b ts) (hn : w.heap[nb]? = some (.cells #[.string name] 9)) :
    Calls Try.prog 109 #[.pointer (some ⟨b, 0, none⟩), .agg #[.pointer (some ⟨nb, 0, none⟩), .pointer none, .pointer none, .pointer none, .pointer none, .bool false]] w fun e w' => (∃ p q r, e = .returned (.tuple #[.agg #[.pointer p, .pointer q, .pointer r], .bool (lastDef ts name).isSome]) ∧ RepS (fun x => S x ∧ x < w.heap.size) w' (defAt ts name) [.pointer p, .pointer q, .pointer r]) ∧ Ext w w' := by
  cases hl : lastDef ts name with
  | none => have := resolveNo_n S w b nb ts name hP hn hl; rw [hl] at this; exact this
  | some g => have := resolveNo_y S w b nb ts name hP hn g hl; rw [hl] at this; exact this
set_option maxHeartbeats 2000000 in
theorem pkgResolve_any (S : Nat → Prop) (w : World) (b nb : Nat) (ts : List (ByteArray × GS)) (name : ByteArray) (hP : PSch S w b ts) (hn : w.heap[nb]? = some (.cells #[.string name] 9)) :
    Calls Try.prog 81 #[.pointer (some ⟨b, 0, none⟩), .agg #[.pointer (some ⟨nb, 0, none⟩), .pointer none, .pointer none, .pointer none, .pointer none, .bool false]] w fun e w' => (∃ p q r, e = .returned (.tuple #[.agg #[.pointer p, .pointer q, .pointer r], .bool (lastDef ts name).isSome]) ∧ RepS (fun x => S x ∧ x < w.heap.size) w' (defAt ts name) [.pointer p, .pointer q, .pointer r]) ∧ Ext w w' := by
  have HP := hid hP.below
  have HN := hid hn
  have HC := hid (fun W (hW : Ext w W) => resolveNo_any (fun x => S x ∧ x < w.heap.size) W b nb ts name (hP.below.ext hW) (hW.block hn))
  clear hP hn
  have X0 := hid (first_heap w (.cells #[.pointer (some ⟨nb, 0, none⟩), .pointer none, .pointer none, .pointer none, .pointer none, .bool false] 126) (.cells #[.pointer none, .pointer none, .pointer none] 123))
  have X1 := hid (second_heap w (.cells #[.pointer (some ⟨nb, 0, none⟩), .pointer none, .pointer none, .pointer none, .pointer none, .bool false] 126) (.cells #[.pointer none, .pointer none, .pointer none] 123))
  have HE := hid (((Ext.refl w).alloc (.cells #[.pointer (some ⟨nb, 0, none⟩), .pointer none, .pointer none, .pointer none, .pointer none, .bool false] 126)).alloc (.cells #[.pointer none, .pointer none, .pointer none] 123))
  go_enter Try.func81, Try.ntmps81
  go_upto_region 1 with fail
  generalize (w.alloc (.cells #[.pointer (some ⟨nb, 0, none⟩), .pointer none, .pointer none, .pointer none, .pointer none, .bool false] 126)).alloc (.cells #[.pointer none, .pointer none, .pointer none] 123) = w1 at *
  obtain ⟨⟨x0, x1, x2, x3, x4, x5⟩, -⟩ := slot6 X0.out
  go_wp2_with (go_at_call 109; refine (HC.out _ HE.out).mono ?_; rintro e w2 ⟨⟨p, q, r, rfl, hR⟩, hE⟩; have HR := hid (hR.weak (S' := fun x => S x ∧ x < w.heap.size) (fun b h _ => h.1)); have HE2 := hid (HE.out.trans hE); have Y1 := hid (hE.block X1.out); clear hE hR x0 x1 x2 x3 x4 x5; obtain ⟨⟨y0, y1, y2⟩, g0, g1, g2⟩ := slot3 Y1.out)
  change bodyPost _ _ _ _ _ (setL w2 (w.heap.size + 1) 0 [.pointer p, .pointer q, .pointer r])
  have e6 := setL_all Y1.out [.pointer p, .pointer q, .pointer r] rfl
  have x6 := setL_below HE2.out (show w.heap.size ≤ w.heap.size + 1 by omega) 0 [.pointer p, .pointer q, .pointer r]
  have r6 := HR.out.mono (w' := setL w2 (w.heap.size + 1) 0 [.pointer p, .pointer q, .pointer r]) (S' := fun x => S x ∧ x < w.heap.size) (fun b o hb ho => (setL_other (by have := hb.2; omega) _).trans ho) (fun _ h _ => h)
  generalize setL w2 (w.heap.size + 1) 0 [.pointer p, .pointer q, .pointer r] = WF at *
  clear y0 y1 y2
  obtain ⟨⟨y0, y1, y2⟩, -⟩ := slot3 e6
  exact bodyPost_ret (v := .tuple #[.agg #[.pointer p, .pointer q, .pointer r], .bool (lastDef ts name).isSome]) (by simp [results, Try.results81, go_sem, y0, y1, y2]) rfl ⟨⟨_, _, _, rfl, r6⟩, x6⟩
theorem defAt_ok {ts : List (ByteArray × GS)} {name : ByteArray} (h : ∀ p ∈ ts, p.2.tag = 2 ∧ WfG p.2) : (defAt ts name).tag = 2 ∧ WfG (defAt ts name) := by
  unfold defAt
  cases hl : lastDef ts name with
  | none => exact ⟨rfl, zeroA_wf⟩
  | some g =>
    have key : ∀ ts : List (ByteArray × GS), (∀ p ∈ ts, p.2.tag = 2 ∧ WfG p.2) → ∀ g, lastDef ts name = some g → g.tag = 2 ∧ WfG g := by
      intro ts
      induction ts with
      | nil => intro _ g h; simp [lastDef] at h
      | cons p ts ih =>
        intro h g hg
        simp only [lastDef] at hg
        cases hr : lastDef ts name with
        | some a => rw [hr] at hg; cases hg; exact ih (fun q hq => h q (List.mem_cons_of_mem _ hq)) _ hr
        | none =>
          rw [hr] at hg
          simp only at hg
          split at hg
          · cases hg; exact h p List.mem_cons_self
          · cases hg
    exact key ts h g hl
theorem defs_ok {S : Nat → Prop} {w : World} {v : Value} {ts : List (ByteArray × GS)} (h : RepDefs S w v ts) : ∀ p ∈ ts, p.2.tag = 2 ∧ WfG p.2 := fun p hp => by
  obtain ⟨i, hi⟩ := List.mem_iff_getElem?.1 hp
  obtain ⟨a, b, o, c, -, -, hat⟩ := h.at'
  obtain ⟨-, h1, -, s, p0, p1, p2, q0, q1, q2, -, h2⟩ := hat i p hi
  exact ⟨h1, h2.wf⟩
set_option maxHeartbeats 2000000 in
theorem implFind_any (v : Value) (ts : List (ByteArray × GS)) (name : ByteArray) (w : World) (h : RepDefs Any w v ts) : Calls Try.prog 37 #[.agg #[v], .string name] w fun e w' => (∃ g' c0 c1 c2, e = .returned (.tuple #[.agg #[c0, c1, c2], .bool (lastDef ts name).isSome]) ∧ g'.tag = 2 ∧ Lk g' (defAt ts name) ∧ RepGS Any w' g' [c0, c1, c2]) ∧ Ext w w' := by
  obtain ⟨hdt, hdw⟩ := defAt_ok (name := name) (defs_ok h)
  have HBK := hid (backAtom_any _ hdw hdt hdt)
  have HT := hid (fun W (hW : Ext w W) => toSchema_any v ts W (h.ext hW))
  obtain ⟨va, vb, vo, vc, rfl, -, -⟩ := h.at'
  clear h hdt hdw
  generalize hn : ts.length = n at *
  clear hn
  have X0 := hid (first_heap w (.cells #[.slice va n vc] 62) (.cells #[.string ⟨#[]⟩, .slice none 0 0, .slice none 0 0] 53))
  have X1 := hid (second_heap w (.cells #[.slice va n vc] 62) (.cells #[.string ⟨#[]⟩, .slice none 0 0, .slice none 0 0] 53))
  have HE := hid (((Ext.refl w).alloc (.cells #[.slice va n vc] 62)).alloc (.cells #[.string ⟨#[]⟩, .slice none 0 0, .slice none 0 0] 53))
  have HSZ := hid (show ((w.alloc (.cells #[.slice va n vc] 62)).alloc (.cells #[.string ⟨#[]⟩, .slice none 0 0, .slice none 0 0] 53)).heap.size = w.heap.size + 2 by simp)
  go_enter Try.func37, Try.ntmps37
  go_upto_region 1 with fail
  generalize (w.alloc (.cells #[.slice va n vc] 62)).alloc (.cells #[.string ⟨#[]⟩, .slice none 0 0, .slice none 0 0] 53) = w1 at *
  have x0 := (cell_of_heap X0.out 0).trans rfl
  go_upto_region 2 with (first
    | (go_at_call 76; refine (HT.out _ HE.out).mono ?_; rintro e w2 ⟨⟨b, rfl, hb, hP⟩, hE⟩; have HP := hid hP; have HE2 := hid hE; clear hE hP hb x0)
    | (go_at_call 79; refine (findNamed_any _ _ b ts name HP.out).mono ?_; rintro e w3 ⟨⟨nm, p, q, r, rfl, hR⟩, hE⟩; have HR := hid (hR.weak (S' := Any) (fun _ _ _ => trivial)); have HE3 := hid (HE2.out.trans hE); clear hE hR))
  have QD := hid (heap_alloc_new w3 (.cells #[.string nm, .pointer p, .pointer q, .pointer r] 140))
  have HE4 := hid (HE3.out.alloc (.cells #[.string nm, .pointer p, .pointer q, .pointer r] 140))
  have HR4 := hid (HR.out.ext ((Ext.refl w3).alloc (.cells #[.string nm, .pointer p, .pointer q, .pointer r] 140)))
  generalize w3.alloc (.cells #[.string nm, .pointer p, .pointer q, .pointer r] 140) = w4 at *
  obtain ⟨⟨d0, d1, d2, d3⟩, -⟩ := slot4f QD.out
  go_wp2_with (go_at_call 80; refine (HBK.out _ _ HR4.out).mono ?_; rintro e w5 ⟨g', cs', rfl, hgt, hlk, hg, hE⟩; obtain ⟨a0, a1, a2, a3, a4, a5, a6, rfl⟩ := hg.formA hgt; have HG := hid (hg.weak (S' := fun b => b ≠ w.heap.size + 1) (fun b hb _ => by have hb' : w4.heap.size ≤ b := hb; have := HSZ.out; have := HE4.out.size; omega)); have HGT := hid hgt; have HLK := hid hlk; have HE5 := hid (HE.out.trans (HE4.out.trans hE)); have Y1 := hid ((HE4.out.trans hE).block X1.out); clear hg hgt hlk hE d0 d1 d2 d3; obtain ⟨⟨y0, y1, y2⟩, g0, g1, g2⟩ := slot3 Y1.out)
  change bodyPost _ _ _ _ _ (setL w5 (w.heap.size + 1) 0 [.string a0, .slice a1 a2 a3, .slice a4 a5 a6])
  have e6 := setL_all Y1.out [.string a0, .slice a1 a2 a3, .slice a4 a5 a6] rfl
  have x6 := setL_below HE5.out (show w.heap.size ≤ (w.heap.size + 1) by omega) 0 [.string a0, .slice a1 a2 a3, .slice a4 a5 a6]
  have r6 := HG.out.mono (w' := setL w5 (w.heap.size + 1) 0 [.string a0, .slice a1 a2 a3, .slice a4 a5 a6]) (S' := Any) (fun b o hb ho => (setL_other (show b ≠ (w.heap.size + 1) from hb) _).trans ho) (fun _ _ _ => trivial)
  generalize setL w5 (w.heap.size + 1) 0 [.string a0, .slice a1 a2 a3, .slice a4 a5 a6] = WF at *
  clear y0 y1 y2
  obtain ⟨⟨y0, y1, y2⟩, -⟩ := slot3 e6
  exact bodyPost_ret (v := .tuple #[.agg #[.string a0, .slice a1 a2 a3, .slice a4 a5 a6], .bool (lastDef ts name).isSome]) (by simp [results, Try.results37, go_sem, y0, y1, y2]) rfl ⟨⟨g', _, _, _, rfl, HGT.out, HLK.out, r6⟩, x6⟩
theorem refN_form {S : Nat → Prop} {w : World} {name : ByteArray} {a : GS} {cs : List Value} (h : RepS S w (.ref true name a ⟨#[]⟩) cs) : ∃ nb, cs = [.pointer (some ⟨nb, 0, none⟩), .pointer none, .pointer none, .pointer none, .pointer none, .bool false] ∧ w.heap[nb]? = some (.cells #[.string name] 9) := by
  cases h with
  | @refN _ _ _ nb rp hN hn h1 h2 hr =>
    rcases hr with ⟨-, rfl⟩ | ⟨h3, -⟩
    · exact ⟨nb, rfl, hn⟩
    · exact absurd rfl h3
theorem refN_rep (S : Nat → Prop) (w : World) (name : ByteArray) (hn : name.size ≤ 140737488351232) : RepGS S w (.ref true name zeroA ⟨#[]⟩) [.bool true, .string name, .string ⟨#[]⟩, .slice none 0 0, .slice none 0 0, .string ⟨#[]⟩] :=
  .ref hn (by decide) rfl (.atom (lb := 0) (lo := 0) (mb := 0) (mo := 0) (ls := []) (ms := []) (by decide) ⟨Nat.le_refl _, fun h => absurd h (by simp), fun i hi => absurd hi (by simp)⟩ (fun g h => by simp at h) (fun i g cs h => by simp at h) ⟨Nat.le_refl _, fun h => absurd h (by simp), fun i hi => absurd hi (by simp)⟩ (fun g h => by simp at h) (fun i g cs h => by simp at h))
set_option maxHeartbeats 4000000 in
theorem implResolve_any (v : Value) (ts : List (ByteArray × GS)) (name : ByteArray) (hname : name.size ≤ 140737488351232) (w : World) (h : RepDefs Any w v ts) : Calls Try.prog 38 #[.agg #[v], .agg #[.bool true, .string name, .string ⟨#[]⟩, .slice none 0 0, .slice none 0 0, .string ⟨#[]⟩]] w fun e w' => (∃ g' c0 c1 c2, e = .returned (.tuple #[.agg #[c0, c1, c2], .bool (lastDef ts name).isSome]) ∧ g'.tag = 2 ∧ Lk g' (defAt ts name) ∧ RepGS Any w' g' [c0, c1, c2]) ∧ Ext w w' := by
  obtain ⟨hdt, hdw⟩ := defAt_ok (name := name) (defs_ok h)
  have HBK := hid (backAtom_any _ hdw hdt hdt)
  have HT := hid (fun W (hW : Ext w W) => toSchema_any v ts W (h.ext hW))
  have HTR := hid (fun W => toRef_any (.ref true name zeroA ⟨#[]⟩) rfl W _ (refN_rep Any W name hname))
  obtain ⟨va, vb, vo, vc, rfl, -, -⟩ := h.at'
  clear h hdt hdw hname
  generalize hn : ts.length = n at *
  clear hn
  have X0 := hid (((Ext.refl _).alloc (.cells #[.string ⟨#[]⟩, .slice none 0 0, .slice none 0 0] 53)).block (first_heap w (.cells #[.slice va n vc] 62) (.cells #[.bool true, .string name, .string ⟨#[]⟩, .slice none 0 0, .slice none 0 0, .string ⟨#[]⟩] 55)))
  have X1 := hid (((Ext.refl _).alloc (.cells #[.string ⟨#[]⟩, .slice none 0 0, .slice none 0 0] 53)).block (second_heap w (.cells #[.slice va n vc] 62) (.cells #[.bool true, .string name, .string ⟨#[]⟩, .slice none 0 0, .slice none 0 0, .string ⟨#[]⟩] 55)))
  have X2 := hid (third_heap w (.cells #[.slice va n vc] 62) (.cells #[.bool true, .string name, .string ⟨#[]⟩, .slice none 0 0, .slice none 0 0, .string ⟨#[]⟩] 55) (.cells #[.string ⟨#[]⟩, .slice none 0 0, .slice none 0 0] 53))
  have HE := hid ((((Ext.refl w).alloc (.cells #[.slice va n vc] 62)).alloc (.cells #[.bool true, .string name, .string ⟨#[]⟩, .slice none 0 0, .slice none 0 0, .string ⟨#[]⟩] 55)).alloc (.cells #[.string ⟨#[]⟩, .slice none 0 0, .slice none 0 0] 53))
  have HSZ := hid (show (((w.alloc (.cells #[.slice va n vc] 62)).alloc (.cells #[.bool true, .string name, .string ⟨#[]⟩, .slice none 0 0, .slice none 0 0, .string ⟨#[]⟩] 55)).alloc (.cells #[.string ⟨#[]⟩, .slice none 0 0, .slice none 0 0] 53)).heap.size = w.heap.size + 3 by simp)
  go_enter Try.func38, Try.ntmps38
  go_upto_region 1 with fail
  generalize ((w.alloc (.cells #[.slice va n vc] 62)).alloc (.cells #[.bool true, .string name, .string ⟨#[]⟩, .slice none 0 0, .slice none 0 0, .string ⟨#[]⟩] 55)).alloc (.cells #[.string ⟨#[]⟩, .slice none 0 0, .slice none 0 0] 53) = w1 at *
  have X0d := hid (show w1.drew.heap[w.heap.size]? = some (.cells #[.slice va n vc] 62) from (Ext.refl w1).drew.block X0.out)
  have X1d := hid (show w1.drew.heap[w.heap.size + 1]? = some (.cells #[.bool true, .string name, .string ⟨#[]⟩, .slice none 0 0, .slice none 0 0, .string ⟨#[]⟩] 55) from (Ext.refl w1).drew.block X1.out)
  have X2d := hid (show w1.drew.heap[w.heap.size + 2]? = some (.cells #[.string ⟨#[]⟩, .slice none 0 0, .slice none 0 0] 53) from (Ext.refl w1).drew.block X2.out)
  have HEd := hid (HE.out.drew)
  have HSd := hid (show w.heap.size + 3 ≤ w1.drew.heap.size by have h : w1.drew.heap.size = w1.heap.size := rfl; rw [h, HSZ.out]; exact Nat.le_refl _)
  refine wp_region_late (fun w' : World => w'.cell? ⟨w.heap.size, 0, none⟩ = some (.slice va n vc) ∧ w'.cell? ⟨w.heap.size + 1, 0, none⟩ = some (.bool true) ∧ w'.cell? ⟨w.heap.size + 1, 1, none⟩ = some (.string name) ∧ w'.cell? ⟨w.heap.size + 1, 2, none⟩ = some (.string ⟨#[]⟩) ∧ w'.cell? ⟨w.heap.size + 1, 3, none⟩ = some (.slice none 0 0) ∧ w'.cell? ⟨w.heap.size + 1, 4, none⟩ = some (.slice none 0 0) ∧ w'.cell? ⟨w.heap.size + 1, 5, none⟩ = some (.string ⟨#[]⟩)) [9] (by kernel_rfl) ?hS1 (fun hHeld => ?_)
  case hS1 => (obtain ⟨⟨k0, k1, k2, k3, k4, k5⟩, -⟩ := slot6 X1d.out; exact ⟨(cell_of_heap X0d.out 0).trans rfl, k0, k1, k2, k3, k4, k5⟩)
  generalize w1.drew = wd at *
  change wpAnyM _ _ _ _ _ _ 11 #[false, false, false, false, false, false, false, false, false, false, false] _ _
  refine wpAnyM_take (i := 0) (oi := { dst := some 9, op := Go.Op.load 62 (Go.Operand.tmp 2), type := 62, pos := "schemas.go:11", after := #[], guard := none }) (v := ?v2) rfl (by kernel_rfl) (fun _ _ _ h => h) (Or.inl ⟨by rfl, ?hy2⟩) (by assumption) ?rest2
  case hy2 => (intro wz hSw; (try dsimp only at hSw); go_simp; try with_reducible rfl)
  (try simp only [Act.put, List.setIfInBounds_toArray, List.set_cons_zero, List.set_cons_succ])
  refine wpAnyM_take (i := 2) (oi := { dst := some 11, op := Go.Op.load 55 (Go.Operand.tmp 3), type := 55, pos := "schemas.go:11", after := #[], guard := none }) (v := ?v3) rfl (by kernel_rfl) (fun _ _ _ h => h) (Or.inl ⟨by rfl, ?hy3⟩) (by assumption) ?rest3
  case hy3 => (intro wz hSw; (try dsimp only at hSw); go_simp; try with_reducible rfl)
  (try simp only [Act.put, List.setIfInBounds_toArray, List.set_cons_zero, List.set_cons_succ])
  refine wpAnyM_ready (rs := [1, 8]) (by kernel_rfl) (by simp) ?_
  refine AllReadyM.cons (o := { dst := some 10, op := Go.Op.call { callee := Go.Callee.value (Go.Operand.func 76), args := #[Go.Operand.tmp 9], argTypes := #[62] }, type := 135, pos := "schemas.go:11", after := #[{ on := 0, ground := Go.Ground.data }], guard := none }) rfl (fun K hK => ?_) ?more4
  · have tkn : True := trivial
    refine step_call _ rfl 76 [.tmp 9] #[62] rfl (by kernel_rfl) [_] rfl (HT.out wd (HEd.out.trans (Ext.refl wd))) ?_
    rintro en z1 ⟨⟨b, rfl, hb, hP⟩, hE⟩
    refine ⟨_, rfl, ?_⟩
    have HP := hid hP.below
    have F1 := hid hE
    clear hb hP hE
    refine hK.out _ _ ?hS5 (fun hHeld => ?_)
    case hS5 => (obtain ⟨⟨k0, k1, k2, k3, k4, k5⟩, -⟩ := slot6 (F1.out.block X1d.out); exact ⟨(cell_of_heap (F1.out.block X0d.out) 0).trans rfl, k0, k1, k2, k3, k4, k5⟩)
    clear hK K
    (try simp only [Act.put, List.setIfInBounds_toArray, List.set_cons_zero, List.set_cons_succ])
    refine wpAnyM_ready (rs := [3, 8]) (by kernel_rfl) (by simp) ?_
    refine AllReadyM.cons (o := { dst := some 12, op := Go.Op.call { callee := Go.Callee.value (Go.Operand.func 82), args := #[Go.Operand.tmp 11], argTypes := #[55] }, type := 126, pos := "schemas.go:11", after := #[{ on := 2, ground := Go.Ground.data }, { on := 1, ground := Go.Ground.chain }], guard := none }) rfl (fun K hK => ?_) ?more6
    · have tkn : True := trivial
      refine step_call _ rfl 82 [.tmp 11] #[55] rfl (by kernel_rfl) [_] rfl (HTR.out z1) ?_
      rintro en z2 ⟨cs_, rfl, hT, hE⟩
      obtain ⟨nb, rfl, hnb⟩ := refN_form hT
      refine ⟨_, rfl, ?_⟩
      have HNB := hid hnb
      have F2 := hid hE
      clear hT hnb hE
      refine hK.out _ _ ?hS7 (fun hHeld => ?_)
      case hS7 => (obtain ⟨⟨k0, k1, k2, k3, k4, k5⟩, -⟩ := slot6 ((F1.out.trans F2.out).block X1d.out); exact ⟨(cell_of_heap ((F1.out.trans F2.out).block X0d.out) 0).trans rfl, k0, k1, k2, k3, k4, k5⟩)
      clear hK K
      (try simp only [Act.put, List.setIfInBounds_toArray, List.set_cons_zero, List.set_cons_succ])
      refine wpAnyM_ready (rs := [4, 8]) (by kernel_rfl) (by simp) ?_
      refine AllReadyM.cons (o := { dst := some 13, op := Go.Op.call { callee := Go.Callee.value (Go.Operand.func 81), args := #[Go.Operand.tmp 10, Go.Operand.tmp 12], argTypes := #[135, 126] }, type := 144, pos := "schemas.go:11", after := #[{ on := 1, ground := Go.Ground.data }, { on := 3, ground := Go.Ground.data }, { on := 3, ground := Go.Ground.chain }], guard := none }) rfl (fun K hK => ?_) ?more8
      · have tkn : True := trivial
        refine step_call _ rfl 81 [.tmp 10, .tmp 12] #[135, 126] rfl (by kernel_rfl) [_, _] rfl (pkgResolve_any _ z2 b nb ts name (HP.out.ext F2.out) ((Ext.refl z2).block HNB.out)) ?_
        rintro en z3 ⟨⟨p, q, r, rfl, hR⟩, hE⟩
        refine ⟨_, rfl, ?_⟩
        have HR := hid (hR.weak (fun b h _ => h.1))
        have F3 := hid hE
        clear hR hE
        refine hK.out _ _ ?hS9 (fun hHeld => ?_)
        case hS9 => (obtain ⟨⟨k0, k1, k2, k3, k4, k5⟩, -⟩ := slot6 (((F1.out.trans F2.out).trans F3.out).block X1d.out); exact ⟨(cell_of_heap (((F1.out.trans F2.out).trans F3.out).block X0d.out) 0).trans rfl, k0, k1, k2, k3, k4, k5⟩)
        clear hK K
        (try simp only [Act.put, List.setIfInBounds_toArray, List.set_cons_zero, List.set_cons_succ])
        refine wpAnyM_take (i := 5) (oi := { dst := some 8, op := Go.Op.move (Go.Operand.tmp 13), type := 144, pos := "schemas.go:11", after := #[{ on := 4, ground := Go.Ground.data }], guard := none }) (v := ?v10) rfl (by kernel_rfl) (fun _ _ _ h => h) (Or.inl ⟨by rfl, ?hy10⟩) (by assumption) ?rest10
        case hy10 => (intro wz hSw; (try dsimp only at hSw); go_simp; try with_reducible rfl)
        (try simp only [Act.put, List.setIfInBounds_toArray, List.set_cons_zero, List.set_cons_succ])
        refine wpAnyM_take (i := 6) (oi := { dst := some 14, op := Go.Op.extract (Go.Operand.tmp 8) 0, type := 123, pos := "schemas.go:11", after := #[{ on := 5, ground := Go.Ground.data }], guard := none }) (v := ?v11) rfl (by kernel_rfl) (fun _ _ _ h => h) (Or.inl ⟨by rfl, ?hy11⟩) (by assumption) ?rest11
        case hy11 => (intro wz hSw; (try dsimp only at hSw); go_simp; try with_reducible rfl)
        (try simp only [Act.put, List.setIfInBounds_toArray, List.set_cons_zero, List.set_cons_succ])
        refine wpAnyM_takeY (i := 7) (oi := { dst := some 15, op := Go.Op.extract (Go.Operand.tmp 8) 1, type := 4, pos := "schemas.go:11", after := #[{ on := 5, ground := Go.Ground.data }, { on := 9, ground := Go.Ground.gcOnly Go.Departure.lateStores }], guard := none }) (v := ?v12) rfl (by kernel_rfl) (fun _ _ _ h => h) (Or.inl ⟨by rfl, ?hy12⟩) (fun _ => by assumption) ?rest12
        case hy12 => (intro wz hSw; (try dsimp only at hSw); go_simp; try with_reducible rfl)
        (try simp only [Act.put, List.setIfInBounds_toArray, List.set_cons_zero, List.set_cons_succ])
        refine wpAnyM_ready (rs := [8]) (by kernel_rfl) (by simp) ?_
        refine AllReadyM.cons (o := { dst := some 6, op := Go.Op.alloc 123, type := 0, pos := "schemas.go:11", after := #[], guard := none }) rfl (fun K hK => ?_) AllReadyM.nil
        go_simp
        have XO := hid (heap_alloc_new z3 (.cells #[.pointer none, .pointer none, .pointer none] 123))
        have F4 := hid ((Ext.refl z3).alloc (.cells #[.pointer none, .pointer none, .pointer none] 123))
        have LO := hid (show z3.heap.size < (z3.alloc (.cells #[.pointer none, .pointer none, .pointer none] 123)).heap.size by simp)
        generalize z3.alloc (.cells #[.pointer none, .pointer none, .pointer none] 123) = z4 at *
        refine hK.out _ _ ?hS13 (fun hHeld => ?_)
        case hS13 => (obtain ⟨⟨k0, k1, k2, k3, k4, k5⟩, -⟩ := slot6 ((((F1.out.trans F2.out).trans F3.out).trans F4.out).block X1d.out); exact ⟨(cell_of_heap ((((F1.out.trans F2.out).trans F3.out).trans F4.out).block X0d.out) 0).trans rfl, k0, k1, k2, k3, k4, k5⟩)
        clear hK K
        (try simp only [Act.put, List.setIfInBounds_toArray, List.set_cons_zero, List.set_cons_succ])
        refine wpAnyM_ready (rs := [9]) (by kernel_rfl) (by simp) ?_
        refine AllReadyM.behind (o := { dst := none, op := Go.Op.store 123 (Go.Operand.tmp 6) (Go.Operand.tmp 14), type := 0, pos := "schemas.go:11", after := #[{ on := 8, ground := Go.Ground.data }, { on := 6, ground := Go.Ground.data }, { on := 4, ground := Go.Ground.chain }, { on := 0, ground := Go.Ground.phase }, { on := 1, ground := Go.Ground.phase }, { on := 2, ground := Go.Ground.phase }, { on := 3, ground := Go.Ground.phase }, { on := 4, ground := Go.Ground.phase }, { on := 5, ground := Go.Ground.phase }, { on := 6, ground := Go.Ground.phase }, { on := 7, ground := Go.Ground.textOnly Go.Departure.lateStores }, { on := 8, ground := Go.Ground.phase }], guard := none }) rfl (by kernel_rfl) (fun K hK => ?_) AllReadyM.nil
        have s1 := F1.out.size
        have s2 := F2.out.size
        have s3 := F3.out.size
        have s4 := F4.out.size
        have lo := LO.out
        have X4 := (Ext.refl z4).block XO.out
        obtain ⟨⟨y0, y1, y2⟩, g0, g1, g2⟩ := slot3 X4
        go_simp
        obtain ⟨z5, hw⟩ : ∃ x, x = setL z4 z3.heap.size 0 [.pointer p, .pointer q, .pointer r] := ⟨_, rfl⟩
        change K _ (setL z4 z3.heap.size 0 [.pointer p, .pointer q, .pointer r])
        rw [← hw]
        have XO5 := hid (show z5.heap[z3.heap.size]? = some (.cells #[.pointer p, .pointer q, .pointer r] 123) by rw [hw]; exact setL_all X4 [.pointer p, .pointer q, .pointer r] rfl)
        have HR5 := hid ((HR.out.ext F4.out).mono (w' := z5) (S' := Any) (fun b o hb ho => by rw [hw]; exact (setL_other (by obtain ⟨h1, h2⟩ := hb; have h1' : wd.heap.size ≤ b := h1; have h2' : b < z1.heap.size := h2; omega) _).trans ho) (fun _ _ _ => trivial))
        have HE5 := hid (show Ext w z5 by rw [hw]; exact setL_below (HEd.out.trans (((F1.out.trans F2.out).trans F3.out).trans F4.out)) (by have := HEd.out.size; omega) _ _)
        have X15 := hid (show z5.heap[w.heap.size + 2]? = some (.cells #[.string ⟨#[]⟩, .slice none 0 0, .slice none 0 0] 53) by rw [hw]; exact (setL_other (by have := HSd.out; omega) _).trans ((((F1.out.trans F2.out).trans F3.out).trans F4.out).block X2d.out))
        have HS5 := hid (show w.heap.size + 3 ≤ z5.heap.size by rw [hw]; have h := (setL_below (Below.refl 0 z4) (Nat.zero_le z3.heap.size) 0 [.pointer p, .pointer q, .pointer r]).size; have := HSd.out; omega)
        clear hw y0 y1 y2 g0 g1 g2 X4 s1 s2 s3 s4 lo
        obtain ⟨⟨y0, y1, y2⟩, g0, g1, g2⟩ := slot3 XO5.out
        refine hK.out _ _ ?_
        clear hK K
        (try simp only [Act.put, List.setIfInBounds_toArray, List.set_cons_zero, List.set_cons_succ])
        refine wpAnyM_takeY (i := 10) (oi := { dst := some 7, op := Go.Op.assign (Go.Operand.tmp 15), type := 4, pos := "schemas.go:11", after := #[{ on := 7, ground := Go.Ground.data }, { on := 9, ground := Go.Ground.chain }, { on := 0, ground := Go.Ground.phase }, { on := 1, ground := Go.Ground.phase }, { on := 2, ground := Go.Ground.phase }, { on := 3, ground := Go.Ground.phase }, { on := 4, ground := Go.Ground.phase }, { on := 5, ground := Go.Ground.phase }, { on := 6, ground := Go.Ground.phase }, { on := 7, ground := Go.Ground.phase }, { on := 8, ground := Go.Ground.phase }, { on := 9, ground := Go.Ground.phase }], guard := none }) (v := ?v14) rfl (by kernel_rfl) (fun _ _ _ h => h) (Or.inl ⟨by rfl, ?hy14⟩) (fun hcl => absurd (hcl 9 (by simp)) (by simp)) ?rest14
        case hy14 => (intro wz hSw; (try dsimp only at hSw); go_simp; try with_reducible rfl)
        (try simp only [Act.put, List.setIfInBounds_toArray, List.set_cons_zero, List.set_cons_succ])
        refine wpAnyM_done (by kernel_rfl) ?_ _
        go_upto_region 2 with fail
        go_wp2_with (go_at_call 80; refine (HBK.out _ _ HR5.out).mono ?_; rintro e w5 ⟨g', cs', rfl, hgt, hlk, hg, hE⟩; obtain ⟨a0, a1, a2, a3, a4, a5, a6, rfl⟩ := hg.formA hgt; have HG := hid (hg.weak (S' := fun b => b ≠ w.heap.size + 2) (fun b hb _ => by have hb' : z5.heap.size ≤ b := hb; have := HS5.out; omega)); have HGT := hid hgt; have HLK := hid hlk; have HE6 := hid (HE5.out.trans hE); have Y1 := hid (hE.block X15.out); clear hg hgt hlk hE y0 y1 y2 g0 g1 g2; obtain ⟨⟨y0, y1, y2⟩, g0, g1, g2⟩ := slot3 Y1.out)
        change bodyPost _ _ _ _ _ (setL w5 (w.heap.size + 2) 0 [.string a0, .slice a1 a2 a3, .slice a4 a5 a6])
        have e6 := setL_all Y1.out [.string a0, .slice a1 a2 a3, .slice a4 a5 a6] rfl
        have x6 := setL_below HE6.out (show w.heap.size ≤ (w.heap.size + 2) by omega) 0 [.string a0, .slice a1 a2 a3, .slice a4 a5 a6]
        have r6 := HG.out.mono (w' := setL w5 (w.heap.size + 2) 0 [.string a0, .slice a1 a2 a3, .slice a4 a5 a6]) (S' := Any) (fun b o hb ho => (setL_other (show b ≠ (w.heap.size + 2) from hb) _).trans ho) (fun _ _ _ => trivial)
        generalize setL w5 (w.heap.size + 2) 0 [.string a0, .slice a1 a2 a3, .slice a4 a5 a6] = WF at *
        clear y0 y1 y2
        obtain ⟨⟨y0, y1, y2⟩, -⟩ := slot3 e6
        exact bodyPost_ret (v := .tuple #[.agg #[.string a0, .slice a1 a2 a3, .slice a4 a5 a6], .bool (lastDef ts name).isSome]) (by simp [results, Try.results38, go_sem, y0, y1, y2]) rfl ⟨⟨g', _, _, _, rfl, HGT.out, HLK.out, r6⟩, x6⟩
      refine AllReadyM.cons (o := { dst := some 6, op := Go.Op.alloc 123, type := 0, pos := "schemas.go:11", after := #[], guard := none }) rfl (fun K hK => ?_) AllReadyM.nil
      go_simp
      have XO := hid (heap_alloc_new z2 (.cells #[.pointer none, .pointer none, .pointer none] 123))
      have F3 := hid ((Ext.refl z2).alloc (.cells #[.pointer none, .pointer none, .pointer none] 123))
      have LO := hid (show z2.heap.size < (z2.alloc (.cells #[.pointer none, .pointer none, .pointer none] 123)).heap.size by simp)
      generalize z2.alloc (.cells #[.pointer none, .pointer none, .pointer none] 123) = z3 at *
      refine hK.out _ _ ?hS15 (fun hHeld => ?_)
      case hS15 => (obtain ⟨⟨k0, k1, k2, k3, k4, k5⟩, -⟩ := slot6 (((F1.out.trans F2.out).trans F3.out).block X1d.out); exact ⟨(cell_of_heap (((F1.out.trans F2.out).trans F3.out).block X0d.out) 0).trans rfl, k0, k1, k2, k3, k4, k5⟩)
      clear hK K
      (try simp only [Act.put, List.setIfInBounds_toArray, List.set_cons_zero, List.set_cons_succ])
      refine wpAnyM_ready (rs := [4]) (by kernel_rfl) (by simp) ?_
      refine AllReadyM.cons (o := { dst := some 13, op := Go.Op.call { callee := Go.Callee.value (Go.Operand.func 81), args := #[Go.Operand.tmp 10, Go.Operand.tmp 12], argTypes := #[135, 126] }, type := 144, pos := "schemas.go:11", after := #[{ on := 1, ground := Go.Ground.data }, { on := 3, ground := Go.Ground.data }, { on := 3, ground := Go.Ground.chain }], guard := none }) rfl (fun K hK => ?_) AllReadyM.nil
      refine step_call _ rfl 81 [.tmp 10, .tmp 12] #[135, 126] rfl (by kernel_rfl) [_, _] rfl (pkgResolve_any _ z3 b nb ts name (HP.out.ext (F2.out.trans F3.out)) (F3.out.block HNB.out)) ?_
      rintro en z4 ⟨⟨p, q, r, rfl, hR⟩, hE⟩
      refine ⟨_, rfl, ?_⟩
      have HR := hid (hR.weak (fun b h _ => h.1))
      have F4 := hid hE
      clear hR hE
      refine hK.out _ _ ?hS16 (fun hHeld => ?_)
      case hS16 => (obtain ⟨⟨k0, k1, k2, k3, k4, k5⟩, -⟩ := slot6 ((((F1.out.trans F2.out).trans F3.out).trans F4.out).block X1d.out); exact ⟨(cell_of_heap ((((F1.out.trans F2.out).trans F3.out).trans F4.out).block X0d.out) 0).trans rfl, k0, k1, k2, k3, k4, k5⟩)
      clear hK K
      (try simp only [Act.put, List.setIfInBounds_toArray, List.set_cons_zero, List.set_cons_succ])
      refine wpAnyM_take (i := 5) (oi := { dst := some 8, op := Go.Op.move (Go.Operand.tmp 13), type := 144, pos := "schemas.go:11", after := #[{ on := 4, ground := Go.Ground.data }], guard := none }) (v := ?v17) rfl (by kernel_rfl) (fun _ _ _ h => h) (Or.inl ⟨by rfl, ?hy17⟩) (by assumption) ?rest17
      case hy17 => (intro wz hSw; (try dsimp only at hSw); go_simp; try with_reducible rfl)
      (try simp only [Act.put, List.setIfInBounds_toArray, List.set_cons_zero, List.set_cons_succ])
      refine wpAnyM_take (i := 6) (oi := { dst := some 14, op := Go.Op.extract (Go.Operand.tmp 8) 0, type := 123, pos := "schemas.go:11", after := #[{ on := 5, ground := Go.Ground.data }], guard := none }) (v := ?v18) rfl (by kernel_rfl) (fun _ _ _ h => h) (Or.inl ⟨by rfl, ?hy18⟩) (by assumption) ?rest18
      case hy18 => (intro wz hSw; (try dsimp only at hSw); go_simp; try with_reducible rfl)
      (try simp only [Act.put, List.setIfInBounds_toArray, List.set_cons_zero, List.set_cons_succ])
      refine wpAnyM_takeY (i := 7) (oi := { dst := some 15, op := Go.Op.extract (Go.Operand.tmp 8) 1, type := 4, pos := "schemas.go:11", after := #[{ on := 5, ground := Go.Ground.data }, { on := 9, ground := Go.Ground.gcOnly Go.Departure.lateStores }], guard := none }) (v := ?v19) rfl (by kernel_rfl) (fun _ _ _ h => h) (Or.inl ⟨by rfl, ?hy19⟩) (fun _ => by assumption) ?rest19
      case hy19 => (intro wz hSw; (try dsimp only at hSw); go_simp; try with_reducible rfl)
      (try simp only [Act.put, List.setIfInBounds_toArray, List.set_cons_zero, List.set_cons_succ])
      refine wpAnyM_ready (rs := [9]) (by kernel_rfl) (by simp) ?_
      refine AllReadyM.behind (o := { dst := none, op := Go.Op.store 123 (Go.Operand.tmp 6) (Go.Operand.tmp 14), type := 0, pos := "schemas.go:11", after := #[{ on := 8, ground := Go.Ground.data }, { on := 6, ground := Go.Ground.data }, { on := 4, ground := Go.Ground.chain }, { on := 0, ground := Go.Ground.phase }, { on := 1, ground := Go.Ground.phase }, { on := 2, ground := Go.Ground.phase }, { on := 3, ground := Go.Ground.phase }, { on := 4, ground := Go.Ground.phase }, { on := 5, ground := Go.Ground.phase }, { on := 6, ground := Go.Ground.phase }, { on := 7, ground := Go.Ground.textOnly Go.Departure.lateStores }, { on := 8, ground := Go.Ground.phase }], guard := none }) rfl (by kernel_rfl) (fun K hK => ?_) AllReadyM.nil
      have s1 := F1.out.size
      have s2 := F2.out.size
      have s3 := F3.out.size
      have s4 := F4.out.size
      have lo := LO.out
      have X4 := F4.out.block XO.out
      obtain ⟨⟨y0, y1, y2⟩, g0, g1, g2⟩ := slot3 X4
      go_simp
      obtain ⟨z5, hw⟩ : ∃ x, x = setL z4 z2.heap.size 0 [.pointer p, .pointer q, .pointer r] := ⟨_, rfl⟩
      change K _ (setL z4 z2.heap.size 0 [.pointer p, .pointer q, .pointer r])
      rw [← hw]
      have XO5 := hid (show z5.heap[z2.heap.size]? = some (.cells #[.pointer p, .pointer q, .pointer r] 123) by rw [hw]; exact setL_all X4 [.pointer p, .pointer q, .pointer r] rfl)
      have HR5 := hid ((HR.out.ext (Ext.refl z4)).mono (w' := z5) (S' := Any) (fun b o hb ho => by rw [hw]; exact (setL_other (by obtain ⟨h1, h2⟩ := hb; have h1' : wd.heap.size ≤ b := h1; have h2' : b < z1.heap.size := h2; omega) _).trans ho) (fun _ _ _ => trivial))
      have HE5 := hid (show Ext w z5 by rw [hw]; exact setL_below (HEd.out.trans (((F1.out.trans F2.out).trans F3.out).trans F4.out)) (by have := HEd.out.size; omega) _ _)
      have X15 := hid (show z5.heap[w.heap.size + 2]? = some (.cells #[.string ⟨#[]⟩, .slice none 0 0, .slice none 0 0] 53) by rw [hw]; exact (setL_other (by have := HSd.out; omega) _).trans ((((F1.out.trans F2.out).trans F3.out).trans F4.out).block X2d.out))
      have HS5 := hid (show w.heap.size + 3 ≤ z5.heap.size by rw [hw]; have h := (setL_below (Below.refl 0 z4) (Nat.zero_le z2.heap.size) 0 [.pointer p, .pointer q, .pointer r]).size; have := HSd.out; omega)
      clear hw y0 y1 y2 g0 g1 g2 X4 s1 s2 s3 s4 lo
      obtain ⟨⟨y0, y1, y2⟩, g0, g1, g2⟩ := slot3 XO5.out
      refine hK.out _ _ ?_
      clear hK K
      (try simp only [Act.put, List.setIfInBounds_toArray, List.set_cons_zero, List.set_cons_succ])
      refine wpAnyM_takeY (i := 10) (oi := { dst := some 7, op := Go.Op.assign (Go.Operand.tmp 15), type := 4, pos := "schemas.go:11", after := #[{ on := 7, ground := Go.Ground.data }, { on := 9, ground := Go.Ground.chain }, { on := 0, ground := Go.Ground.phase }, { on := 1, ground := Go.Ground.phase }, { on := 2, ground := Go.Ground.phase }, { on := 3, ground := Go.Ground.phase }, { on := 4, ground := Go.Ground.phase }, { on := 5, ground := Go.Ground.phase }, { on := 6, ground := Go.Ground.phase }, { on := 7, ground := Go.Ground.phase }, { on := 8, ground := Go.Ground.phase }, { on := 9, ground := Go.Ground.phase }], guard := none }) (v := ?v20) rfl (by kernel_rfl) (fun _ _ _ h => h) (Or.inl ⟨by rfl, ?hy20⟩) (fun hcl => absurd (hcl 9 (by simp)) (by simp)) ?rest20
      case hy20 => (intro wz hSw; (try dsimp only at hSw); go_simp; try with_reducible rfl)
      (try simp only [Act.put, List.setIfInBounds_toArray, List.set_cons_zero, List.set_cons_succ])
      refine wpAnyM_done (by kernel_rfl) ?_ _
      go_upto_region 2 with fail
      go_wp2_with (go_at_call 80; refine (HBK.out _ _ HR5.out).mono ?_; rintro e w5 ⟨g', cs', rfl, hgt, hlk, hg, hE⟩; obtain ⟨a0, a1, a2, a3, a4, a5, a6, rfl⟩ := hg.formA hgt; have HG := hid (hg.weak (S' := fun b => b ≠ w.heap.size + 2) (fun b hb _ => by have hb' : z5.heap.size ≤ b := hb; have := HS5.out; omega)); have HGT := hid hgt; have HLK := hid hlk; have HE6 := hid (HE5.out.trans hE); have Y1 := hid (hE.block X15.out); clear hg hgt hlk hE y0 y1 y2 g0 g1 g2; obtain ⟨⟨y0, y1, y2⟩, g0, g1, g2⟩ := slot3 Y1.out)
      change bodyPost _ _ _ _ _ (setL w5 (w.heap.size + 2) 0 [.string a0, .slice a1 a2 a3, .slice a4 a5 a6])
      have e6 := setL_all Y1.out [.string a0, .slice a1 a2 a3, .slice a4 a5 a6] rfl
      have x6 := setL_below HE6.out (show w.heap.size ≤ (w.heap.size + 2) by omega) 0 [.string a0, .slice a1 a2 a3, .slice a4 a5 a6]
      have r6 := HG.out.mono (w' := setL w5 (w.heap.size + 2) 0 [.string a0, .slice a1 a2 a3, .slice a4 a5 a6]) (S' := Any) (fun b o hb ho => (setL_other (show b ≠ (w.heap.size + 2) from hb) _).trans ho) (fun _ _ _ => trivial)
      generalize setL w5 (w.heap.size + 2) 0 [.string a0, .slice a1 a2 a3, .slice a4 a5 a6] = WF at *
      clear y0 y1 y2
      obtain ⟨⟨y0, y1, y2⟩, -⟩ := slot3 e6
      exact bodyPost_ret (v := .tuple #[.agg #[.string a0, .slice a1 a2 a3, .slice a4 a5 a6], .bool (lastDef ts name).isSome]) (by simp [results, Try.results38, go_sem, y0, y1, y2]) rfl ⟨⟨g', _, _, _, rfl, HGT.out, HLK.out, r6⟩, x6⟩
    refine AllReadyM.cons (o := { dst := some 6, op := Go.Op.alloc 123, type := 0, pos := "schemas.go:11", after := #[], guard := none }) rfl (fun K hK => ?_) AllReadyM.nil
    go_simp
    have XO := hid (heap_alloc_new z1 (.cells #[.pointer none, .pointer none, .pointer none] 123))
    have F2 := hid ((Ext.refl z1).alloc (.cells #[.pointer none, .pointer none, .pointer none] 123))
    have LO := hid (show z1.heap.size < (z1.alloc (.cells #[.pointer none, .pointer none, .pointer none] 123)).heap.size by simp)
    generalize z1.alloc (.cells #[.pointer none, .pointer none, .pointer none] 123) = z2 at *
    refine hK.out _ _ ?hS21 (fun hHeld => ?_)
    case hS21 => (obtain ⟨⟨k0, k1, k2, k3, k4, k5⟩, -⟩ := slot6 ((F1.out.trans F2.out).block X1d.out); exact ⟨(cell_of_heap ((F1.out.trans F2.out).block X0d.out) 0).trans rfl, k0, k1, k2, k3, k4, k5⟩)
    clear hK K
    (try simp only [Act.put, List.setIfInBounds_toArray, List.set_cons_zero, List.set_cons_succ])
    refine wpAnyM_ready (rs := [3]) (by kernel_rfl) (by simp) ?_
    refine AllReadyM.cons (o := { dst := some 12, op := Go.Op.call { callee := Go.Callee.value (Go.Operand.func 82), args := #[Go.Operand.tmp 11], argTypes := #[55] }, type := 126, pos := "schemas.go:11", after := #[{ on := 2, ground := Go.Ground.data }, { on := 1, ground := Go.Ground.chain }], guard := none }) rfl (fun K hK => ?_) AllReadyM.nil
    refine step_call _ rfl 82 [.tmp 11] #[55] rfl (by kernel_rfl) [_] rfl (HTR.out z2) ?_
    rintro en z3 ⟨cs_, rfl, hT, hE⟩
    obtain ⟨nb, rfl, hnb⟩ := refN_form hT
    refine ⟨_, rfl, ?_⟩
    have HNB := hid hnb
    have F3 := hid hE
    clear hT hnb hE
    refine hK.out _ _ ?hS22 (fun hHeld => ?_)
    case hS22 => (obtain ⟨⟨k0, k1, k2, k3, k4, k5⟩, -⟩ := slot6 (((F1.out.trans F2.out).trans F3.out).block X1d.out); exact ⟨(cell_of_heap (((F1.out.trans F2.out).trans F3.out).block X0d.out) 0).trans rfl, k0, k1, k2, k3, k4, k5⟩)
    clear hK K
    (try simp only [Act.put, List.setIfInBounds_toArray, List.set_cons_zero, List.set_cons_succ])
    refine wpAnyM_ready (rs := [4]) (by kernel_rfl) (by simp) ?_
    refine AllReadyM.cons (o := { dst := some 13, op := Go.Op.call { callee := Go.Callee.value (Go.Operand.func 81), args := #[Go.Operand.tmp 10, Go.Operand.tmp 12], argTypes := #[135, 126] }, type := 144, pos := "schemas.go:11", after := #[{ on := 1, ground := Go.Ground.data }, { on := 3, ground := Go.Ground.data }, { on := 3, ground := Go.Ground.chain }], guard := none }) rfl (fun K hK => ?_) AllReadyM.nil
    refine step_call _ rfl 81 [.tmp 10, .tmp 12] #[135, 126] rfl (by kernel_rfl) [_, _] rfl (pkgResolve_any _ z3 b nb ts name (HP.out.ext (F2.out.trans F3.out)) ((Ext.refl z3).block HNB.out)) ?_
    rintro en z4 ⟨⟨p, q, r, rfl, hR⟩, hE⟩
    refine ⟨_, rfl, ?_⟩
    have HR := hid (hR.weak (fun b h _ => h.1))
    have F4 := hid hE
    clear hR hE
    refine hK.out _ _ ?hS23 (fun hHeld => ?_)
    case hS23 => (obtain ⟨⟨k0, k1, k2, k3, k4, k5⟩, -⟩ := slot6 ((((F1.out.trans F2.out).trans F3.out).trans F4.out).block X1d.out); exact ⟨(cell_of_heap ((((F1.out.trans F2.out).trans F3.out).trans F4.out).block X0d.out) 0).trans rfl, k0, k1, k2, k3, k4, k5⟩)
    clear hK K
    (try simp only [Act.put, List.setIfInBounds_toArray, List.set_cons_zero, List.set_cons_succ])
    refine wpAnyM_take (i := 5) (oi := { dst := some 8, op := Go.Op.move (Go.Operand.tmp 13), type := 144, pos := "schemas.go:11", after := #[{ on := 4, ground := Go.Ground.data }], guard := none }) (v := ?v24) rfl (by kernel_rfl) (fun _ _ _ h => h) (Or.inl ⟨by rfl, ?hy24⟩) (by assumption) ?rest24
    case hy24 => (intro wz hSw; (try dsimp only at hSw); go_simp; try with_reducible rfl)
    (try simp only [Act.put, List.setIfInBounds_toArray, List.set_cons_zero, List.set_cons_succ])
    refine wpAnyM_take (i := 6) (oi := { dst := some 14, op := Go.Op.extract (Go.Operand.tmp 8) 0, type := 123, pos := "schemas.go:11", after := #[{ on := 5, ground := Go.Ground.data }], guard := none }) (v := ?v25) rfl (by kernel_rfl) (fun _ _ _ h => h) (Or.inl ⟨by rfl, ?hy25⟩) (by assumption) ?rest25
    case hy25 => (intro wz hSw; (try dsimp only at hSw); go_simp; try with_reducible rfl)
    (try simp only [Act.put, List.setIfInBounds_toArray, List.set_cons_zero, List.set_cons_succ])
    refine wpAnyM_takeY (i := 7) (oi := { dst := some 15, op := Go.Op.extract (Go.Operand.tmp 8) 1, type := 4, pos := "schemas.go:11", after := #[{ on := 5, ground := Go.Ground.data }, { on := 9, ground := Go.Ground.gcOnly Go.Departure.lateStores }], guard := none }) (v := ?v26) rfl (by kernel_rfl) (fun _ _ _ h => h) (Or.inl ⟨by rfl, ?hy26⟩) (fun _ => by assumption) ?rest26
    case hy26 => (intro wz hSw; (try dsimp only at hSw); go_simp; try with_reducible rfl)
    (try simp only [Act.put, List.setIfInBounds_toArray, List.set_cons_zero, List.set_cons_succ])
    refine wpAnyM_ready (rs := [9]) (by kernel_rfl) (by simp) ?_
    refine AllReadyM.behind (o := { dst := none, op := Go.Op.store 123 (Go.Operand.tmp 6) (Go.Operand.tmp 14), type := 0, pos := "schemas.go:11", after := #[{ on := 8, ground := Go.Ground.data }, { on := 6, ground := Go.Ground.data }, { on := 4, ground := Go.Ground.chain }, { on := 0, ground := Go.Ground.phase }, { on := 1, ground := Go.Ground.phase }, { on := 2, ground := Go.Ground.phase }, { on := 3, ground := Go.Ground.phase }, { on := 4, ground := Go.Ground.phase }, { on := 5, ground := Go.Ground.phase }, { on := 6, ground := Go.Ground.phase }, { on := 7, ground := Go.Ground.textOnly Go.Departure.lateStores }, { on := 8, ground := Go.Ground.phase }], guard := none }) rfl (by kernel_rfl) (fun K hK => ?_) AllReadyM.nil
    have s1 := F1.out.size
    have s2 := F2.out.size
    have s3 := F3.out.size
    have s4 := F4.out.size
    have lo := LO.out
    have X4 := (F3.out.trans F4.out).block XO.out
    obtain ⟨⟨y0, y1, y2⟩, g0, g1, g2⟩ := slot3 X4
    go_simp
    obtain ⟨z5, hw⟩ : ∃ x, x = setL z4 z1.heap.size 0 [.pointer p, .pointer q, .pointer r] := ⟨_, rfl⟩
    change K _ (setL z4 z1.heap.size 0 [.pointer p, .pointer q, .pointer r])
    rw [← hw]
    have XO5 := hid (show z5.heap[z1.heap.size]? = some (.cells #[.pointer p, .pointer q, .pointer r] 123) by rw [hw]; exact setL_all X4 [.pointer p, .pointer q, .pointer r] rfl)
    have HR5 := hid ((HR.out.ext (Ext.refl z4)).mono (w' := z5) (S' := Any) (fun b o hb ho => by rw [hw]; exact (setL_other (by obtain ⟨h1, h2⟩ := hb; have h1' : wd.heap.size ≤ b := h1; have h2' : b < z1.heap.size := h2; omega) _).trans ho) (fun _ _ _ => trivial))
    have HE5 := hid (show Ext w z5 by rw [hw]; exact setL_below (HEd.out.trans (((F1.out.trans F2.out).trans F3.out).trans F4.out)) (by have := HEd.out.size; omega) _ _)
    have X15 := hid (show z5.heap[w.heap.size + 2]? = some (.cells #[.string ⟨#[]⟩, .slice none 0 0, .slice none 0 0] 53) by rw [hw]; exact (setL_other (by have := HSd.out; omega) _).trans ((((F1.out.trans F2.out).trans F3.out).trans F4.out).block X2d.out))
    have HS5 := hid (show w.heap.size + 3 ≤ z5.heap.size by rw [hw]; have h := (setL_below (Below.refl 0 z4) (Nat.zero_le z1.heap.size) 0 [.pointer p, .pointer q, .pointer r]).size; have := HSd.out; omega)
    clear hw y0 y1 y2 g0 g1 g2 X4 s1 s2 s3 s4 lo
    obtain ⟨⟨y0, y1, y2⟩, g0, g1, g2⟩ := slot3 XO5.out
    refine hK.out _ _ ?_
    clear hK K
    (try simp only [Act.put, List.setIfInBounds_toArray, List.set_cons_zero, List.set_cons_succ])
    refine wpAnyM_takeY (i := 10) (oi := { dst := some 7, op := Go.Op.assign (Go.Operand.tmp 15), type := 4, pos := "schemas.go:11", after := #[{ on := 7, ground := Go.Ground.data }, { on := 9, ground := Go.Ground.chain }, { on := 0, ground := Go.Ground.phase }, { on := 1, ground := Go.Ground.phase }, { on := 2, ground := Go.Ground.phase }, { on := 3, ground := Go.Ground.phase }, { on := 4, ground := Go.Ground.phase }, { on := 5, ground := Go.Ground.phase }, { on := 6, ground := Go.Ground.phase }, { on := 7, ground := Go.Ground.phase }, { on := 8, ground := Go.Ground.phase }, { on := 9, ground := Go.Ground.phase }], guard := none }) (v := ?v27) rfl (by kernel_rfl) (fun _ _ _ h => h) (Or.inl ⟨by rfl, ?hy27⟩) (fun hcl => absurd (hcl 9 (by simp)) (by simp)) ?rest27
    case hy27 => (intro wz hSw; (try dsimp only at hSw); go_simp; try with_reducible rfl)
    (try simp only [Act.put, List.setIfInBounds_toArray, List.set_cons_zero, List.set_cons_succ])
    refine wpAnyM_done (by kernel_rfl) ?_ _
    go_upto_region 2 with fail
    go_wp2_with (go_at_call 80; refine (HBK.out _ _ HR5.out).mono ?_; rintro e w5 ⟨g', cs', rfl, hgt, hlk, hg, hE⟩; obtain ⟨a0, a1, a2, a3, a4, a5, a6, rfl⟩ := hg.formA hgt; have HG := hid (hg.weak (S' := fun b => b ≠ w.heap.size + 2) (fun b hb _ => by have hb' : z5.heap.size ≤ b := hb; have := HS5.out; omega)); have HGT := hid hgt; have HLK := hid hlk; have HE6 := hid (HE5.out.trans hE); have Y1 := hid (hE.block X15.out); clear hg hgt hlk hE y0 y1 y2 g0 g1 g2; obtain ⟨⟨y0, y1, y2⟩, g0, g1, g2⟩ := slot3 Y1.out)
    change bodyPost _ _ _ _ _ (setL w5 (w.heap.size + 2) 0 [.string a0, .slice a1 a2 a3, .slice a4 a5 a6])
    have e6 := setL_all Y1.out [.string a0, .slice a1 a2 a3, .slice a4 a5 a6] rfl
    have x6 := setL_below HE6.out (show w.heap.size ≤ (w.heap.size + 2) by omega) 0 [.string a0, .slice a1 a2 a3, .slice a4 a5 a6]
    have r6 := HG.out.mono (w' := setL w5 (w.heap.size + 2) 0 [.string a0, .slice a1 a2 a3, .slice a4 a5 a6]) (S' := Any) (fun b o hb ho => (setL_other (show b ≠ (w.heap.size + 2) from hb) _).trans ho) (fun _ _ _ => trivial)
    generalize setL w5 (w.heap.size + 2) 0 [.string a0, .slice a1 a2 a3, .slice a4 a5 a6] = WF at *
    clear y0 y1 y2
    obtain ⟨⟨y0, y1, y2⟩, -⟩ := slot3 e6
    exact bodyPost_ret (v := .tuple #[.agg #[.string a0, .slice a1 a2 a3, .slice a4 a5 a6], .bool (lastDef ts name).isSome]) (by simp [results, Try.results38, go_sem, y0, y1, y2]) rfl ⟨⟨g', _, _, _, rfl, HGT.out, HLK.out, r6⟩, x6⟩
  refine AllReadyM.cons (o := { dst := some 6, op := Go.Op.alloc 123, type := 0, pos := "schemas.go:11", after := #[], guard := none }) rfl (fun K hK => ?_) AllReadyM.nil
  go_simp
  have XO := hid (heap_alloc_new wd (.cells #[.pointer none, .pointer none, .pointer none] 123))
  have F1 := hid ((Ext.refl wd).alloc (.cells #[.pointer none, .pointer none, .pointer none] 123))
  have LO := hid (show wd.heap.size < (wd.alloc (.cells #[.pointer none, .pointer none, .pointer none] 123)).heap.size by simp)
  generalize wd.alloc (.cells #[.pointer none, .pointer none, .pointer none] 123) = z1 at *
  refine hK.out _ _ ?hS28 (fun hHeld => ?_)
  case hS28 => (obtain ⟨⟨k0, k1, k2, k3, k4, k5⟩, -⟩ := slot6 (F1.out.block X1d.out); exact ⟨(cell_of_heap (F1.out.block X0d.out) 0).trans rfl, k0, k1, k2, k3, k4, k5⟩)
  clear hK K
  (try simp only [Act.put, List.setIfInBounds_toArray, List.set_cons_zero, List.set_cons_succ])
  refine wpAnyM_ready (rs := [1]) (by kernel_rfl) (by simp) ?_
  refine AllReadyM.cons (o := { dst := some 10, op := Go.Op.call { callee := Go.Callee.value (Go.Operand.func 76), args := #[Go.Operand.tmp 9], argTypes := #[62] }, type := 135, pos := "schemas.go:11", after := #[{ on := 0, ground := Go.Ground.data }], guard := none }) rfl (fun K hK => ?_) AllReadyM.nil
  refine step_call _ rfl 76 [.tmp 9] #[62] rfl (by kernel_rfl) [_] rfl (HT.out z1 (HEd.out.trans F1.out)) ?_
  rintro en z2 ⟨⟨b, rfl, hb, hP⟩, hE⟩
  refine ⟨_, rfl, ?_⟩
  have HP := hid hP.below
  have F2 := hid hE
  clear hb hP hE
  refine hK.out _ _ ?hS29 (fun hHeld => ?_)
  case hS29 => (obtain ⟨⟨k0, k1, k2, k3, k4, k5⟩, -⟩ := slot6 ((F1.out.trans F2.out).block X1d.out); exact ⟨(cell_of_heap ((F1.out.trans F2.out).block X0d.out) 0).trans rfl, k0, k1, k2, k3, k4, k5⟩)
  clear hK K
  (try simp only [Act.put, List.setIfInBounds_toArray, List.set_cons_zero, List.set_cons_succ])
  refine wpAnyM_ready (rs := [3]) (by kernel_rfl) (by simp) ?_
  refine AllReadyM.cons (o := { dst := some 12, op := Go.Op.call { callee := Go.Callee.value (Go.Operand.func 82), args := #[Go.Operand.tmp 11], argTypes := #[55] }, type := 126, pos := "schemas.go:11", after := #[{ on := 2, ground := Go.Ground.data }, { on := 1, ground := Go.Ground.chain }], guard := none }) rfl (fun K hK => ?_) AllReadyM.nil
  refine step_call _ rfl 82 [.tmp 11] #[55] rfl (by kernel_rfl) [_] rfl (HTR.out z2) ?_
  rintro en z3 ⟨cs_, rfl, hT, hE⟩
  obtain ⟨nb, rfl, hnb⟩ := refN_form hT
  refine ⟨_, rfl, ?_⟩
  have HNB := hid hnb
  have F3 := hid hE
  clear hT hnb hE
  refine hK.out _ _ ?hS30 (fun hHeld => ?_)
  case hS30 => (obtain ⟨⟨k0, k1, k2, k3, k4, k5⟩, -⟩ := slot6 (((F1.out.trans F2.out).trans F3.out).block X1d.out); exact ⟨(cell_of_heap (((F1.out.trans F2.out).trans F3.out).block X0d.out) 0).trans rfl, k0, k1, k2, k3, k4, k5⟩)
  clear hK K
  (try simp only [Act.put, List.setIfInBounds_toArray, List.set_cons_zero, List.set_cons_succ])
  refine wpAnyM_ready (rs := [4]) (by kernel_rfl) (by simp) ?_
  refine AllReadyM.cons (o := { dst := some 13, op := Go.Op.call { callee := Go.Callee.value (Go.Operand.func 81), args := #[Go.Operand.tmp 10, Go.Operand.tmp 12], argTypes := #[135, 126] }, type := 144, pos := "schemas.go:11", after := #[{ on := 1, ground := Go.Ground.data }, { on := 3, ground := Go.Ground.data }, { on := 3, ground := Go.Ground.chain }], guard := none }) rfl (fun K hK => ?_) AllReadyM.nil
  refine step_call _ rfl 81 [.tmp 10, .tmp 12] #[135, 126] rfl (by kernel_rfl) [_, _] rfl (pkgResolve_any _ z3 b nb ts name (HP.out.ext F3.out) ((Ext.refl z3).block HNB.out)) ?_
  rintro en z4 ⟨⟨p, q, r, rfl, hR⟩, hE⟩
  refine ⟨_, rfl, ?_⟩
  have HR := hid (hR.weak (fun b h _ => h.1))
  have F4 := hid hE
  clear hR hE
  refine hK.out _ _ ?hS31 (fun hHeld => ?_)
  case hS31 => (obtain ⟨⟨k0, k1, k2, k3, k4, k5⟩, -⟩ := slot6 ((((F1.out.trans F2.out).trans F3.out).trans F4.out).block X1d.out); exact ⟨(cell_of_heap ((((F1.out.trans F2.out).trans F3.out).trans F4.out).block X0d.out) 0).trans rfl, k0, k1, k2, k3, k4, k5⟩)
  clear hK K
  (try simp only [Act.put, List.setIfInBounds_toArray, List.set_cons_zero, List.set_cons_succ])
  refine wpAnyM_take (i := 5) (oi := { dst := some 8, op := Go.Op.move (Go.Operand.tmp 13), type := 144, pos := "schemas.go:11", after := #[{ on := 4, ground := Go.Ground.data }], guard := none }) (v := ?v32) rfl (by kernel_rfl) (fun _ _ _ h => h) (Or.inl ⟨by rfl, ?hy32⟩) (by assumption) ?rest32
  case hy32 => (intro wz hSw; (try dsimp only at hSw); go_simp; try with_reducible rfl)
  (try simp only [Act.put, List.setIfInBounds_toArray, List.set_cons_zero, List.set_cons_succ])
  refine wpAnyM_take (i := 6) (oi := { dst := some 14, op := Go.Op.extract (Go.Operand.tmp 8) 0, type := 123, pos := "schemas.go:11", after := #[{ on := 5, ground := Go.Ground.data }], guard := none }) (v := ?v33) rfl (by kernel_rfl) (fun _ _ _ h => h) (Or.inl ⟨by rfl, ?hy33⟩) (by assumption) ?rest33
  case hy33 => (intro wz hSw; (try dsimp only at hSw); go_simp; try with_reducible rfl)
  (try simp only [Act.put, List.setIfInBounds_toArray, List.set_cons_zero, List.set_cons_succ])
  refine wpAnyM_takeY (i := 7) (oi := { dst := some 15, op := Go.Op.extract (Go.Operand.tmp 8) 1, type := 4, pos := "schemas.go:11", after := #[{ on := 5, ground := Go.Ground.data }, { on := 9, ground := Go.Ground.gcOnly Go.Departure.lateStores }], guard := none }) (v := ?v34) rfl (by kernel_rfl) (fun _ _ _ h => h) (Or.inl ⟨by rfl, ?hy34⟩) (fun _ => by assumption) ?rest34
  case hy34 => (intro wz hSw; (try dsimp only at hSw); go_simp; try with_reducible rfl)
  (try simp only [Act.put, List.setIfInBounds_toArray, List.set_cons_zero, List.set_cons_succ])
  refine wpAnyM_ready (rs := [9]) (by kernel_rfl) (by simp) ?_
  refine AllReadyM.behind (o := { dst := none, op := Go.Op.store 123 (Go.Operand.tmp 6) (Go.Operand.tmp 14), type := 0, pos := "schemas.go:11", after := #[{ on := 8, ground := Go.Ground.data }, { on := 6, ground := Go.Ground.data }, { on := 4, ground := Go.Ground.chain }, { on := 0, ground := Go.Ground.phase }, { on := 1, ground := Go.Ground.phase }, { on := 2, ground := Go.Ground.phase }, { on := 3, ground := Go.Ground.phase }, { on := 4, ground := Go.Ground.phase }, { on := 5, ground := Go.Ground.phase }, { on := 6, ground := Go.Ground.phase }, { on := 7, ground := Go.Ground.textOnly Go.Departure.lateStores }, { on := 8, ground := Go.Ground.phase }], guard := none }) rfl (by kernel_rfl) (fun K hK => ?_) AllReadyM.nil
  have s1 := F1.out.size
  have s2 := F2.out.size
  have s3 := F3.out.size
  have s4 := F4.out.size
  have lo := LO.out
  have X4 := ((F2.out.trans F3.out).trans F4.out).block XO.out
  obtain ⟨⟨y0, y1, y2⟩, g0, g1, g2⟩ := slot3 X4
  go_simp
  obtain ⟨z5, hw⟩ : ∃ x, x = setL z4 wd.heap.size 0 [.pointer p, .pointer q, .pointer r] := ⟨_, rfl⟩
  change K _ (setL z4 wd.heap.size 0 [.pointer p, .pointer q, .pointer r])
  rw [← hw]
  have XO5 := hid (show z5.heap[wd.heap.size]? = some (.cells #[.pointer p, .pointer q, .pointer r] 123) by rw [hw]; exact setL_all X4 [.pointer p, .pointer q, .pointer r] rfl)
  have HR5 := hid ((HR.out.ext (Ext.refl z4)).mono (w' := z5) (S' := Any) (fun b o hb ho => by rw [hw]; exact (setL_other (by obtain ⟨h1, h2⟩ := hb; have h1' : z1.heap.size ≤ b := h1; have h2' : b < z2.heap.size := h2; omega) _).trans ho) (fun _ _ _ => trivial))
  have HE5 := hid (show Ext w z5 by rw [hw]; exact setL_below (HEd.out.trans (((F1.out.trans F2.out).trans F3.out).trans F4.out)) (by have := HEd.out.size; omega) _ _)
  have X15 := hid (show z5.heap[w.heap.size + 2]? = some (.cells #[.string ⟨#[]⟩, .slice none 0 0, .slice none 0 0] 53) by rw [hw]; exact (setL_other (by have := HSd.out; omega) _).trans ((((F1.out.trans F2.out).trans F3.out).trans F4.out).block X2d.out))
  have HS5 := hid (show w.heap.size + 3 ≤ z5.heap.size by rw [hw]; have h := (setL_below (Below.refl 0 z4) (Nat.zero_le wd.heap.size) 0 [.pointer p, .pointer q, .pointer r]).size; have := HSd.out; omega)
  clear hw y0 y1 y2 g0 g1 g2 X4 s1 s2 s3 s4 lo
  obtain ⟨⟨y0, y1, y2⟩, g0, g1, g2⟩ := slot3 XO5.out
  refine hK.out _ _ ?_
  clear hK K
  (try simp only [Act.put, List.setIfInBounds_toArray, List.set_cons_zero, List.set_cons_succ])
  refine wpAnyM_takeY (i := 10) (oi := { dst := some 7, op := Go.Op.assign (Go.Operand.tmp 15), type := 4, pos := "schemas.go:11", after := #[{ on := 7, ground := Go.Ground.data }, { on := 9, ground := Go.Ground.chain }, { on := 0, ground := Go.Ground.phase }, { on := 1, ground := Go.Ground.phase }, { on := 2, ground := Go.Ground.phase }, { on := 3, ground := Go.Ground.phase }, { on := 4, ground := Go.Ground.phase }, { on := 5, ground := Go.Ground.phase }, { on := 6, ground := Go.Ground.phase }, { on := 7, ground := Go.Ground.phase }, { on := 8, ground := Go.Ground.phase }, { on := 9, ground := Go.Ground.phase }], guard := none }) (v := ?v35) rfl (by kernel_rfl) (fun _ _ _ h => h) (Or.inl ⟨by rfl, ?hy35⟩) (fun hcl => absurd (hcl 9 (by simp)) (by simp)) ?rest35
  case hy35 => (intro wz hSw; (try dsimp only at hSw); go_simp; try with_reducible rfl)
  (try simp only [Act.put, List.setIfInBounds_toArray, List.set_cons_zero, List.set_cons_succ])
  refine wpAnyM_done (by kernel_rfl) ?_ _
  go_upto_region 2 with fail
  go_wp2_with (go_at_call 80; refine (HBK.out _ _ HR5.out).mono ?_; rintro e w5 ⟨g', cs', rfl, hgt, hlk, hg, hE⟩; obtain ⟨a0, a1, a2, a3, a4, a5, a6, rfl⟩ := hg.formA hgt; have HG := hid (hg.weak (S' := fun b => b ≠ w.heap.size + 2) (fun b hb _ => by have hb' : z5.heap.size ≤ b := hb; have := HS5.out; omega)); have HGT := hid hgt; have HLK := hid hlk; have HE6 := hid (HE5.out.trans hE); have Y1 := hid (hE.block X15.out); clear hg hgt hlk hE y0 y1 y2 g0 g1 g2; obtain ⟨⟨y0, y1, y2⟩, g0, g1, g2⟩ := slot3 Y1.out)
  change bodyPost _ _ _ _ _ (setL w5 (w.heap.size + 2) 0 [.string a0, .slice a1 a2 a3, .slice a4 a5 a6])
  have e6 := setL_all Y1.out [.string a0, .slice a1 a2 a3, .slice a4 a5 a6] rfl
  have x6 := setL_below HE6.out (show w.heap.size ≤ (w.heap.size + 2) by omega) 0 [.string a0, .slice a1 a2 a3, .slice a4 a5 a6]
  have r6 := HG.out.mono (w' := setL w5 (w.heap.size + 2) 0 [.string a0, .slice a1 a2 a3, .slice a4 a5 a6]) (S' := Any) (fun b o hb ho => (setL_other (show b ≠ (w.heap.size + 2) from hb) _).trans ho) (fun _ _ _ => trivial)
  generalize setL w5 (w.heap.size + 2) 0 [.string a0, .slice a1 a2 a3, .slice a4 a5 a6] = WF at *
  clear y0 y1 y2
  obtain ⟨⟨y0, y1, y2⟩, -⟩ := slot3 e6
  exact bodyPost_ret (v := .tuple #[.agg #[.string a0, .slice a1 a2 a3, .slice a4 a5 a6], .bool (lastDef ts name).isSome]) (by simp [results, Try.results38, go_sem, y0, y1, y2]) rfl ⟨⟨g', _, _, _, rfl, HGT.out, HLK.out, r6⟩, x6⟩
end Go.Proofs.Ytempfaefopfobaa
