/- ItemA: spec.ItemElem. -/
import Derived.Test.YtempfaefopfobaaDoorItemG
import Derived.Test.YtempfaefopfobaaDoorSameElem

set_option maxRecDepth 100000
namespace Go.Proofs.YtempfaefopfobaaDoor
open Go.ChangeShapes Go.WideShapes Go.ChangeAt Go.RowKit
set_option linter.unusedVariables false
set_option linter.unusedSimpArgs false

theorem kcases (x : Tree) : (scalT x = false ∧ (fromT x).kind = 0) ∨ (scalT x = false ∧ (fromT x).kind = 5) ∨ (scalT x = false ∧ (fromT x).kind = 6) ∨ (scalT x = true ∧ ((fromT x).kind == 0) = false ∧ ((fromT x).kind == 5) = false ∧ ((fromT x).kind == 6) = false) := by
  cases x <;> first | exact .inl ⟨rfl, rfl⟩ | exact .inr (.inl ⟨rfl, rfl⟩) | exact .inr (.inr (.inl ⟨rfl, rfl⟩)) | exact .inr (.inr (.inr ⟨rfl, rfl, rfl, rfl⟩))
theorem putE' {w W : World} {R : Nat} {cs vs : List Value} {e : GE} {t : TypeId} (hx : W.heap[R]? = some (.cells cs.toArray t)) (hl : vs.length = cs.length) (hR : w.heap.size ≤ R) (hE : Ext w W) (hG : RepGE (fun b => w.heap.size ≤ b ∧ b ≠ R) W e vs)
    (WF : World) (hWF : WF = setL W R 0 vs) : WF.heap[R]? = some (.cells vs.toArray t) ∧ RepGE (fun b => w.heap.size ≤ b) WF e vs ∧ Ext w WF := by
  subst hWF
  exact ⟨setL_all hx vs hl, hG.mono (fun b o hb ho => (setL_other hb.2 _).trans ho) (fun b hb _ => hb.1), setL_below hE hR _ _⟩
theorem cand_ix0 (W : World) : (Instr.index 46 (.agg #[.string ⟨#[105, 100]⟩, .string ⟨#[107, 101, 121]⟩, .string ⟨#[110, 97, 109, 101]⟩]) (.int .i64 (((0 : Nat) : Int)))).run Tryd.prog W = .ok (.string ⟨#[105, 100]⟩) W := by kernel_rfl
theorem cand_ix1 (W : World) : (Instr.index 46 (.agg #[.string ⟨#[105, 100]⟩, .string ⟨#[107, 101, 121]⟩, .string ⟨#[110, 97, 109, 101]⟩]) (.int .i64 (((1 : Nat) : Int)))).run Tryd.prog W = .ok (.string ⟨#[107, 101, 121]⟩) W := by kernel_rfl
theorem cand_ix2 (W : World) : (Instr.index 46 (.agg #[.string ⟨#[105, 100]⟩, .string ⟨#[107, 101, 121]⟩, .string ⟨#[110, 97, 109, 101]⟩]) (.int .i64 (((2 : Nat) : Int)))).run Tryd.prog W = .ok (.string ⟨#[110, 97, 109, 101]⟩) W := by kernel_rfl
theorem cand_ix (k : Nat) (s : ByteArray) (h : candS[k]? = some s) (W : World) : (Instr.index 46 (.agg #[.string ⟨#[105, 100]⟩, .string ⟨#[107, 101, 121]⟩, .string ⟨#[110, 97, 109, 101]⟩]) (.int .i64 k)).run Tryd.prog W = .ok (.string s) W := by
  match k, h with
  | 0, h => obtain rfl := Option.some.inj h; exact cand_ix0 W
  | 1, h => obtain rfl := Option.some.inj h; exact cand_ix1 W
  | 2, h => obtain rfl := Option.some.inj h; exact cand_ix2 W
theorem candS_size {k : Nat} {s : ByteArray} (h : candS[k]? = some s) : s.size ≤ 140737488351232 := by
  have : ∀ x ∈ candS, x.size ≤ 140737488351232 := by decide +kernel
  exact this s (List.mem_of_getElem? h)
set_option maxHeartbeats 4000000 in
theorem itemElem_any (g : GV) (cs : List Value) (n : Int) (hn : (Lit.int .i64 n).wf = true) (w : World) (hR : RepGV Any w g cs) :
    Calls Tryd.prog 6 #[.int .i64 n, .agg cs.toArray] w fun en w' => ∃ cs', en = .returned (.agg cs'.toArray) ∧ RepGE (fun b => w.heap.size ≤ b) w' (fromEl (itemEl n (plainT g))) cs' ∧ Ext w w' := by
  have HR := hid hR
  obtain ⟨c1, c2, c3, c4, c5, c6, c7, c8, c9, c10, rfl⟩ := hR.form
  have HN := hid hn
  obtain ⟨is, his, hs0, hs1, hs2⟩ := info_parts infoStr
  obtain ⟨i0, hi, hz0, hz1, hz2⟩ := info_parts info_val
  clear hR hn
  go_enter Tryd.func6, Tryd.ntmps6
  go_upto_region 1 with fail
  have HX0 := hid (first_heap w (.cells #[.int .i64 c1, .int .i64 c2, .float .f64 c3, .string c4, .slice c5 c6 c7, .slice c8 c9 c10] 26) (.cells #[.int .i64 0, .string ⟨#[]⟩, .slice none 0 0, .slice none 0 0, .int .i64 0, .int .i64 0, .float .f64 0, .string ⟨#[]⟩, .slice none 0 0, .slice none 0 0, .int .i64 0] 29))
  have HX1 := hid (second_heap w (.cells #[.int .i64 c1, .int .i64 c2, .float .f64 c3, .string c4, .slice c5 c6 c7, .slice c8 c9 c10] 26) (.cells #[.int .i64 0, .string ⟨#[]⟩, .slice none 0 0, .slice none 0 0, .int .i64 0, .int .i64 0, .float .f64 0, .string ⟨#[]⟩, .slice none 0 0, .slice none 0 0, .int .i64 0] 29))
  have HE1 := hid (((Ext.refl w).alloc (.cells #[.int .i64 c1, .int .i64 c2, .float .f64 c3, .string c4, .slice c5 c6 c7, .slice c8 c9 c10] 26)).alloc (.cells #[.int .i64 0, .string ⟨#[]⟩, .slice none 0 0, .slice none 0 0, .int .i64 0, .int .i64 0, .float .f64 0, .string ⟨#[]⟩, .slice none 0 0, .slice none 0 0, .int .i64 0] 29))
  have HSZ := hid (show ((w.alloc (.cells #[.int .i64 c1, .int .i64 c2, .float .f64 c3, .string c4, .slice c5 c6 c7, .slice c8 c9 c10] 26)).alloc (.cells #[.int .i64 0, .string ⟨#[]⟩, .slice none 0 0, .slice none 0 0, .int .i64 0, .int .i64 0, .float .f64 0, .string ⟨#[]⟩, .slice none 0 0, .slice none 0 0, .int .i64 0] 29)).heap.size = w.heap.size + 2 by simp)
  generalize ((w.alloc (.cells #[.int .i64 c1, .int .i64 c2, .float .f64 c3, .string c4, .slice c5 c6 c7, .slice c8 c9 c10] 26)).alloc (.cells #[.int .i64 0, .string ⟨#[]⟩, .slice none 0 0, .slice none 0 0, .int .i64 0, .int .i64 0, .float .f64 0, .string ⟨#[]⟩, .slice none 0 0, .slice none 0 0, .int .i64 0] 29)) = w1 at *
  obtain ⟨⟨q0, q1, q2, q3, q4, q5⟩, p0, p1, p2, p3, p4, p5⟩ := slot6 HX0.out
  have CC := hid (fun W x hx => clean_any g W x hx)
  go_upto_region 2 with (go_at_call 12; refine (CC.out _ _ (HR.out.ext HE1.out)).mono ?_; rintro e w2 ⟨cs2, rfl, hT, hE⟩; obtain ⟨o1, o2, o3, o4, o5, o6, o7, o8, o9, o10, rfl⟩ := hT.form; have HT := hid hT; have HE2 := hid hE; have Y0 := hid (hE.block HX0.out); have Y1 := hid (hE.block HX1.out); clear q0 q1 q2 q3 q4 q5 p0 p1 p2 p3 p4 p5; obtain ⟨⟨q0, q1, q2, q3, q4, q5⟩, p0, p1, p2, p3, p4, p5⟩ := slot6 (hE.block HX0.out); clear hT hE)
  change Code.wp _ _ _ _ (set6 w2 w.heap.size (.int .i64 o1) (.int .i64 o2) (.float .f64 o3) (.string o4) (.slice o5 o6 o7) (.slice o8 o9 o10))
  have S3 := hid (show (set6 w2 w.heap.size (.int .i64 o1) (.int .i64 o2) (.float .f64 o3) (.string o4) (.slice o5 o6 o7) (.slice o8 o9 o10)).heap.size = w2.heap.size by simp [set6])
  have V3 := hid (set6_heap Y0.out (.int .i64 o1) (.int .i64 o2) (.float .f64 o3) (.string o4) (.slice o5 o6 o7) (.slice o8 o9 o10))
  have HT3 := hid (HT.out.mono (w' := set6 w2 w.heap.size (.int .i64 o1) (.int .i64 o2) (.float .f64 o3) (.string o4) (.slice o5 o6 o7) (.slice o8 o9 o10)) (S' := fun b => w.heap.size + 2 ≤ b ∧ b < (set6 w2 w.heap.size (.int .i64 o1) (.int .i64 o2) (.float .f64 o3) (.string o4) (.slice o5 o6 o7) (.slice o8 o9 o10)).heap.size) (fun b o hb ho => (set6_other (by have := HSZ.out; have hb' : w1.heap.size ≤ b := hb; omega) _ _ _ _ _ _).trans ho) (fun b hb hlt => ⟨by have := HSZ.out; have hb' : w1.heap.size ≤ b := hb; omega, by rw [S3.out]; exact hlt⟩))
  have R3 := hid ((set6_other (show w.heap.size + 1 ≠ w.heap.size by omega) (.int .i64 o1) (.int .i64 o2) (.float .f64 o3) (.string o4) (.slice o5 o6 o7) (.slice o8 o9 o10)).trans Y1.out)
  have E3 := hid (set6_below (HE1.out.trans HE2.out) (Nat.le_refl w.heap.size) (.int .i64 o1) (.int .i64 o2) (.float .f64 o3) (.string o4) (.slice o5 o6 o7) (.slice o8 o9 o10))
  have L3 := hid (show w.heap.size + 2 ≤ (set6 w2 w.heap.size (.int .i64 o1) (.int .i64 o2) (.float .f64 o3) (.string o4) (.slice o5 o6 o7) (.slice o8 o9 o10)).heap.size by rw [S3.out]; have := HSZ.out; have := HE2.out.size; omega)
  generalize set6 w2 w.heap.size (.int .i64 o1) (.int .i64 o2) (.float .f64 o3) (.string o4) (.slice o5 o6 o7) (.slice o8 o9 o10) = w3 at *
  clear q0 q1 q2 q3 q4 q5 p0 p1 p2 p3 p4 p5 HT HE1 HE2 Y0 Y1 HX0 HX1 HSZ S3 CC HR
  go_wp2_with fail
  generalize ht : plainT g = t at *
  have HTG := hid ht
  go_loopw [14] (fun i wr => ∃ (k n : Nat) (kv lv : Value) (ks : List ByteArray) (xs : List Value) (gs : List GV), i = .int .i64 k ∧ k ≤ 3 ∧ n ≤ 3 ∧ Hid (ks = (itemFs t (candS.take k)).map (·.1) ∧ gs = (itemFs t (candS.take k)).map (fun p => fromT p.2)) ∧ Hid (n = (itemFs t (candS.take k)).length) ∧ Hid (EA w3 wr (fun b => w.heap.size + 2 ≤ b) w3.heap.size (w.heap.size + 1) kv lv n n ks xs gs)) (fun i _ => 3 - (intOf i).toNat)
  case atStart => exact ⟨0, 0, .slice none 0 0, .slice none 0 0, [], [], [], rfl, by omega, by omega, hid ⟨rfl, rfl⟩, hid rfl, hid ⟨(Ext.refl _).alloc _, heap_alloc_new _ _, by simp, World.ownsRow_nil _ _ _ _, World.ownsRow_nil _ _ _ _, RowGV.nil _ _⟩⟩
  case round =>
    obtain ⟨k, n', kv, lv, ks, xs, gs, rfl, hk, hn3, HQ, HN', HO⟩ := hrel
    obtain ⟨ka, kc, rfl⟩ := own_form HO.out.krow
    obtain ⟨la, lc, rfl⟩ := own_form HO.out.lrow
    have HV := hid ((Below.block HO.out.below w.heap.size (by have := L3.out; omega)).trans V3.out)
    have HRB := hid ((Below.block HO.out.below (w.heap.size + 1) (by have := L3.out; omega)).trans R3.out)
    by_cases h1 : k < 3
    · obtain ⟨s, hs⟩ : ∃ s, candS[k]? = some s := ⟨_, List.getElem?_eq_getElem (show k < candS.length from h1)⟩
      have HIX := cand_ix k s hs
      have HS := hid hs
      have hi1 : (k : Int) < 3 := by omega
      have HTK := hid (show itemFs t (candS.take (k + 1)) = itemFs t (candS.take k) ++ oneT t s by rw [take_snoc' hs, itemFs_snoc])
      have FC := hid (fieldC (fun b => w.heap.size + 2 ≤ b ∧ b < w3.heap.size) g s wr _ (by refine HT3.out.mono (fun b o hb ho => (Below.block HO.out.below b hb.2).trans ho) (fun b hb _ => hb)))
      rw [ht] at FC
      obtain ⟨⟨q0, q1, q2, q3, q4, q5⟩, p0, p1, p2, p3, p4, p5⟩ := slot6 HV.out
      clear hs
      cases hf : fieldT t s with
      | none =>
        rw [hf] at FC
        have HNX := hid ((HTK.out).trans (by rw [oneT_none hf, List.append_nil]))
        clear hf
        go_wp2_with (go_at_call 13; refine (show Calls Tryd.prog 13 _ _ fun e w' => ∃ cs', e = .returned (.tuple #[.agg cs'.toArray, .bool false]) ∧ RepGV (fun b => w.heap.size + 2 ≤ b ∧ b < w3.heap.size) w' zeroG cs' ∧ Ext wr w' from FC.out).mono ?_; rintro e w5 ⟨cs5, rfl, hX, hE⟩; obtain ⟨r2, r3, r4, r5, r6, r7, r8, r9, r10, rfl⟩ := inv6 _ _ _ _ hX; have HE5 := hid hE; clear q0 q1 q2 q3 q4 q5 p0 p1 p2 p3 p4 p5 hX hE)
        exact ⟨⟨k + 1, n', _, _, ks, xs, gs, by go_num, by omega, hn3, hid (by rw [HNX.out]; exact HQ.out), hid (by rw [HNX.out]; exact HN'.out), hid (HO.out.ext' (HE5.out.alloc _))⟩, by simp [intOf]; omega⟩
      | some x =>
        rw [hf] at FC
        have FC' := hid (show Calls Tryd.prog 13 #[.agg #[.int .i64 o1, .int .i64 o2, .float .f64 o3, .string o4, .slice o5 o6 o7, .slice o8 o9 o10], .string s] wr fun e w' => ∃ cs', e = .returned (.tuple #[.agg cs'.toArray, .bool true]) ∧ RepGV (fun b => w.heap.size + 2 ≤ b ∧ b < w3.heap.size) w' (fromT x) cs' ∧ Ext wr w' from FC.out)
        clear FC
        rcases kcases x with ⟨hsc, hkd⟩ | ⟨hsc, hkd⟩ | ⟨hsc, hkd⟩ | ⟨hsc, hk0, hk5, hk6⟩
        · have HNX := hid ((HTK.out).trans (by rw [oneT_bad hf hsc, List.append_nil]))
          have HKD := hid hkd
          clear hf hsc hkd
          go_wp2_with (go_at_call 13; refine FC'.out.mono ?_; rintro e w5 ⟨cs5, rfl, hX, hE⟩; obtain ⟨r2, r3, r4, r5, r6, r7, r8, r9, r10, rfl⟩ := inv6 _ _ _ _ hX; rw [HKD.out]; have HE5 := hid hE; clear q0 q1 q2 q3 q4 q5 p0 p1 p2 p3 p4 p5 hX hE)
          exact ⟨⟨k + 1, n', _, _, ks, xs, gs, by go_num, by omega, hn3, hid (by rw [HNX.out]; exact HQ.out), hid (by rw [HNX.out]; exact HN'.out), hid (HO.out.ext' (HE5.out.alloc _))⟩, by simp [intOf]; omega⟩
        · have HNX := hid ((HTK.out).trans (by rw [oneT_bad hf hsc, List.append_nil]))
          have HKD := hid hkd
          clear hf hsc hkd
          go_wp2_with (go_at_call 13; refine FC'.out.mono ?_; rintro e w5 ⟨cs5, rfl, hX, hE⟩; obtain ⟨r2, r3, r4, r5, r6, r7, r8, r9, r10, rfl⟩ := inv6 _ _ _ _ hX; rw [HKD.out]; have HE5 := hid hE; clear q0 q1 q2 q3 q4 q5 p0 p1 p2 p3 p4 p5 hX hE)
          exact ⟨⟨k + 1, n', _, _, ks, xs, gs, by go_num, by omega, hn3, hid (by rw [HNX.out]; exact HQ.out), hid (by rw [HNX.out]; exact HN'.out), hid (HO.out.ext' (HE5.out.alloc _))⟩, by simp [intOf]; omega⟩
        · have HNX := hid ((HTK.out).trans (by rw [oneT_bad hf hsc, List.append_nil]))
          have HKD := hid hkd
          clear hf hsc hkd
          go_wp2_with (go_at_call 13; refine FC'.out.mono ?_; rintro e w5 ⟨cs5, rfl, hX, hE⟩; obtain ⟨r2, r3, r4, r5, r6, r7, r8, r9, r10, rfl⟩ := inv6 _ _ _ _ hX; rw [HKD.out]; have HE5 := hid hE; clear q0 q1 q2 q3 q4 q5 p0 p1 p2 p3 p4 p5 hX hE)
          exact ⟨⟨k + 1, n', _, _, ks, xs, gs, by go_num, by omega, hn3, hid (by rw [HNX.out]; exact HQ.out), hid (by rw [HNX.out]; exact HN'.out), hid (HO.out.ext' (HE5.out.alloc _))⟩, by simp [intOf]; omega⟩
        have HNX := hid ((HTK.out).trans (by rw [oneT_some hf hsc]))
        have HSZ' := hid (candS_size HS.out)
        have hn0 : ((fromT x).kind != 0) = true := by simp [bne, hk0]
        have hn5 : ((fromT x).kind != 5) = true := by simp [bne, hk5]
        have hn6 : ((fromT x).kind != 6) = true := by simp [bne, hk6]
        clear hf hsc
        obtain ⟨⟨zz0, zz1, zz2, zz3, zz4, zz5, zz6, zz7, zz8, zz9, zz10⟩, ff0, ff1, ff2, ff3, ff4, ff5, ff6, ff7, ff8, ff9, ff10⟩ := slot11 HO.out.out
        clear zz0 zz1 zz2 zz3 zz4 zz5 zz6 zz7 zz8 zz9 zz10 ff0 ff1 ff2 ff3 ff4 ff5 ff6 ff7 ff8 ff9 ff10
        go_upto_region 8 with (go_at_call 13; refine FC'.out.mono ?_; rintro e w5 ⟨cs5, rfl, hX, hE⟩; obtain ⟨r2, r3, r4, r5, r6, r7, r8, r9, r10, rfl⟩ := inv6 _ _ _ _ hX; have HE5 := hid hE; have HX5 := hid hX; clear q0 q1 q2 q3 q4 q5 p0 p1 p2 p3 p4 p5 hX hE)
        have HF6 := hid (heap_alloc_new w5 (.cells #[.int .i64 (fromT x).kind, .int .i64 r2, .float .f64 r3, .string r4, .slice r5 r6 r7, .slice r8 r9 r10] 26))
        have HE6 := hid (HE5.out.alloc (.cells #[.int .i64 (fromT x).kind, .int .i64 r2, .float .f64 r3, .string r4, .slice r5 r6 r7, .slice r8 r9 r10] 26))
        have HS6 := hid (show (w5.alloc (.cells #[.int .i64 (fromT x).kind, .int .i64 r2, .float .f64 r3, .string r4, .slice r5 r6 r7, .slice r8 r9 r10] 26)).heap.size = w5.heap.size + 1 by simp)
        have HX6 := hid (HX5.out.ext ((Ext.refl w5).alloc (.cells #[.int .i64 (fromT x).kind, .int .i64 r2, .float .f64 r3, .string r4, .slice r5 r6 r7, .slice r8 r9 r10] 26)))
        have HO6 := hid (HO.out.ext' HE6.out)
        generalize w5.alloc (.cells #[.int .i64 (fromT x).kind, .int .i64 r2, .float .f64 r3, .string r4, .slice r5 r6 r7, .slice r8 r9 r10] 26) = w6 at *
        obtain ⟨⟨zz0, zz1, zz2, zz3, zz4, zz5, zz6, zz7, zz8, zz9, zz10⟩, ff0, ff1, ff2, ff3, ff4, ff5, ff6, ff7, ff8, ff9, ff10⟩ := slot11 HO6.out.out
        go_upto_region 9 with (at_builtin; refine wpList_append_lies _ rfl (.tmp 40) (.tmp 42) 23 rfl (w3.heap.size + 1) 9 is _ 1 16 Tryd.underlying23 his hs0 hs1 hs2 rfl (by decide) _ n' (ks.map Value.string) rfl ((HO6.out.krow).alloc _) ⟨w6.heap.size, 0, none⟩ 1 1 [.string s] rfl rfl (cells_new w6 [.string s] _) (by simp [Value.oneCell']) (by decide) (by unfold maxLen; omega) (by omega) (by have := HO6.out.hB; simp; omega) (w6.heap.size + 1) (by simp) ?_; intro g7 cap7 w7 hown7 hg7 hat7 hlt7; have HO6' := hid (HO6.out.ext' ((Ext.refl w6).alloc (.cells #[.string s] 9))); have ho7 := HO6'.out.out_kept hg7 (own_ge HO6'.out.krow); clear zz0 zz1 zz2 zz3 zz4 zz5 zz6 zz7 zz8 zz9 zz10 ff0 ff1 ff2 ff3 ff4 ff5 ff6 ff7 ff8 ff9 ff10; obtain ⟨⟨zz0, zz1, zz2, zz3, zz4, zz5, zz6, zz7, zz8, zz9, zz10⟩, ff0, ff1, ff2, ff3, ff4, ff5, ff6, ff7, ff8, ff9, ff10⟩ := slot11 ho7; have HK := hid (And.intro hg7 (And.intro hown7 hat7)); clear hown7 hg7 hat7 hlt7 ho7)
        have HO8 := hid (HO6'.out.key s HK.out.1 HK.out.2.1 (fun g hg => by have h := HK.out.2.2; simp [Value.ownBlock] at hg; subst hg; exact h.elim .inl (fun e => .inr (by rw [e]; simp))))
        have hF5 : w5.heap.size ≠ w3.heap.size := by have := HO.out.hB; have := HE5.out.size; omega
        have HF8 := hid (show (w7.setCell ⟨w3.heap.size, 2, none⟩ (.slice (some ⟨g7, 0, none⟩) (n' + 1) cap7)).heap[w5.heap.size]? = some (.cells #[.int .i64 (fromT x).kind, .int .i64 r2, .float .f64 r3, .string r4, .slice r5 r6 r7, .slice r8 r9 r10] 26) from by
          rw [Below.heap_setCell _ _ _ _ hF5, HK.out.1.block w5.heap.size (by simp; have := HS6.out; omega) (fun e => by have := own_lt HO.out.krow _ e.symm; have := HE5.out.size; omega)]
          exact ((Ext.refl w6).alloc _).block HF6.out)
        have HX8 := hid (show RepGV (fun b => w.heap.size + 2 ≤ b ∧ b ≠ w3.heap.size ∧ b ≠ w.heap.size + 1 ∧ some b ≠ (Value.slice la n' lc).ownBlock ∧ some b ≠ (Value.slice (some ⟨g7, 0, none⟩) (n' + 1) cap7).ownBlock) (w7.setCell ⟨w3.heap.size, 2, none⟩ (.slice (some ⟨g7, 0, none⟩) (n' + 1) cap7)) (fromT x) [.int .i64 (fromT x).kind, .int .i64 r2, .float .f64 r3, .string r4, .slice r5 r6 r7, .slice r8 r9 r10] from by
          refine HX6.out.mono (fun b ob hb hob => ?_) (fun b hb hlt => ⟨hb.1, by omega, by omega, fun e => by have := own_ge HO8.out.lrow _ e.symm; omega, fun e => by have := own_ge HO8.out.krow _ e.symm; omega⟩)
          exact (Below.block HO8.out.below b hb.2).trans ((Below.block HO6.out.below b hb.2).symm.trans hob))
        clear hF5 HF6 HX6 HX5 HO6 HO6' HK HE6 HE5 HS6 FC' HIX
        generalize w7.setCell ⟨w3.heap.size, 2, none⟩ (.slice (some ⟨g7, 0, none⟩) (n' + 1) cap7) = w8 at *
        clear zz0 zz1 zz2 zz3 zz4 zz5 zz6 zz7 zz8 zz9 zz10 ff0 ff1 ff2 ff3 ff4 ff5 ff6 ff7 ff8 ff9 ff10
        obtain ⟨⟨zz0, zz1, zz2, zz3, zz4, zz5, zz6, zz7, zz8, zz9, zz10⟩, ff0, ff1, ff2, ff3, ff4, ff5, ff6, ff7, ff8, ff9, ff10⟩ := slot11 HO8.out.out
        obtain ⟨⟨q0, q1, q2, q3, q4, q5⟩, -⟩ := slot6 HF8.out
        go_wp2_with (at_builtin; refine wpList_append_lies _ rfl (.tmp 46) (.tmp 48) 24 rfl (w3.heap.size + 1) 26 i0 _ 6 88 Tryd.underlying24 hi hz0 hz1 hz2 rfl (by decide) _ n' xs rfl ((HO8.out.lrow).alloc _) ⟨w8.heap.size, 0, none⟩ 1 1 [.int .i64 (fromT x).kind, .int .i64 r2, .float .f64 r3, .string r4, .slice r5 r6 r7, .slice r8 r9 r10] rfl rfl (cells_new w8 [.int .i64 (fromT x).kind, .int .i64 r2, .float .f64 r3, .string r4, .slice r5 r6 r7, .slice r8 r9 r10] _) (rep_oneCell HX8.out) (by decide) (by unfold maxLen; omega) (by omega) (by have := HO8.out.hB; simp; omega) (w8.heap.size + 1) (by simp) ?_; intro g9 cap9 w9 hown9 hg9 hat9 hlt9; have HO8' := hid (HO8.out.ext' ((Ext.refl w8).alloc (.cells #[.int .i64 (fromT x).kind, .int .i64 r2, .float .f64 r3, .string r4, .slice r5 r6 r7, .slice r8 r9 r10] 26))); have ho9 := HO8'.out.out_kept hg9 (own_ge HO8'.out.lrow); clear zz0 zz1 zz2 zz3 zz4 zz5 zz6 zz7 zz8 zz9 zz10 ff0 ff1 ff2 ff3 ff4 ff5 ff6 ff7 ff8 ff9 ff10; obtain ⟨⟨zz0, zz1, zz2, zz3, zz4, zz5, zz6, zz7, zz8, zz9, zz10⟩, ff0, ff1, ff2, ff3, ff4, ff5, ff6, ff7, ff8, ff9, ff10⟩ := slot11 ho9; have HK9 := hid (And.intro hg9 (And.intro hown9 hat9)); clear hown9 hg9 hat9 hlt9 ho9)
        have hnk : n' ≤ k := by rw [HN'.out]; refine Nat.le_trans (itemFs_le _ _) ?_; simp; omega
        exact ⟨⟨k + 1, n' + 1, _, _, ks ++ [s], _, gs ++ [fromT x], by go_num, by omega, by omega, hid (by rw [HNX.out, List.map_append, List.map_append, ← HQ.out.1, ← HQ.out.2]; exact ⟨rfl, rfl⟩), hid (by rw [HNX.out, List.length_append, ← HN'.out]; rfl), hid (HO8'.out.val HK9.out.1 HK9.out.2.1 (HX8.out.ext ((Ext.refl w8).alloc _)) (fun g hg => by have h := HK9.out.2.2; simp [Value.ownBlock] at hg; subst hg; exact h.elim .inl (fun e => .inr (by rw [e]; simp))))⟩, by simp [intOf]; omega⟩
    · have hkk : k = 3 := by omega
      subst hkk
      have d1 : ¬ (((3 : Nat) : Int) < 3) := by omega
      have HTC := hid (show candS.take 3 = candS from rfl)
      have HQ' := hid (show ks = (itemFs t candS).map (·.1) ∧ gs = (itemFs t candS).map (fun p => fromT p.2) from HQ.out)
      have HN'' := hid (show n' = (itemFs t candS).length from HN'.out)
      obtain ⟨⟨zz0, zz1, zz2, zz3, zz4, zz5, zz6, zz7, zz8, zz9, zz10⟩, ff0, ff1, ff2, ff3, ff4, ff5, ff6, ff7, ff8, ff9, ff10⟩ := slot11 HO.out.out
      clear ff0 ff1 ff2 ff3 ff4 ff5 ff6 ff7 ff8 ff9 ff10
      obtain ⟨⟨y0, y1, y2, y3, y4, y5, y6, y7, y8, y9, y10⟩, ff0, ff1, ff2, ff3, ff4, ff5, ff6, ff7, ff8, ff9, ff10⟩ := slot11 HRB.out
      have HEW := hid (show Ext w wr from E3.out.trans (HO.out.below.mono E3.out.size))
      by_cases hc0 : n' = 0
      · subst hc0
        have HZ := hid (show itemEl n t = .idx n by have h := HN''.out; simp [itemEl, ← h])
        go_wp2_with fail
        change bodyPost _ _ _ _ _ (setL wr (w.heap.size + 1) 0 [.int .i64 3, .string ⟨#[]⟩, .slice none 0 0, .slice none 0 0, .int .i64 0, .int .i64 0, .float .f64 0, .string ⟨#[]⟩, .slice none 0 0, .slice none 0 0, .int .i64 n])
        obtain ⟨e4, hr4, x4⟩ := putE' (w := w) (e := fromEl (.idx n)) (vs := [.int .i64 3, .string ⟨#[]⟩, .slice none 0 0, .slice none 0 0, .int .i64 0, .int .i64 0, .float .f64 0, .string ⟨#[]⟩, .slice none 0 0, .slice none 0 0, .int .i64 n]) HRB.out rfl (Nat.le_succ _) HEW.out ⟨none, 0, none, 0, _, _, _, _, _, _, rfl, wfk 3 rfl, HN.out, es0, RepStrs.nil _ _, RepVals.nil _ _, repZero _ _⟩ _ rfl
        generalize setL wr (w.heap.size + 1) 0 [.int .i64 3, .string ⟨#[]⟩, .slice none 0 0, .slice none 0 0, .int .i64 0, .int .i64 0, .float .f64 0, .string ⟨#[]⟩, .slice none 0 0, .slice none 0 0, .int .i64 n] = WF at *
        clear y0 y1 y2 y3 y4 y5 y6 y7 y8 y9 y10
        obtain ⟨⟨y0, y1, y2, y3, y4, y5, y6, y7, y8, y9, y10⟩, -⟩ := slot11 e4
        rw [HZ.out]
        refine bodyPost_ret (v := .agg #[.int .i64 3, .string ⟨#[]⟩, .slice none 0 0, .slice none 0 0, .int .i64 0, .int .i64 0, .float .f64 0, .string ⟨#[]⟩, .slice none 0 0, .slice none 0 0, .int .i64 n]) (by simp [results, Tryd.results6, go_sem, y0, y1, y2, y3, y4, y5, y6, y7, y8, y9, y10]) rfl ⟨_, rfl, hr4, x4⟩
      · have hc1 : (0 : Int) < (n' : Int) := by omega
        have HZ := hid (show itemEl n t = .key (itemFs t candS) by have h := HN''.out; simp only [itemEl]; rw [if_neg (by omega)])
        go_wp2_with fail
        have HL := hid (show ks.length = n' ∧ gs.length = n' by rw [HQ'.out.1, HQ'.out.2, HN''.out]; simp)
        have hks : RepStrs (fun b => w.heap.size ≤ b ∧ b ≠ w.heap.size + 1) wr (.slice ka n' kc) ks := strs_of_row HO.out.krow (fun b h => ⟨by have := L3.out; omega, by have := L3.out; omega⟩) (by have := HL.out.1; omega) (fun s hs => by
          rw [HQ'.out.1] at hs
          obtain ⟨p, hp, rfl⟩ := List.mem_map.1 hs
          obtain ⟨kk, hkk, hp'⟩ := List.mem_flatMap.1 hp
          have e : p.1 = kk := by
            revert hp'
            cases hf : fieldT t kk with
            | none => rw [oneT_none hf]; intro h; cases h
            | some x =>
              cases hsx : scalT x
              · rw [oneT_bad hf hsx]; intro h; cases h
              · rw [oneT_some hf hsx]; intro h; simp at h; rw [h]
          rw [e]
          obtain ⟨i, hi⟩ := List.mem_iff_getElem?.1 hkk
          exact candS_size hi)
        have hgs : RepVals (fun b => w.heap.size ≤ b ∧ b ≠ w.heap.size + 1) wr (.slice la n' lc) gs := vals_own HO.out.lrow (HO.out.row.mono (Same.refl _ _) (fun b hb _ => ⟨by have := hb.1; omega, hb.2.2.1⟩)) (fun b h => ⟨by have := L3.out; omega, by have := L3.out; omega⟩) (by have := HL.out.2; omega)
        change bodyPost _ _ _ _ _ (setL wr (w.heap.size + 1) 0 [.int .i64 1, .string ⟨#[]⟩, .slice ka n' kc, .slice la n' lc, .int .i64 0, .int .i64 0, .float .f64 0, .string ⟨#[]⟩, .slice none 0 0, .slice none 0 0, .int .i64 0])
        obtain ⟨e4, hr4, x4⟩ := putE' (w := w) (e := ⟨1, ByteArray.empty, ks, gs, zeroG, 0⟩) (vs := [.int .i64 1, .string ⟨#[]⟩, .slice ka n' kc, .slice la n' lc, .int .i64 0, .int .i64 0, .float .f64 0, .string ⟨#[]⟩, .slice none 0 0, .slice none 0 0, .int .i64 0]) HRB.out rfl (Nat.le_succ _) HEW.out ⟨ka, kc, la, lc, _, _, _, _, _, _, by simp only [HL.out.1, HL.out.2]; rfl, wfk 1 rfl, wfk 0 rfl, es0, by simp only [HL.out.1]; exact hks, by simp only [HL.out.2]; exact hgs, repZero _ _⟩ _ rfl
        generalize setL wr (w.heap.size + 1) 0 [.int .i64 1, .string ⟨#[]⟩, .slice ka n' kc, .slice la n' lc, .int .i64 0, .int .i64 0, .float .f64 0, .string ⟨#[]⟩, .slice none 0 0, .slice none 0 0, .int .i64 0] = WF at *
        clear y0 y1 y2 y3 y4 y5 y6 y7 y8 y9 y10
        obtain ⟨⟨y0, y1, y2, y3, y4, y5, y6, y7, y8, y9, y10⟩, -⟩ := slot11 e4
        rw [HZ.out]
        refine bodyPost_ret (v := .agg #[.int .i64 1, .string ⟨#[]⟩, .slice ka n' kc, .slice la n' lc, .int .i64 0, .int .i64 0, .float .f64 0, .string ⟨#[]⟩, .slice none 0 0, .slice none 0 0, .int .i64 0]) (by simp [results, Tryd.results6, go_sem, y0, y1, y2, y3, y4, y5, y6, y7, y8, y9, y10]) rfl ⟨_, rfl, ?_, x4⟩
        show RepGE (fun b => w.heap.size ≤ b) _ ⟨1, ByteArray.empty, (itemFs t candS).map (·.1), (itemFs t candS).map (fun p => fromT p.2), zeroG, 0⟩ _
        rw [← HQ'.out.1, ← HQ'.out.2]
        exact hr4
end Go.Proofs.YtempfaefopfobaaDoor
