/- CleanMap: spec.plainMap, and spec.Clean of whatever value. -/
import Derived.Test.YtempfaefopfobaaClean
import Derived.Deep.CutRange
import Derived.Deep.LoopGhost

namespace Go.Proofs.Ytempfaefopfobaa
open Go.ChangeShapes Go.WideShapes Go.ChangeAt Go.RowKit
attribute [local go_sem ↓] Go.wp_at_zero Go.wp_at_succ
set_option linter.unusedVariables false
set_option linter.unusedSimpArgs false

theorem zip_take_both' {ks : List ByteArray} {ts : List GV} {k : Nat} {s : ByteArray} {t : GV} (h1 : ks[k]? = some s) (h2 : ts[k]? = some t) : (ks.zip ts).take (k + 1) = (ks.zip ts).take k ++ [(s, t)] := by
  rw [List.take_add_one, show (ks.zip ts)[k]? = some (s, t) from List.getElem?_zip_eq_some.2 ⟨h1, h2⟩]
  rfl
/-- the map under way in plainMap -/
def mapAt (ks : List ByteArray) (l : List GV) (k : Nat) : GV := foldW ((ks.zip (cleanGs l)).take k) (.mk 6 0 0 ByteArray.empty [] [])
theorem mapAt_map (ks : List ByteArray) (l : List GV) (k : Nat) : MapG (mapAt ks l k) := MapG.empty.foldW _
theorem mapAt_succ {ks : List ByteArray} {l : List GV} {k : Nat} {s : ByteArray} {g : GV} (h1 : ks[k]? = some s) (h2 : l[k]? = some g) : mapAt ks l (k + 1) = withF (mapAt ks l k) s (cleanG g) := by
  unfold mapAt
  rw [zip_take_both' h1 (by rw [cleanGs_eq, List.getElem?_map, h2]; rfl), foldW_append]
  rfl
theorem mapAt_length {ks : List ByteArray} {l : List GV} {k : Nat} : (mapAt ks l k).l.length ≤ k := by
  have h1 := foldW_length MapG.empty ((ks.zip (cleanGs l)).take k)
  have h2 : ((ks.zip (cleanGs l)).take k).length ≤ k := List.length_take_le _ _
  have h3 : (GV.mk 6 0 0 ByteArray.empty [] []).l.length = 0 := rfl
  unfold mapAt; omega

set_option maxRecDepth 100000 in
set_option maxHeartbeats 2000000 in
theorem cleanMap_of (g : GV) (ih : ∀ (i : Nat) (x : GV), g.l[i]? = some x → CleanOK x) : CleanMapOK g := by
  intro w cs hR
  have hvals := (by obtain ⟨_, _, _, _, _, _, _, _, _, _, rfl⟩ := hR.form; exact ⟨_, _, _, _, _, _, rfl⟩ : ∃ c0 c1 c2 c3 c4 c5, cs = [c0, c1, c2, c3, c4, c5])
  cases hR with
  | @mk kd n f s ks l kv la lb lo lc hk hn hf hs hks hle hsz ha hcs hl =>
    clear hvals
    obtain ⟨ka, kb, ko, kc, rfl, hkle, hksz, hka, hkc, hkl⟩ := hks
    simp only [GV.l] at ih
    have HC := hid hcs
    have HL := hid hl
    have HI := hid ih
    have HK := hid hkc
    have HKL := hid hkl
    have bx := hid (boxes2 w (.cells #[.int .i64 kd, .int .i64 n, .float .f64 f, .string s, .slice ka ks.length kc, .slice la l.length lc] 32) (.cells #[.int .i64 0, .int .i64 0, .float .f64 0, .string ⟨#[]⟩, .slice none 0 0, .slice none 0 0] 32))
    clear hcs hl ih hkc hkl hk hn hf
    go_enter Try.func66, Try.ntmps66
    go_wp2_with fail
    go_loopg [4] ks.length (fun gk i wr => ∃ (k : Nat) (cm : List Value), i = .int .i64 k ∧ k ≤ ks.length ∧ k ≤ l.length ∧ gk + k = ks.length ∧ wr.heap[w.heap.size + 1 + 1]? = some (.cells cm.toArray 32) ∧ Hid (RepGV (fun b => w.heap.size + 3 ≤ b) wr (mapAt ks l k) cm) ∧
      Below (w.heap.size + 2) ((w.alloc (.cells #[.int .i64 kd, .int .i64 n, .float .f64 f, .string s, .slice ka ks.length kc, .slice la l.length lc] 32)).alloc (.cells #[.int .i64 0, .int .i64 0, .float .f64 0, .string ⟨#[]⟩, .slice none 0 0, .slice none 0 0] 32)) wr)
    case atStart =>
      have e0 : ((w.alloc (.cells #[.int .i64 kd, .int .i64 n, .float .f64 f, .string s, .slice ka ks.length kc, .slice la l.length lc] 32)).alloc (.cells #[.int .i64 0, .int .i64 0, .float .f64 0, .string ⟨#[]⟩, .slice none 0 0, .slice none 0 0] 32)).heap.size = w.heap.size + 1 + 1 := by simp
      refine ⟨0, [.int .i64 6, .int .i64 0, .float .f64 0, .string ⟨#[]⟩, .slice none 0 0, .slice none 0 0], rfl, Nat.zero_le _, Nat.zero_le _, by omega, ?_, hid ?_, ((Ext.refl _).alloc _).mono (by omega)⟩
      · rw [← e0]; exact heap_alloc_new _ _
      · exact repGV_of (by decide) (by decide) (by decide) (by decide) (RepStrs.nil _ _) (RepVals.nil _ _)
    case round =>
      obtain ⟨k, cm, rfl, hk1, hk2, hgk, hout, hM, hB⟩ := hrel
      obtain ⟨k6, n6, f6, s6, a61, b61, c61, a62, b62, c62, rfl⟩ := hM.out.form
      obtain ⟨x1, x2, hE0⟩ := bx.out _ hB
      obtain ⟨⟨q0, q1, q2, q3, q4, q5⟩, _⟩ := slot6 x1
      obtain ⟨⟨o0, o1, o2, o3, o4, o5⟩, p0, p1, p2, p3, p4, p5⟩ := slot6 hout
      by_cases hlt : k < ks.length ∧ k < l.length
      · obtain ⟨hlt, hll⟩ := hlt
        have ha2 := (hka (by omega)).1
        subst ha2
        have hb2 := (ha (by omega)).1
        subst hb2
        obtain ⟨key, hkey⟩ : ∃ key, ks[k]? = some key := ⟨_, List.getElem?_eq_getElem hlt⟩
        have hkcell := hE0.cellS (HK.out k key hkey)
        obtain ⟨cs, hcl, hca⟩ := HC.out k hll
        obtain ⟨g, hg⟩ : ∃ g, l[k]? = some g := ⟨_, List.getElem?_eq_getElem hll⟩
        have hR := (HL.out k g cs hg hcl hca).ext hE0
        have hca' := cellsAt_ext hE0 hca
        obtain ⟨k', n', f', s', a1, b1, c1, a2, b2, c2, rfl⟩ := hR.form
        obtain ⟨e0, e1, e2, e3, e4, e5⟩ := cells6 hca'
        have HP := hid (HI.out k g hg)
        have HR := hid hR
        have HG := hid hg
        have HKEY := hid hkey
        have hi0 : (0 : Int) ≤ (k : Int) := by omega
        have hi1 : (k : Int) < (ks.length : Int) := by omega
        have hi2 : (k : Int) < (l.length : Int) := by omega
        have HGK := hid hgk
        clear hR hca hca' hcl hg hkey x1 x2 hgk
        have hsz0 : ((mapAt ks l k).l.length + 1) * 88 ≤ 140737488351232 := by have := mapAt_length (ks := ks) (l := l) (k := k); omega
        have hkey0 : key.size ≤ 140737488351232 := HKL.out key (List.mem_of_getElem? HKEY.out)
        have HMAP := hid (mapAt_map ks l k)
        have hsB : w.heap.size + 2 < wr.heap.size := (Array.getElem?_eq_some_iff.1 hout).1
        go_upto_region 5 with fail
        go_region_with (first | (go_at_call 32; refine (HP.out _ _ (HR.out.ext ?_)).mono ?_; exact (Ext.refl _).drew; rintro e w2 ⟨cs', rfl, hT, hE⟩; obtain ⟨k2, n2, f2, s2, a3, b3, c3, a4, b4, c4, rfl⟩ := hT.form; have HT := hid hT; clear hT; have hE' := (Ext.refl wr).drew.trans hE; have r0 := hE'.cellS q4; have r1 := hE'.cellS q5; have r2 := hE'.cellS hkcell; have r3 := hE'.cellS e0; have r4 := hE'.cellS e1; have r5 := hE'.cellS e2; have r6 := hE'.cellS e3; have r7 := hE'.cellS e4; have r8 := hE'.cellS e5; have r9 := hE'.cellS o0; have r10 := hE'.cellS o1; have r11 := hE'.cellS o2; have r12 := hE'.cellS o3; have r13 := hE'.cellS o4; have r14 := hE'.cellS o5; skip) | (go_at_call 67; refine (withField_any (fun b => w.heap.size + 3 ≤ b) (mapAt ks l k) (cleanG g) _ _ key _ (fun b hb => by have := hE'.size; omega) (hM.out.ext hE') (HT.out.weak (fun b hb _ => by simp at hb; omega)) HMAP.out.1 HMAP.out.2 hsz0 hkey0).mono ?_; rintro e w3 ⟨cs3, rfl, hT3, hE3⟩; obtain ⟨k4, n4, f4, s4, a5, b5, c5, a6, b6, c6, rfl⟩ := hT3.form; have HT3 := hid hT3; have hout3 := hE3.block (hE'.block hout); obtain ⟨⟨z0, z1, z2, z3, z4, z5⟩, y0, y1, y2, y3, y4, y5⟩ := slot6 hout3; clear hT3))
        all_goals
          go_wp2_with fail
          go_roundg (gk - 1)
          case measure => have := HGK.out; omega
          case rel =>
            have ho6 := set6_heap hout3 (.int .i64 k4) (.int .i64 n4) (.float .f64 f4) (.string s4) (.slice a5 b5 c5) (.slice a6 b6 c6)
            refine ⟨k + 1, [.int .i64 k4, .int .i64 n4, .float .f64 f4, .string s4, .slice a5 b5 c5, .slice a6 b6 c6], by go_num, by omega, by omega, by have := HGK.out; omega, ho6, hid ?_, ?_⟩
            · rw [mapAt_succ HKEY.out HG.out]
              have hsz3 := hE3.size
              have hsz2 := hE'.size
              exact HT3.out.mono (S' := fun b => w.heap.size + 3 ≤ b) (fun b o hb ho => (set6_other (by omega) _ _ _ _ _ _).trans ho) (fun b hb _ => hb)
            · exact set6_below (below_ext hB (hE'.trans hE3) (by omega)) (by omega) _ _ _ _ _ _
      · have hend : mapAt ks l k = cleanM (.mk kd n f s ks l) := by
          unfold mapAt cleanM
          rw [List.take_of_length_le (by rw [List.length_zip, cleanGs_length]; omega)]
          rfl
        have HEND := hid hend
        have X2 := hid x2
        clear hend x1 hgk
        have fin : ∀ cm' W, W = set6 wr (w.heap.size + 1) (.int .i64 k6) (.int .i64 n6) (.float .f64 f6) (.string s6) (.slice a61 b61 c61) (.slice a62 b62 c62) → cm' = [.int .i64 k6, .int .i64 n6, .float .f64 f6, .string s6, .slice a61 b61 c61, .slice a62 b62 c62] →
            W.heap[w.heap.size + 1]? = some (.cells (List.toArray cm') 32) ∧ RepGV (fun b => w.heap.size ≤ b) W (cleanM (.mk kd n f s ks l)) cm' ∧ Ext w W := by
          rintro cm' W rfl rfl
          refine ⟨set6_heap X2.out _ _ _ _ _ _, ?_, set6_below hE0 (by omega) _ _ _ _ _ _⟩
          rw [← HEND.out]
          exact hM.out.mono (fun b o hb ho => (set6_other (by omega) _ _ _ _ _ _).trans ho) (fun b hb _ => by omega)
        have FIN := hid fin
        obtain ⟨⟨g0, g1, g2, g3, g4, g5⟩, h0, h1, h2, h3, h4, h5⟩ := slot6 x2
        clear fin x2
        by_cases hlt2 : k < ks.length
        all_goals
          go_wp2_with fail
          change bodyPost _ _ _ _ _ (set6 wr (w.heap.size + 1) (.int .i64 k6) (.int .i64 n6) (.float .f64 f6) (.string s6) (.slice a61 b61 c61) (.slice a62 b62 c62))
          obtain ⟨e6, hr6, x6⟩ := FIN.out _ _ rfl rfl
          generalize set6 wr (w.heap.size + 1) (.int .i64 k6) (.int .i64 n6) (.float .f64 f6) (.string s6) (.slice a61 b61 c61) (.slice a62 b62 c62) = WF at *
          obtain ⟨⟨y0, y1, y2, y3, y4, y5⟩, _⟩ := slot6 e6
          refine bodyPost_ret (v := .agg #[.int .i64 k6, .int .i64 n6, .float .f64 f6, .string s6, .slice a61 b61 c61, .slice a62 b62 c62]) (by simp [results, Try.results66, go_sem, y0, y1, y2, y3, y4, y5]) rfl ?_
          exact ⟨_, rfl, hr6, x6⟩

set_option maxRecDepth 100000 in
theorem clean_map (n : Int) (f : Nat) (s : ByteArray) (a1 : Option Addr) (b1 c1 : Nat) (a2 : Option Addr) (b2 c2 : Nat) (g : GV) (w : World) (hm : CleanMapOK g) (hR : RepGV Any w g [.int .i64 6, .int .i64 n, .float .f64 f, .string s, .slice a1 b1 c1, .slice a2 b2 c2]) :
    Calls Try.prog 32 #[.agg #[.int .i64 6, .int .i64 n, .float .f64 f, .string s, .slice a1 b1 c1, .slice a2 b2 c2]] w fun e w' => ∃ cs', e = .returned (.agg cs'.toArray) ∧ RepGV (fun b => w.heap.size ≤ b) w' (cleanM g) cs' ∧ Ext w w' := by
  have HM := hid hm
  have HR := hid hR
  have bx := hid (boxes2 w (.cells #[.int .i64 6, .int .i64 n, .float .f64 f, .string s, .slice a1 b1 c1, .slice a2 b2 c2] 32) (.cells #[.int .i64 0, .int .i64 0, .float .f64 0, .string ⟨#[]⟩, .slice none 0 0, .slice none 0 0] 32))
  clear hm hR
  go_enter Try.func32, Try.ntmps32
  go_wp2_with (go_at_call 66; refine (HM.out _ _ (HR.out.ext ?_)).mono ?_; exact ((Ext.refl _).alloc _).alloc _; rintro e w2 ⟨cs', rfl, hT, hE⟩; obtain ⟨k6, n6, f6, s6, a61, b61, c61, a62, b62, c62, rfl⟩ := hT.form; obtain ⟨x1, x2, hE3⟩ := bx.out w2 (hE.mono (by simp)); obtain ⟨⟨z0, z1, z2, z3, z4, z5⟩, f0, f1, f2, f3, f4, f5⟩ := slot6 x2; have HT := hid hT; have X2 := hid x2; clear x1 x2 hT)
  have e6 := set6_heap X2.out (.int .i64 k6) (.int .i64 n6) (.float .f64 f6) (.string s6) (.slice a61 b61 c61) (.slice a62 b62 c62)
  have x6 := set6_below hE3 (b := w.heap.size + 1) (by omega) (.int .i64 k6) (.int .i64 n6) (.float .f64 f6) (.string s6) (.slice a61 b61 c61) (.slice a62 b62 c62)
  have T6 := HT.out.mono (w' := set6 w2 (w.heap.size + 1) (.int .i64 k6) (.int .i64 n6) (.float .f64 f6) (.string s6) (.slice a61 b61 c61) (.slice a62 b62 c62)) (S' := fun b => w.heap.size ≤ b) (fun b o hb ho => (set6_other (by simp at hb; omega) _ _ _ _ _ _).trans ho) (fun b hb _ => by simp at hb; omega)
  change bodyPost _ _ _ _ _ (set6 w2 (w.heap.size + 1) (.int .i64 k6) (.int .i64 n6) (.float .f64 f6) (.string s6) (.slice a61 b61 c61) (.slice a62 b62 c62))
  generalize set6 w2 (w.heap.size + 1) (.int .i64 k6) (.int .i64 n6) (.float .f64 f6) (.string s6) (.slice a61 b61 c61) (.slice a62 b62 c62) = WF at *
  obtain ⟨⟨y0, y1, y2, y3, y4, y5⟩, _⟩ := slot6 e6
  refine bodyPost_ret (v := .agg #[.int .i64 k6, .int .i64 n6, .float .f64 f6, .string s6, .slice a61 b61 c61, .slice a62 b62 c62]) (by simp [results, Try.results32, go_sem, y0, y1, y2, y3, y4, y5]) rfl ?_
  exact ⟨_, rfl, T6, x6⟩

theorem clean_of (g : GV) (ih : ∀ (i : Nat) (x : GV), g.l[i]? = some x → CleanOK x) (hm : CleanMapOK g) : CleanOK g := by
  intro w cs hR
  have hR0 := hR
  have hV : ∃ v, cs[5]? = some v ∧ RepVals Any w v g.l := by
    obtain ⟨_, _, _, _, _, _, _, _, _, _, rfl⟩ := hR.form
    exact ⟨_, rfl, hR.vals⟩
  cases hR with
  | @mk k n f s keys l kv la lb lo lc hk hn hf hs hks hle hsz ha hcs hl =>
    obtain ⟨v, hv1, hv2⟩ := hV
    simp at hv1
    subst hv1
    have hks0 := hks
    obtain ⟨ka, kb, ko, kc, rfl, _⟩ := hks0
    show Calls _ _ #[.agg #[.int .i64 k, .int .i64 n, .float .f64 f, .string s, .slice ka keys.length kc, .slice la l.length lc]] w _
    by_cases h1 : k = 1
    · subst h1
      by_cases h0 : n = 0
      · refine (clean_b0 n f s _ _ (by simpa using h0) (by simpa using h0) w).mono fun e w' ⟨he, hE⟩ => ⟨[_, _, _, _, _, _], he, ?_, hE⟩
        rw [show cleanG (.mk 1 n f s keys l) = .mk 1 0 0 ByteArray.empty [] [] by simp [cleanG, h0]]
        exact repGV_of (by decide) (by decide) (by decide) (by decide) (RepStrs.nil _ _) (RepVals.nil _ _)
      · refine (clean_b1 n f s _ _ (by simpa using h0) (by simpa using h0) w).mono fun e w' ⟨he, hE⟩ => ⟨[_, _, _, _, _, _], he, ?_, hE⟩
        rw [show cleanG (.mk 1 n f s keys l) = .mk 1 1 0 ByteArray.empty [] [] by simp [cleanG, h0]]
        exact repGV_of (by decide) (by decide) (by decide) (by decide) (RepStrs.nil _ _) (RepVals.nil _ _)
    by_cases h2 : k = 2
    · subst h2
      refine (clean_i n f s _ _ w).mono fun e w' ⟨he, hE⟩ => ⟨[_, _, _, _, _, _], he, ?_, hE⟩
      rw [show cleanG (.mk 2 n f s keys l) = .mk 2 n 0 ByteArray.empty [] [] by simp [cleanG]]
      exact repGV_of (by decide) hn (by decide) (by decide) (RepStrs.nil _ _) (RepVals.nil _ _)
    by_cases h3 : k = 3
    · subst h3
      refine (clean_f n f s _ _ w).mono fun e w' ⟨he, hE⟩ => ⟨[_, _, _, _, _, _], he, ?_, hE⟩
      rw [show cleanG (.mk 3 n f s keys l) = .mk 3 0 f ByteArray.empty [] [] by simp [cleanG]]
      exact repGV_of (by decide) (by decide) hf (by decide) (RepStrs.nil _ _) (RepVals.nil _ _)
    by_cases h4 : k = 4
    · subst h4
      refine (clean_s n f s _ _ w).mono fun e w' ⟨he, hE⟩ => ⟨[_, _, _, _, _, _], he, ?_, hE⟩
      rw [show cleanG (.mk 4 n f s keys l) = .mk 4 0 0 s [] [] by simp [cleanG]]
      exact repGV_of (by decide) (by decide) (by decide) hs (RepStrs.nil _ _) (RepVals.nil _ _)
    by_cases h5 : k = 5
    · subst h5
      refine (clean_list n f s _ la l.length lc l w hv2 ih).mono fun e w' ⟨x, he, hT, hE⟩ => ⟨x, he, ?_, hE⟩
      rw [show cleanG (.mk 5 n f s keys l) = .mk 5 0 0 ByteArray.empty [] (cleanGs l) by simp [cleanG]]
      exact hT
    by_cases h6 : k = 6
    · subst h6
      refine (clean_map n f s _ _ _ _ _ _ _ w hm hR0).mono fun e w' ⟨x, he, hT, hE⟩ => ⟨x, he, ?_, hE⟩
      rw [show cleanG (.mk 6 n f s keys l) = cleanM (.mk 6 n f s keys l) by simp [cleanG, cleanM, GV.keys, GV.l]]
      exact hT
    · refine (clean_z k n f s _ _ h1 h2 h3 h4 h5 h6 w).mono fun e w' ⟨he, hE⟩ => ⟨[_, _, _, _, _, _], he, ?_, hE⟩
      rw [show cleanG (.mk k n f s keys l) = zeroG by simp [cleanG, h1, h2, h3, h4, h5, h6]]
      exact repGV_of (by decide) (by decide) (by decide) (by decide) (RepStrs.nil _ _) (RepVals.nil _ _)

theorem clean_ok : ∀ (N : Nat) (g : GV), SizeOf.sizeOf g ≤ N → CleanOK g ∧ CleanMapOK g := by
  intro N
  induction N with
  | zero => intro g h; cases g; simp at h
  | succ N ih =>
    intro g h
    have hl : ∀ (i : Nat) (x : GV), g.l[i]? = some x → CleanOK x := by
      intro i x hx
      refine (ih x ?_).1
      have := GV.size_l hx
      omega
    have hm := cleanMap_of g hl
    exact ⟨clean_of g hl hm, hm⟩
theorem clean_any (g : GV) : CleanOK g := (clean_ok _ g (Nat.le_refl _)).1
theorem cleanMap_any (g : GV) : CleanMapOK g := (clean_ok _ g (Nat.le_refl _)).2
end Go.Proofs.Ytempfaefopfobaa
