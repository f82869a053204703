/- Guess: GuessBestListPathElement, DoorGuess, impl.GuessElem: the path element of an item of a list of which no type is known. -/
import Derived.Test.YtempfaefopfobaaDoorGuessP
import Derived.Test.YtempfaefopfobaaDoorSort
import Derived.Test.YtempfaefopfobaaDoorMap
import Derived.Test.YtempfaefopfobaaDoorIs
import Derived.StillTailTactics

set_option maxRecDepth 100000
namespace Go.Proofs.YtempfaefopfobaaDoor
open Go.ChangeShapes Go.WideShapes Go.ChangeAt Go.RowKit
set_option linter.unusedVariables false
set_option linter.unusedSimpArgs false

/-- the package's list of names -/
structure CandAt (w : World) (gb go gc : Nat) : Prop where
  cell : w.cell? ⟨0, 0, none⟩ = some (.slice (some ⟨gb, go, none⟩) 3 gc)
  at_ : ∀ k s, cand[k]? = some s → w.cell? ⟨gb, go + k, none⟩ = some (.string s)
theorem CandAt.ext {w w' : World} {gb go gc : Nat} (h : CandAt w gb go gc) (E : Ext w w') : CandAt w' gb go gc :=
  ⟨E.cellS h.cell, fun k s hs => E.cellS (h.at_ k s hs)⟩
theorem free_g (al : Addr) (ty : TypeId) (v : Value) (u : FrameMode) (w : World) : CallsD Tryd.prog 51 #[.pointer (some al), .iface ty v] u w fun e u' w' => u' = u ∧ e = .returned (.tuple #[]) ∧ w = w' := by
  go_enter_d Tryd.func51, Tryd.ntmps51
  go_wp2_with fail
  exact bodyPost_end (v := .tuple #[]) (by simp [results, Tryd.results51, go_sem]) rfl ⟨rfl, rfl⟩
theorem cand_size {k : Nat} {s : ByteArray} (h : cand[k]? = some s) : s.size ≤ 140737488351232 := by
  have : ∀ x ∈ cand, x.size ≤ 140737488351232 := by decide +kernel
  exact this s (List.mem_of_getElem? h)
/-- an element is laid into its block: what is elsewhere stays -/
theorem put4' {T : Nat → Prop} {w W : World} {R : Nat} {c0 c1 c2 c3 v0 v1 v2 v3 : Value} {e : El} (hx : W.heap[R]? = some (.cells #[c0, c1, c2, c3] 40)) (hR : w.heap.size ≤ R) (hE : Ext w W) (hG : RepEl (fun b => T b ∧ b ≠ R) W e [v0, v1, v2, v3])
    (WF : World) (hWF : WF = set4 W R v0 v1 v2 v3) :
    WF.heap[R]? = some (.cells #[v0, v1, v2, v3] 40) ∧ RepEl T WF e [v0, v1, v2, v3] ∧ Ext w WF := by
  subst hWF
  exact ⟨set4_heap hx _ _ _ _, hG.mono (fun b o hb ho => (set4_other hb.2 _ _ _ _).trans ho) (fun b hb _ => hb.1), set4_below hE hR _ _ _ _⟩
theorem own_setCell_ne {w : World} {base : Nat} {e : TypeId} {size : Nat} {v : Value} {n : Nat} {xs : List Value} (h : w.ownsRow base e size v n xs) {a : Addr} (hne : some a.block ≠ v.ownBlock) (u : Value) : (w.setCell a u).ownsRow base e size v n xs := by
  refine ⟨h.1, ?_⟩
  rcases h.2 with h' | ⟨g, cap, cur, rfl, hb, hh, hr⟩
  · exact .inl h'
  · exact .inr ⟨g, cap, cur, rfl, hb, by rw [Below.heap_setCell _ _ _ _ (fun e => hne (by simp [Value.ownBlock, e]))]; exact hh, hr⟩
theorem got_none {S : Nat → Prop} {w w' : World} {m : List (ByteArray × Tree)} {key : ByteArray} {e : Ending} (h : GotV S w m key e w') (hn : lookKV m key = none) : e = .returned (.tuple #[.nilIface, .bool false]) ∧ Ext w w' := by
  rcases h with ⟨_, h2, h3⟩ | ⟨t, x, h1, _⟩
  · exact ⟨h2, h3⟩
  · rw [hn] at h1; cases h1
theorem got_some {S : Nat → Prop} {w w' : World} {m : List (ByteArray × Tree)} {key : ByteArray} {t : Tree} {e : Ending} (h : GotV S w m key e w') (hs : lookKV m key = some t) :
    ∃ b v, e = .returned (.tuple #[.iface 85 (.pointer (some ⟨b, 0, none⟩)), .bool true]) ∧ (S b ∨ w.heap.size ≤ b) ∧ w'.heap[b]? = some (.cells #[v] 93) ∧ RepT (fun b => S b ∨ w.heap.size ≤ b) w' t v ∧ Ext w w' := by
  rcases h with ⟨h1, _⟩ | ⟨t', x, h1, h2, ⟨b, v, rfl, h3, h4, h5⟩, h6⟩
  · rw [hs] at h1; cases h1
  · rw [hs] at h1; cases h1
    exact ⟨b, v, h2, h3, h4, h5, h6⟩
theorem cand_take {k : Nat} {s : ByteArray} (h : cand[k]? = some s) : cand.take (k + 1) = cand.take k ++ [s] := take_snoc' h
theorem repIdx {T : Nat → Prop} {W : World} (n : Int) (hn : (Lit.int .i64 n).wf = true) {R b : Nat} (hb : W.heap[b]? = some (.cells #[.int .i64 n] 3)) (hne : T b ∧ b ≠ R) : RepEl (fun b => T b ∧ b ≠ R) W (.idx n) [.pointer none, .pointer none, .pointer none, .pointer (some ⟨b, 0, none⟩)] :=
  ⟨b, 0, hne, rfl, (cell_of_heap hb 0).trans rfl, hn⟩
set_option maxHeartbeats 2000000 in
theorem guess_idx (S : Nat → Prop) (x : Value) (n : Int) (hn : (Lit.int .i64 n).wf = true) (ow : Nat) (al : Addr) (gb go gc : Nat) (w : World)
    (hW : w.heap[ow]? = some (.cells #[.slice none 0 0, .nilIface, .iface 75 (.pointer (some al)), .nilFunc] 65)) (hG : CandAt w gb go gc) (t : Tree) (ht : (kcode t == 6) = false) (hV : RepVal S w t x) :
    Calls Tryd.prog 19 #[.pointer (some ⟨ow, 0, none⟩), .int .i64 n, x] w fun en w' => ∃ cs', en = .returned (.agg cs'.toArray) ∧ RepEl (fun b => S b ∨ w.heap.size ≤ b) w' (.idx n) cs' ∧ Ext w w' := by
  obtain ⟨bx, v, rfl, -, hb, hT⟩ := hV
  have HT := hid hT
  have HB := hid hb
  have HK := hid ht
  have HW := hid hW
  have HN := hid hn
  clear hT hb ht hW hG hn
  have HX0 := hid (first_heap w (.cells #[.int .i64 n] 3) (.cells #[.pointer none, .pointer none, .pointer none, .pointer none] 40))
  have HX1 := hid (second_heap w (.cells #[.int .i64 n] 3) (.cells #[.pointer none, .pointer none, .pointer none, .pointer none] 40))
  have HE1 := hid (((Ext.refl w).alloc (.cells #[.int .i64 n] 3)).alloc (.cells #[.pointer none, .pointer none, .pointer none, .pointer none] 40))
  have HSZ := hid (show ((w.alloc (.cells #[.int .i64 n] 3)).alloc (.cells #[.pointer none, .pointer none, .pointer none, .pointer none] 40)).heap.size = w.heap.size + 2 by simp)
  go_enter_defers Tryd.func19, Tryd.ntmps19
  go_upto_region 1 with fail
  generalize (w.alloc (.cells #[.int .i64 n] 3)).alloc (.cells #[.pointer none, .pointer none, .pointer none, .pointer none] 40) = w1 at *
  have hc := (cell_of_heap (HE1.out.block HB.out) 0).trans rfl
  go_wp2_with (go_at_call 65; refine (is_IsMap S t v _ (HT.out.ext HE1.out)).mono ?_; rintro e w2 ⟨rfl, hE⟩; rw [HK.out]; have HE2 := hid (HE1.out.trans hE); have Y0 := hid (hE.block HX0.out); have Y1 := hid (hE.block HX1.out); obtain ⟨⟨z0, z1, z2, z3⟩, f0, f1, f2, f3⟩ := slot4f Y1.out; clear hE hc)
  change bodyPostD _ _ _ _ _ (set4 w2 (w.heap.size + 1) (.pointer none) (.pointer none) (.pointer none) (.pointer (some ⟨w.heap.size, 0, none⟩)))
  obtain ⟨e4, hr4, x4⟩ := put4' (T := fun b => S b ∨ w.heap.size ≤ b) (w := w) (e := .idx n) Y1.out (Nat.le_succ _) HE2.out (v0 := .pointer none) (v1 := .pointer none) (v2 := .pointer none) (v3 := .pointer (some ⟨w.heap.size, 0, none⟩)) (repIdx n HN.out Y0.out ⟨.inr (Nat.le_refl _), by omega⟩) _ rfl
  generalize set4 w2 (w.heap.size + 1) (.pointer none) (.pointer none) (.pointer none) (.pointer (some ⟨w.heap.size, 0, none⟩)) = WF at *
  obtain ⟨⟨y0, y1, y2, y3⟩, -⟩ := slot4f e4
  exact ⟨.agg #[.pointer none, .pointer none, .pointer none, .pointer (some ⟨w.heap.size, 0, none⟩)], by simp [results, Tryd.results19, go_sem, y0, y1, y2, y3], _, rfl, hr4, x4⟩
set_option maxHeartbeats 4000000 in
theorem guess_map (S : Nat → Prop) (x : Value) (n : Int) (hn : (Lit.int .i64 n).wf = true) (ow : Nat) (al : Addr) (gb go gc : Nat) (w : World)
    (hW : w.heap[ow]? = some (.cells #[.slice none 0 0, .nilIface, .iface 75 (.pointer (some al)), .nilFunc] 65)) (hG : CandAt w gb go gc) (m : List (ByteArray × Tree)) (hV : RepVal S w (.map m) x) :
    Calls Tryd.prog 19 #[.pointer (some ⟨ow, 0, none⟩), .int .i64 n, x] w fun en w' => ∃ cs', en = .returned (.agg cs'.toArray) ∧ RepEl (fun b => S b ∨ w.heap.size ≤ b) w' (guessEl n (.map m)) cs' ∧ Ext w w' := by
  obtain ⟨i0, hi, hz0, hz1, hz2⟩ := info_parts info_field
  obtain ⟨bx, v, rfl, -, hb, hT⟩ := hV
  obtain ⟨r, rfl, -, hM⟩ := hT.toM
  have HM := hid (show RepM (fun b => S b ∧ b < w.heap.size) w m r from hM.mono (Same.refl _ _) (fun b h1 h => ⟨h1, h⟩) rfl)
  have HT := hid hT
  have HB := hid hb
  have HW := hid hW
  have HN := hid hn
  have HG := hid hG
  clear hT hb hW hG hn hM
  have HX0 := hid (first_heap w (.cells #[.int .i64 n] 3) (.cells #[.pointer none, .pointer none, .pointer none, .pointer none] 40))
  have HX1 := hid (second_heap w (.cells #[.int .i64 n] 3) (.cells #[.pointer none, .pointer none, .pointer none, .pointer none] 40))
  have HE1 := hid (((Ext.refl w).alloc (.cells #[.int .i64 n] 3)).alloc (.cells #[.pointer none, .pointer none, .pointer none, .pointer none] 40))
  have HSZ := hid (show ((w.alloc (.cells #[.int .i64 n] 3)).alloc (.cells #[.pointer none, .pointer none, .pointer none, .pointer none] 40)).heap.size = w.heap.size + 2 by simp)
  go_enter_defers Tryd.func19, Tryd.ntmps19
  go_upto_region 1 with fail
  generalize (w.alloc (.cells #[.int .i64 n] 3)).alloc (.cells #[.pointer none, .pointer none, .pointer none, .pointer none] 40) = w1 at *
  have hc := (cell_of_heap (HE1.out.block HB.out) 0).trans rfl
  have hc2 := (cell_of_heap (HE1.out.block HW.out) 2).trans rfl
  go_upto_region 3 with (go_at_call 65; refine (show Calls Tryd.prog 65 #[.agg #[.iface 88 (.map (some r))]] w1 fun e w' => e = .returned (.bool true) ∧ Ext w1 w' from is_IsMap S (.map m) _ _ (HT.out.ext HE1.out)).mono ?_; rintro e w2 ⟨rfl, hE⟩; have HE2 := hid hE; have Z0 := hid (hE.block HX0.out); have Z1 := hid (hE.block HX1.out); have c0 := hE.cellS hc; have c2 := hE.cellS hc2; clear hE hc hc2)
  have HE12 := hid (HE1.out.trans HE2.out)
  have HS2 := hid (show w.heap.size + 2 ≤ w2.heap.size by have := HSZ.out; have := HE2.out.size; omega)
  clear HE1 HE2 HX0 HX1 HSZ
  go_still_tail 7, (by kernel_rfl)
  change wpList _ _ _ _ _ w2.drew
  have HED := hid (HE12.out.trans (Ext.refl w2).drew)
  have HSD := hid (show w.heap.size + 2 ≤ w2.drew.heap.size by simpa using HS2.out)
  have Y0 := hid (show w2.drew.heap[w.heap.size]? = some (.cells #[.int .i64 n] 3) from (Ext.refl w2).drew.block Z0.out)
  have Y1 := hid (show w2.drew.heap[w.heap.size + 1]? = some (.cells #[.pointer none, .pointer none, .pointer none, .pointer none] 40) from (Ext.refl w2).drew.block Z1.out)
  have c0' := (Ext.refl w2).drew.cellS c0
  clear Z0 Z1 HE12 HS2 c0 c2
  generalize w2.drew = wd at *
  go_upto_region 5 with (go_at_call 59; refine (asmapu_any r _ _).mono ?_; rintro e w3 ⟨rfl, hE⟩; have HE3 := hid (HED.out.trans hE); have X0 := hid (hE.block Y0.out); have X1 := hid (hE.block Y1.out); have HS3 := hid (Nat.le_trans HSD.out hE.size); have c4 := (cell_of_heap (HE3.out.block HW.out) 2).trans rfl; clear hE c0')
  have HNB := hid (show w.heap.size + 2 ≤ w3.heap.size from HS3.out)
  have HM3 := hid (HM.out.ext HE3.out)
  clear HM HSD HS3 Y0 Y1 HED
  have HC := hid (HG.out.ext HE3.out)
  have g0 := ((HC.out.ext ((Ext.refl w3).alloc (.cells #[.slice none 0 0] 53))).cell)
  have HV0 := hid (heap_alloc_new w3 (.cells #[.slice none 0 0] 53))
  have HE4 := hid (HE3.out.alloc (.cells #[.slice none 0 0] 53))
  go_wp2_with fail
  have HL := hid (show ∀ ks : List ByteArray, (candFs m ks).length ≤ ks.length from candFs_le m)
  have F0 := hid (show w.heap.size + 2 ≤ w3.heap.size from HNB.out)
  go_loopw [33] (fun i wr => ∃ (k c : Nat) (v : Value) (ys : List Value), i = .int .i64 k ∧ k ≤ 3 ∧ c ≤ 3 ∧ Hid (c = (candFs m (cand.take k)).length) ∧ Hid (wr.heap[w3.heap.size]? = some (.cells #[v] 53)) ∧ Hid (wr.ownsRow (w3.heap.size + 1) 55 2 v c ys) ∧ Hid (RowFs (fun b => (S b ∨ w.heap.size ≤ b) ∧ b ≠ w.heap.size + 1 ∧ b ≠ w3.heap.size ∧ some b ≠ v.ownBlock) wr ys (candFs m (cand.take k))) ∧ Hid (Ext w3 wr) ∧ Hid (w3.heap.size + 1 ≤ wr.heap.size)) (fun i _ => 3 - (intOf i).toNat)
  case atStart => exact ⟨0, 0, .slice none 0 0, [], rfl, by omega, by omega, hid rfl, HV0, hid (World.ownsRow_nil _ _ _ _), hid (RowFs.nil _ _), hid ((Ext.refl w3).alloc _), hid (by simp)⟩
  case round =>
    obtain ⟨k, c, v, ys, rfl, hk, hc3, HQ, HV, HO, HF, HE, HS⟩ := hrel
    obtain ⟨va, vc, rfl⟩ := own_form HO.out
    have y0 := (cell_of_heap HV.out 0).trans rfl
    have y0f := free_of_heap HV.out 0
    by_cases h1 : k < 3
    · obtain ⟨s, hs⟩ : ∃ s, cand[k]? = some s := ⟨_, List.getElem?_eq_getElem (show k < cand.length from h1)⟩
      have j1 := HE.out.cellS (HC.out.at_ k s hs)
      have hi0 : (0 : Int) ≤ (k : Int) := by omega
      have hi1 : (k : Int) < ((3 : Nat) : Int) := by omega
      have hi2 : (k : Int) < 3 := by omega
      have HSS := hid (cand_size hs)
      have HTK := hid (show candFs m (cand.take (k + 1)) = candFs m (cand.take k) ++ oneF m s by rw [cand_take hs, candFs_snoc])
      have GC := hid (fun W (hW : Ext wr W) => get_any (fun b => S b ∧ b < w.heap.size) m r s W (HM3.out.ext (HE.out.trans hW)))
      clear hs
      have stay : ∀ wn : World, Ext wr wn → candFs m (cand.take (k + 1)) = candFs m (cand.take k) → ∃ (k' c' : Nat) (v' : Value) (ys' : List Value), Value.int .i64 ((k : Int) + 1) = .int .i64 (k' : Int) ∧ k' ≤ 3 ∧ c' ≤ 3 ∧ Hid (c' = (candFs m (cand.take k')).length) ∧ Hid (wn.heap[w3.heap.size]? = some (.cells #[v'] 53)) ∧ Hid (wn.ownsRow (w3.heap.size + 1) 55 2 v' c' ys') ∧ Hid (RowFs (fun b => (S b ∨ w.heap.size ≤ b) ∧ b ≠ w.heap.size + 1 ∧ b ≠ w3.heap.size ∧ some b ≠ v'.ownBlock) wn ys' (candFs m (cand.take k'))) ∧ Hid (Ext w3 wn) ∧ Hid (w3.heap.size + 1 ≤ wn.heap.size) := fun wn hE he =>
        ⟨k + 1, c, _, ys, by go_num, by omega, hc3, hid (by rw [he]; exact HQ.out), hid (hE.block HV.out), hid (ownsRow_ext HO.out hE), hid (by rw [he]; exact HF.out.mono (hE.same _) (fun _ h _ => h)), hid (HE.out.trans hE), hid (Nat.le_trans HS.out hE.size)⟩
      have STAY := hid stay
      clear stay
      cases hf : lookKV m s with
      | none =>
        have HNX := hid ((HTK.out).trans (by rw [oneF_none hf, List.append_nil]))
        have HF0 := hid hf
        clear hf
        go_wp2_with (go_at_call 74; refine (GC.out _ (Ext.refl _)).mono ?_; rintro e w5 hgot; obtain ⟨rfl, hE⟩ := got_none hgot HF0.out; have HE5 := hid hE; clear hE hgot)
        exact ⟨STAY.out _ HE5.out HNX.out, by simp [intOf]; omega⟩
      | some x =>
        have HF0 := hid hf
        clear hf
        go_upto_region 11 with (go_at_call 74; refine (GC.out _ (Ext.refl _)).mono ?_; rintro e w5 hgot; obtain ⟨b5, v5, rfl, hb5, hh5, hT5, hE⟩ := got_some hgot HF0.out; have HE5 := hid hE; have HT5 := hid hT5; have HB5 := hid hb5; have HH5 := hid hh5; clear hE hgot hb5 hh5 hT5)
        have q5 := (cell_of_heap HH5.out 0).trans rfl
        have N0 := hid (fun W (hW : Ext w5 W) => is_IsNull _ x v5 W (HT5.out.ext hW))
        have N6 := hid (fun W (hW : Ext w5 W) => is_IsMap _ x v5 W (HT5.out.ext hW))
        have N5 := hid (fun W (hW : Ext w5 W) => is_IsList _ x v5 W (HT5.out.ext hW))
        have bad : scalT x = false → candFs m (cand.take (k + 1)) = candFs m (cand.take k) := fun h => (HTK.out).trans (by rw [oneF_bad HF0.out h, List.append_nil])
        cases hk0 : (kcode x == 0)
        case true =>
          have HNX := hid (bad (by simp [scalT, hk0]))
          have HK0 := hid hk0
          clear bad hk0
          go_wp2_with (go_at_call 66; refine (N0.out _ (Ext.refl _)).mono ?_; rintro e w6 ⟨rfl, hE⟩; rw [HK0.out]; have HE6 := hid (HE5.out.trans hE); clear hE)
          exact ⟨STAY.out _ HE6.out HNX.out, by simp [intOf]; omega⟩
        cases hk6 : (kcode x == 6)
        case true =>
          have HNX := hid (bad (by simp [scalT, hk6]))
          have HK0 := hid hk0
          have HK6 := hid hk6
          clear bad hk0 hk6
          go_wp2_with (first | (go_at_call 66; refine (N0.out _ (Ext.refl _)).mono ?_; rintro e w6 ⟨rfl, hE⟩; rw [HK0.out]; have HE6 := hid hE; have q6 := hE.cellS q5; clear hE) | (go_at_call 65; refine (N6.out _ HE6.out).mono ?_; rintro e w7 ⟨rfl, hE⟩; rw [HK6.out]; have HE7 := hid (HE5.out.trans (HE6.out.trans hE)); clear hE))
          exact ⟨STAY.out _ HE7.out HNX.out, by simp [intOf]; omega⟩
        cases hk5 : (kcode x == 5)
        case true =>
          have HNX := hid (bad (by simp [scalT, hk5]))
          have HK0 := hid hk0
          have HK6 := hid hk6
          have HK5 := hid hk5
          clear bad hk0 hk6 hk5
          go_wp2_with (first | (go_at_call 66; refine (N0.out _ (Ext.refl _)).mono ?_; rintro e w6 ⟨rfl, hE⟩; rw [HK0.out]; have HE6 := hid hE; have q6 := hE.cellS q5; clear hE) | (go_at_call 65; refine (N6.out _ HE6.out).mono ?_; rintro e w7 ⟨rfl, hE⟩; rw [HK6.out]; have HE7 := hid (HE6.out.trans hE); have q7 := HE7.out.cellS q5; clear hE) | (go_at_call 64; refine (N5.out _ HE7.out).mono ?_; rintro e w8 ⟨rfl, hE⟩; rw [HK5.out]; have HE8 := hid (HE5.out.trans (HE7.out.trans hE)); clear hE))
          exact ⟨STAY.out _ HE8.out HNX.out, by simp [intOf]; omega⟩
        case false =>
        have HNX := hid ((HTK.out).trans (by rw [oneF_some HF0.out (by simp [scalT, hk0, hk6, hk5])]))
        have HK0 := hid hk0
        have HK6 := hid hk6
        have HK5 := hid hk5
        clear bad hk0 hk6 hk5
        go_upto_region 12 with (first | (go_at_call 66; refine (N0.out _ (Ext.refl _)).mono ?_; rintro e w6 ⟨rfl, hE⟩; rw [HK0.out]; have HE6 := hid hE; have q6 := hE.cellS q5; clear hE) | (go_at_call 65; refine (N6.out _ HE6.out).mono ?_; rintro e w7 ⟨rfl, hE⟩; rw [HK6.out]; have HE7 := hid (HE6.out.trans hE); have q7 := HE7.out.cellS q5; clear hE) | (go_at_call 64; refine (N5.out _ HE7.out).mono ?_; rintro e w8 ⟨rfl, hE⟩; rw [HK5.out]; have HE58 := hid (HE7.out.trans hE); have HE8 := hid (HE5.out.trans (HE7.out.trans hE)); clear hE))
        have y8 := (cell_of_heap (HE8.out.block HV.out) 0).trans rfl
        have y8f := free_of_heap (HE8.out.block HV.out) 0
        have HX8 := hid (show RepVal (fun b => (S b ∧ b < w.heap.size) ∨ wr.heap.size ≤ b) w8 x (.iface 85 (.pointer (some ⟨b5, 0, none⟩))) from RepVal.ext HE58.out ⟨b5, v5, rfl, HB5.out, HH5.out, HT5.out⟩)
        clear y0 y0f j1 q5 q6 q7 N0 N6 N5 HE7 HE6 HE58 HT5 HB5 HH5 HK0 HK5 HK6 HE5
        have HNV := hid (show some w3.heap.size ≠ (Value.slice va c vc).ownBlock from fun e => by have := own_ge HO.out _ e.symm; omega)
        go_wp2_with (at_builtin; refine wpList_append_lies _ rfl (.tmp 55) (.tmp 59) 53 rfl (w3.heap.size + 1) 55 i0 _ 2 32 Tryd.underlying53 hi hz0 hz1 hz2 rfl (by decide) _ c ys rfl ((ownsRow_ext HO.out HE8.out).alloc _) ⟨w8.heap.size, 0, none⟩ 1 1 [.string s, .iface 85 (.pointer (some ⟨b5, 0, none⟩))] rfl rfl (cells_new w8 [.string s, .iface 85 (.pointer (some ⟨b5, 0, none⟩))] _) (by simp [Value.oneCell']) (by decide) (by unfold maxLen; omega) (by omega) (by have := HS.out; have := HE8.out.size; simp; omega) (w8.heap.size + 1) (by simp) ?_; intro g9 cap9 w9 hown9 hg9 hat9 hlt9; have ST := hid (row_step HS.out HO.out HE8.out hown9 hg9 hat9); have HV9 := hid ((hg9.block w3.heap.size (by have := HS.out; have := HE8.out.size; simp; omega) HNV.out).trans (((Ext.refl w8).alloc _).block (HE8.out.block HV.out))); have HO9 := hid hown9; clear hown9 hg9 hat9 hlt9 y8 y8f; have y9 := (cell_of_heap HV9.out 0).trans rfl; have y9f := free_of_heap HV9.out 0)
        have hvar : some w3.heap.size ≠ (Value.slice (some ⟨g9, 0, none⟩) (c + 1) cap9).ownBlock := fun e => by have := own_ge HO9.out _ e.symm; omega
        have HB9 := hid ST.out.2.2.2.2.1
        have hcc : c ≤ k := by rw [HQ.out]; refine Nat.le_trans (HL.out _) ?_; simp; omega
        refine ⟨⟨k + 1, c + 1, _, _, by go_num, by omega, by omega, hid (by rw [HNX.out, List.length_append, ← HQ.out]; rfl), hid ((setCell_heap HV9.out 0 _).trans rfl), hid (own_setCell_ne HO9.out hvar _), hid ?_, hid (Below.setCell (Below.trans (B := w3.heap.size) HE.out (HB9.out.mono (Nat.le_succ _))) (Nat.le_refl _) _), hid (by have := HS.out; have := ST.out.2.2.2.2.2.1; simp; omega)⟩, by simp [intOf]; omega⟩
        rw [HNX.out]
        have hF0 := F0.out
        refine (HF.out.mono (S' := fun b => (S b ∨ w.heap.size ≤ b) ∧ b ≠ w.heap.size + 1 ∧ b ≠ w3.heap.size ∧ some b ≠ (Value.slice (some ⟨g9, 0, none⟩) (c + 1) cap9).ownBlock) (fun b ob hb hob => ?_) (fun b hb hlt => ⟨hb.1, hb.2.1, hb.2.2.1, fun e => ST.out.2.1 b hlt hb.2.2.2 (Option.some.inj e)⟩)).snoc HSS.out (HX8.out.mono (fun b ob hb hob => ?_) (fun b hb hlt => ?_))
        · rw [Below.heap_setCell _ _ _ _ (show b ≠ w3.heap.size from hb.2.2.1)]
          rcases Nat.lt_or_ge b (w3.heap.size + 1) with h | h
          · exact (Below.block HB9.out b h).trans hob
          · exact ST.out.1 b ob ⟨h, hb.2.2.2⟩ hob
        · have := HS.out
          rcases hb with ⟨hS', h⟩ | h
          · rw [Below.heap_setCell _ _ _ _ (show b ≠ w3.heap.size by omega)]
            exact (Below.block HB9.out b (by omega)).trans ((Below.block HE8.out b (by omega)).symm.trans hob)
          · have h' : wr.heap.size ≤ b := h
            rw [Below.heap_setCell _ _ _ _ (show b ≠ w3.heap.size by omega)]
            exact ST.out.2.2.1 b ob h' hob
        · have := HS.out
          rcases hb with ⟨hS', h⟩ | h
          · exact ⟨.inl hS', by omega, by omega, fun e => by have h1 : g9 = b := (Option.some.inj e).symm; have := ST.out.2.2.2.2.2.2; omega⟩
          · have h' : wr.heap.size ≤ b := h
            exact ⟨.inr (by omega), by omega, by omega, fun e => ST.out.2.2.2.1 b h' hlt (Option.some.inj e)⟩
    · have hkk : k = 3 := by omega
      subst hkk
      have d1 : ¬ (((3 : Nat) : Int) < ((3 : Nat) : Int)) := by omega
      have HTC := hid (show cand.take 3 = cand from rfl)
      have HFL := hid (show candFs m (cand.take 3) = candFs m cand by rw [HTC.out])
      have HR9 := hid (HE.out.block X1.out)
      have HI9 := hid (HE.out.block X0.out)
      have HEW := hid (HE3.out.trans HE.out)
      have HNV := hid (show some w3.heap.size ≠ (Value.slice va c vc).ownBlock from fun e => by have := own_ge HO.out _ e.symm; omega)
      have hF0 := F0.out
      by_cases hc0 : c = 0
      · subst hc0
        have HZ := hid (show guessEl n (.map m) = .idx n by have h := HQ.out; rw [HFL.out] at h; simp [guessEl, ← h])
        obtain ⟨⟨z0, z1, z2, z3⟩, f0, f1, f2, f3⟩ := slot4f HR9.out
        go_wp2_with fail
        change bodyPostD _ _ _ _ _ (set4 wr (w.heap.size + 1) (.pointer none) (.pointer none) (.pointer none) (.pointer (some ⟨w.heap.size, 0, none⟩)))
        obtain ⟨e4, hr4, x4⟩ := put4' (T := fun b => S b ∨ w.heap.size ≤ b) (w := w) (e := .idx n) HR9.out (Nat.le_succ _) HEW.out (v0 := .pointer none) (v1 := .pointer none) (v2 := .pointer none) (v3 := .pointer (some ⟨w.heap.size, 0, none⟩)) (repIdx n HN.out HI9.out ⟨.inr (Nat.le_refl _), by omega⟩) _ rfl
        generalize set4 wr (w.heap.size + 1) (.pointer none) (.pointer none) (.pointer none) (.pointer (some ⟨w.heap.size, 0, none⟩)) = WF at *
        obtain ⟨⟨y0, y1, y2, y3⟩, -⟩ := slot4f e4
        rw [HZ.out]
        refine leaves_cons (f := 51) (args := #[.pointer (some al), .iface 128 (.map (some r))]) (by simp) (by simp [go_sem]) ?_
        refine (free_g al _ _ .returning _).mono ?_
        rintro e u' w'' ⟨rfl, rfl, rfl⟩
        exact ⟨.agg #[.pointer none, .pointer none, .pointer none, .pointer (some ⟨w.heap.size, 0, none⟩)], by simp [results, Tryd.results19, go_sem, y0, y1, y2, y3], _, rfl, hr4, x4⟩
      · have hc1 : (0 : Int) < (c : Int) := by omega
        have HZ := hid (show guessEl n (.map m) = .key (sortP (candFs m cand)) by have h := HQ.out; rw [HFL.out] at h; simp only [guessEl]; rw [if_neg (by omega)])
        have HNR := hid (show some (w.heap.size + 1) ≠ (Value.slice va c vc).ownBlock from fun e => by have := own_ge HO.out _ e.symm; omega)
        go_wp2_with (go_at_call 27; refine (sortFs_any _ _ _ c (w3.heap.size + 1) _ _ HO.out HF.out (fun b hb => hb.2.2.2) (by have := HQ.out; omega)).mono ?_; rintro en w8 ⟨rfl, ⟨xs8, h8, r8⟩, g8⟩; have H8 := hid (And.intro h8 (And.intro r8 g8)); have HR8 := hid ((g8.block (w.heap.size + 1) (by have := HS.out; omega) HNR.out).trans HR9.out); obtain ⟨⟨z0, z1, z2, z3⟩, f0, f1, f2, f3⟩ := slot4f HR8.out; clear h8 r8 g8)
        have HE8 := hid (show Ext w w8 from by
          refine Below.trans (B := w.heap.size) HEW.out ⟨H8.out.2.2.os, H8.out.2.2.tape, H8.out.2.2.output, ?_, fun i hi => ?_⟩
          · have := H8.out.2.2.size; have := HEW.out.size; omega
          · exact H8.out.2.2.block i (by have := HEW.out.size; omega) (fun e => by have := own_ge HO.out i e.symm; omega))
        have HV8 := hid ((H8.out.2.2.block w3.heap.size (by have := HS.out; omega) HNV.out).trans HV.out)
        have HF8 := hid (show RepEl (fun b => (S b ∨ w.heap.size ≤ b) ∧ b ≠ w.heap.size + 1) w8 (.key (sortP (candFs m cand))) [.pointer none, .pointer (some ⟨w3.heap.size, 0, none⟩), .pointer none, .pointer none] from ⟨w3.heap.size, 0, ⟨.inr (by omega), by omega⟩, rfl, .slice va c vc, (cell_of_heap HV8.out 0).trans rfl, by
          have h := H8.out.2.1
          rw [HFL.out] at h
          exact fs_of_row H8.out.1 (h.mono (Same.refl _ _) (S' := fun b => (S b ∨ w.heap.size ≤ b) ∧ b ≠ w.heap.size + 1) (fun b hb _ => ⟨hb.1, hb.2.1⟩)) (fun b hb => ⟨.inr (by omega), by omega⟩) (by rw [sortP_length]; have := HL.out cand; have e : cand.length = 3 := rfl; omega)⟩)
        change bodyPostD _ _ _ _ _ (set4 w8 (w.heap.size + 1) (.pointer none) (.pointer (some ⟨w3.heap.size, 0, none⟩)) (.pointer none) (.pointer none))
        obtain ⟨e4, hr4, x4⟩ := put4' (T := fun b => S b ∨ w.heap.size ≤ b) (w := w) (e := .key (sortP (candFs m cand))) HR8.out (Nat.le_succ _) HE8.out (v0 := .pointer none) (v1 := .pointer (some ⟨w3.heap.size, 0, none⟩)) (v2 := .pointer none) (v3 := .pointer none) HF8.out _ rfl
        generalize set4 w8 (w.heap.size + 1) (.pointer none) (.pointer (some ⟨w3.heap.size, 0, none⟩)) (.pointer none) (.pointer none) = WF at *
        obtain ⟨⟨y0, y1, y2, y3⟩, -⟩ := slot4f e4
        rw [HZ.out]
        refine leaves_cons (f := 51) (args := #[.pointer (some al), .iface 128 (.map (some r))]) (by simp) (by simp [go_sem]) ?_
        refine (free_g al _ _ .returning _).mono ?_
        rintro e u' w'' ⟨rfl, rfl, rfl⟩
        exact ⟨.agg #[.pointer none, .pointer (some ⟨w3.heap.size, 0, none⟩), .pointer none, .pointer none], by simp [results, Tryd.results19, go_sem, y0, y1, y2, y3], _, rfl, hr4, x4⟩
end Go.Proofs.YtempfaefopfobaaDoor
