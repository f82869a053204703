/- ElemArg: arguments of type impl.Elem; spec.CompareElems of any two. -/
import Derived.Test.YtempfaefopfobaaElRep
import Derived.Test.YtempfaefopfobaaElemEqu
import Derived.StillTailTactics
import Derived.Deep.QuietTactic
import Derived.BigQuiet
import Derived.Test.YtempfaefopfobaaOrdElem
import Derived.Test.YtempfaefopfobaaRefl

section
set_option maxRecDepth 100000
namespace Go.Proofs.Ytempfaefopfobaa
open Go.ChangeShapes Go.WideShapes Go.ChangeAt Go.RowKit
set_option linter.unusedVariables false
set_option linter.unusedSimpArgs false

section
variable {H : Type} {enc : TypeId × Value → H} {w : World} {base : Nat} {spare : Nat → Bool} {held : Bool}
theorem open_gvl (fuel : Nat) (cs : List Value) (x : DataW H × List MemPlace) (h : DataW.trod enc Try.prog w base spare held fuel 27 cs = some x) (hw : Wt Try.prog 27 x.1) : ∃ v l, cs = [v] ∧ RepVals Any w v l := by
  obtain ⟨a, b, o, len, cap, rfl, hl, hb, ha, hel⟩ := open_sl Try.underlying27 (by rw [cellsV]; omega) h hw
  rw [bytesV] at hb
  rw [cellsV] at hel
  have key : ∀ i, i < len → ∃ g, ∃ cs', cs'.length = 6 ∧ cellsAt w b (o + i * 6) cs' ∧ RepGV Any w g cs' := by
    intro i hi
    obtain ⟨n', cs', y, hn', h6, h7, h8, h9⟩ := hel i hi
    obtain ⟨g, hg⟩ := open_gv n' cs' y h8 h9
    exact ⟨g, cs', h6, h7, hg⟩
  haveI : Inhabited GV := ⟨.mk 0 0 0 ByteArray.empty [] []⟩
  obtain ⟨fg, hfg⟩ := Deep.choose_lt (α := GV) key
  refine ⟨_, (List.range len).map fg, rfl, a, b, o, cap, by simp, by simpa using hl, by simpa using hb, fun h0 => ⟨ha (by simpa using h0), trivial⟩, fun i hi => ?_, fun i g cs' hg hlen hc => ?_⟩
  · obtain ⟨cs', h6, h7, _⟩ := hfg i (by simpa using hi)
    exact ⟨cs', h6, h7⟩
  · simp only [List.getElem?_map, Option.map_eq_some_iff] at hg
    obtain ⟨j, hj, rfl⟩ := hg
    obtain ⟨hj1, hj2⟩ := List.getElem?_eq_some_iff.1 hj
    simp at hj1 hj2
    subst hj2
    obtain ⟨cs2, h6, h7, h8⟩ := hfg i hj1
    obtain rfl := cellsAt_unique hc h7 (hlen.trans h6.symm)
    exact h8
theorem cellsE : Try.prog.cellsOf 34 = 11 := by kernel_rfl
theorem open_ge (fuel : Nat) (cs : List Value) (x : DataW H × List MemPlace) (h : DataW.trod enc Try.prog w base spare held fuel 34 cs = some x) (hw : Wt Try.prog 34 x.1) : ∃ e, RepGE Any w e cs := by
  obtain ⟨n, rfl, hlen, hf⟩ := open_field Try.underlying34 h hw
  rw [cellsE] at hlen
  obtain ⟨c0, c1, c2, c3, c4, c5, c6, c7, c8, c9, c10, rfl⟩ : ∃ c0 c1 c2 c3 c4 c5 c6 c7 c8 c9 c10, cs = [c0, c1, c2, c3, c4, c5, c6, c7, c8, c9, c10] := by
    match cs, hlen with
    | [c0, c1, c2, c3, c4, c5, c6, c7, c8, c9, c10], _ => exact ⟨c0, c1, c2, c3, c4, c5, c6, c7, c8, c9, c10, rfl⟩
  obtain ⟨y0, h0, _⟩ := hf 0 3 0 rfl
  obtain ⟨y1, h1, w1⟩ := hf 1 9 1 rfl
  obtain ⟨y2, h2, w2⟩ := hf 2 26 2 rfl
  obtain ⟨y3, h3, w3⟩ := hf 3 27 3 rfl
  obtain ⟨y4, h4, w4⟩ := hf 4 32 4 rfl
  obtain ⟨y5, h5, w5⟩ := hf 5 3 10 rfl
  simp only [cells_int, cells_strs, cells_vals, cellsStr, cellsV, List.drop, List.take] at h0 h1 h2 h3 h4 h5
  obtain ⟨k, e0, _, wk⟩ := DataW.trod_int Try.underlying3 h0
  obtain ⟨s, e1, hs⟩ := open_str Try.underlying9 h1 w1
  obtain ⟨kv, ks, e2, hks⟩ := open_strs Try.underlying26 Try.underlying9 cellsStr bytesStr h2 w2
  obtain ⟨lv, l, e3, hl⟩ := open_gvl _ _ _ h3 w3
  obtain ⟨g, hg⟩ := open_gv _ _ _ h4 w4
  obtain ⟨m, e5, _, wm⟩ := DataW.trod_int Try.underlying3 h5
  simp only [List.cons.injEq, and_true] at e0 e1 e2 e3 e5
  subst e0 e1 e2 e3 e5
  obtain ⟨ka, kb, ko, kc, rfl, hk2⟩ := id hks
  obtain ⟨la, lb, lo, lc, rfl, hl2⟩ := id hl
  exact ⟨⟨k, s, ks, l, g, m⟩, ka, kc, la, lc, _, _, _, _, _, _, rfl, wk, wm, hs, hks, hl, hg⟩
end
end Go.Proofs.Ytempfaefopfobaa
end

/- Path: paths of the package; Path.Compare, Path.Equals. -/
section
set_option maxRecDepth 100000
namespace Go.Proofs.Ytempfaefopfobaa
open Go.ChangeShapes Go.WideShapes Go.ChangeAt Go.RowKit
set_option linter.unusedVariables false
set_option linter.unusedSimpArgs false

/-- a path of the package -/
def RepPath (S : Nat → Prop) (w : World) (v : Value) (p : List El) : Prop :=
  ∃ a b o cap, v = .slice a p.length cap ∧ p.length ≤ cap ∧ p.length * 168 ≤ 140737488351232 ∧ (0 < p.length → a = some ⟨b, o, none⟩ ∧ S b) ∧
    ∀ (i : Nat) (e : El), p[i]? = some e → ∃ c0 c1 c2 c3, cellsAt w b (o + i * 4) [c0, c1, c2, c3] ∧ RepEl S w e [c0, c1, c2, c3]
theorem cells4 {w : World} {b o : Nat} {c0 c1 c2 c3 : Value} (h : cellsAt w b o [c0, c1, c2, c3]) :
    w.cell? ⟨b, o, none⟩ = some c0 ∧ w.cell? ⟨b, o + 1, none⟩ = some c1 ∧ w.cell? ⟨b, o + 2, none⟩ = some c2 ∧ w.cell? ⟨b, o + 3, none⟩ = some c3 := ⟨by simpa using h 0 c0 rfl, h 1 c1 rfl, h 2 c2 rfl, h 3 c3 rfl⟩
theorem cellsAt_same {S : Nat → Prop} {w w' : World} (h : Same S w w') {b o : Nat} (hb : S b) {cs : List Value} (hc : cellsAt w b o cs) : cellsAt w' b o cs := fun j v hv => h.cell hb (hc j v hv)
theorem RepPath.mono {S S' : Nat → Prop} {w w' : World} (h : Same S w w') (hS : ∀ b, S b → b < w.heap.size → S' b) {v : Value} {p : List El} : RepPath S w v p → RepPath S' w' v p := by
  rintro ⟨a, b, o, cap, h1, h2, h3, h4, h5⟩
  have hpos : ∀ i e, p[i]? = some e → 0 < p.length := fun i s hs => by have := (List.getElem?_eq_some_iff.1 hs).1; omega
  refine ⟨a, b, o, cap, h1, h2, h3, fun h0 => ⟨(h4 h0).1, hS _ (h4 h0).2 ?_⟩, fun i e he => ?_⟩
  · obtain ⟨c0, c1, c2, c3, k1, -⟩ := h5 0 _ (List.getElem?_eq_getElem h0)
    exact World.block_lt_of_cell? w _ (cells4 k1).1
  · obtain ⟨c0, c1, c2, c3, k1, k2⟩ := h5 i e he
    exact ⟨c0, c1, c2, c3, cellsAt_same h (h4 (hpos i e he)).2 k1, k2.mono h hS⟩
theorem RepPath.ext {S : Nat → Prop} {w w' : World} (h : Ext w w') {v : Value} {p : List El} (hr : RepPath S w v p) : RepPath S w' v p := hr.mono (h.same S) (fun _ h _ => h)
theorem RepPath.weak {S S' : Nat → Prop} {w : World} (hS : ∀ b, S b → b < w.heap.size → S' b) {v : Value} {p : List El} (hr : RepPath S w v p) : RepPath S' w v p := hr.mono (Same.refl S w) hS
theorem RepPath.form {S : Nat → Prop} {w : World} {v : Value} {p : List El} (h : RepPath S w v p) : ∃ a c, v = .slice a p.length c := by
  obtain ⟨a, b, o, c, h, -⟩ := h
  exact ⟨_, _, h⟩
/-- the order of paths -/
noncomputable def cmpP : List El → List El → Int
  | [], [] => 0
  | [], _ :: _ => -1
  | _ :: _, [] => 1
  | a :: x, b :: y => if cmpE a b = 0 then cmpP x y else cmpE a b
noncomputable def eqP : List El → List El → Bool
  | [], [] => true
  | a :: x, b :: y => eqE a b && eqP x y
  | _, _ => false
theorem cmpP_step {l1 l2 : List El} {k : Nat} {p q : El} (h1 : l1[k]? = some p) (h2 : l2[k]? = some q) : cmpP (l1.drop k) (l2.drop k) = if cmpE p q = 0 then cmpP (l1.drop (k + 1)) (l2.drop (k + 1)) else cmpE p q := by
  obtain ⟨h3, rfl⟩ := List.getElem?_eq_some_iff.1 h1
  obtain ⟨h4, rfl⟩ := List.getElem?_eq_some_iff.1 h2
  rw [List.drop_eq_getElem_cons h3, List.drop_eq_getElem_cons h4]
  rfl
theorem cmpP_l {l1 l2 : List El} {k : Nat} (h1 : l1.length ≤ k) (h2 : k < l2.length) : cmpP (l1.drop k) (l2.drop k) = -1 := by
  rw [List.drop_eq_nil_of_le h1, List.drop_eq_getElem_cons h2]; rfl
theorem cmpP_r {l1 l2 : List El} {k : Nat} (h1 : k < l1.length) (h2 : l2.length ≤ k) : cmpP (l1.drop k) (l2.drop k) = 1 := by
  rw [List.drop_eq_nil_of_le h2, List.drop_eq_getElem_cons h1]; rfl
theorem cmpP_n {l1 l2 : List El} {k : Nat} (h1 : l1.length ≤ k) (h2 : l2.length ≤ k) : cmpP (l1.drop k) (l2.drop k) = 0 := by
  rw [List.drop_eq_nil_of_le h1, List.drop_eq_nil_of_le h2]; rfl
theorem eqP_step {l1 l2 : List El} {k : Nat} {p q : El} (h1 : l1[k]? = some p) (h2 : l2[k]? = some q) : eqP (l1.drop k) (l2.drop k) = (eqE p q && eqP (l1.drop (k + 1)) (l2.drop (k + 1))) := by
  obtain ⟨h3, rfl⟩ := List.getElem?_eq_some_iff.1 h1
  obtain ⟨h4, rfl⟩ := List.getElem?_eq_some_iff.1 h2
  rw [List.drop_eq_getElem_cons h3, List.drop_eq_getElem_cons h4]
  rfl
theorem eqP_len : ∀ {l1 l2 : List El}, l1.length ≠ l2.length → eqP l1 l2 = false
  | [], [], h => absurd rfl h
  | [], _ :: _, _ => rfl
  | _ :: _, [], _ => rfl
  | p :: x, q :: y, h => by
    unfold eqP
    rw [eqP_len (l1 := x) (l2 := y) (by simpa using h), Bool.and_false]
set_option maxHeartbeats 4000000 in
theorem pcmp_any (a b : List El) (v1 v2 : Value) (w : World) (h1 : RepPath Any w v1 a) (h2 : RepPath Any w v2 b) :
    Calls Try.prog 47 #[v1, v2] w fun e w' => e = .returned (.int .i64 (cmpP a b)) ∧ Ext w w' := by
  obtain ⟨a1, b1, o1, c1, rfl, l1, s1, p1, at1⟩ := h1
  obtain ⟨a2, b2, o2, c2, rfl, l2, s2, p2, at2⟩ := h2
  have HP1 := hid p1
  have HP2 := hid p2
  have HA1 := hid at1
  have HA2 := hid at2
  clear p1 p2 at1 at2
  go_enter Try.func47, Try.ntmps47
  go_wp2_with fail
  go_loopw [5] (fun i wr => ∃ k : Nat, i = .int .i64 k ∧ k ≤ a.length ∧ k ≤ b.length ∧ Hid (cmpP (a.drop k) (b.drop k) = cmpP a b) ∧ Hid (Ext w wr)) (fun i _ => a.length - (intOf i).toNat)
  case atStart => exact ⟨0, rfl, Nat.zero_le _, Nat.zero_le _, hid rfl, hid (Ext.refl _)⟩
  case round =>
    obtain ⟨k, rfl, hk1, hk2, HC, HE⟩ := hrel
    by_cases h1 : k < a.length
    · by_cases h2 : k < b.length
      · obtain ⟨p, hp⟩ : ∃ p, a[k]? = some p := ⟨_, List.getElem?_eq_getElem h1⟩
        obtain ⟨q, hq⟩ : ∃ q, b[k]? = some q := ⟨_, List.getElem?_eq_getElem h2⟩
        obtain ⟨rfl, -⟩ := HP1.out (by omega)
        obtain ⟨rfl, -⟩ := HP2.out (by omega)
        obtain ⟨x0, x1, x2, x3, kc1, hv1⟩ := HA1.out k p hp
        obtain ⟨y0, y1, y2, y3, kc2, hv2⟩ := HA2.out k q hq
        obtain ⟨j0, j1, j2, j3⟩ := cells4 (cellsAt_ext HE.out kc1)
        obtain ⟨i0, i1, i2, i3⟩ := cells4 (cellsAt_ext HE.out kc2)
        have hst := cmpP_step hp hq
        rw [HC.out] at hst
        obtain ⟨z, hz⟩ : ∃ z, cmpE p q = z := ⟨_, rfl⟩
        have HCU := hid (fun W (E : Ext w W) => pec_any p q _ _ W (hv1.ext E) (hv2.ext E))
        rw [hz] at HCU hst
        have HST := hid hst
        have hi0 : (0 : Int) ≤ (k : Int) := by omega
        have hi1 : (k : Int) < (a.length : Int) := by omega
        have hi2 : (k : Int) < (b.length : Int) := by omega
        clear hst hp hq kc1 kc2 hv1 hv2 hz
        by_cases hz : z = 0
        · subst hz
          go_wp2_with fail
          go_still_tail 8, (by kernel_rfl)
          change wpList _ _ _ _ _ wr.drew
          go_wp2_with (go_at_call 92; refine (HCU.out _ HE.out.drew).mono ?_; rintro e w3 ⟨rfl, hE⟩; have HE3 := hid (HE.out.drew.trans hE); clear hE)
          exact ⟨⟨k + 1, by go_num, by omega, by omega, hid (by have h := HST.out; simpa using h.symm), HE3⟩, by simp [intOf]; omega⟩
        · have hd : (z != 0) = true := by simp [bne, hz]
          have RES := hid (show z = cmpP a b by rw [HST.out, if_neg hz])
          clear hz
          go_wp2_with fail
          go_still_tail 8, (by kernel_rfl)
          change wpList _ _ _ _ _ wr.drew
          go_wp2_with (go_at_call 92; refine (HCU.out _ HE.out.drew).mono ?_; rintro e w3 ⟨rfl, hE⟩; have HE3 := hid (HE.out.drew.trans hE); clear hE)
          go_ret
          exact ⟨congrArg (fun z => Ending.returned (.int .i64 z)) RES.out, HE3.out⟩
      · have RES := hid (show (1 : Int) = cmpP a b by rw [← HC.out, cmpP_r h1 (by omega)])
        go_wp2_with fail
        go_ret
        exact ⟨congrArg (fun z => Ending.returned (.int .i64 z)) RES.out, HE.out⟩
    · by_cases h2 : k < b.length
      · have RES := hid (show (-1 : Int) = cmpP a b by rw [← HC.out, cmpP_l (by omega) h2])
        go_wp2_with fail
        go_ret
        exact ⟨congrArg (fun z => Ending.returned (.int .i64 z)) RES.out, HE.out⟩
      · have RES := hid (show (0 : Int) = cmpP a b by rw [← HC.out, cmpP_n (by omega) (by omega)])
        go_wp2_with fail
        go_ret
        exact ⟨congrArg (fun z => Ending.returned (.int .i64 z)) RES.out, HE.out⟩
set_option maxHeartbeats 4000000 in
theorem pequ_any (a b : List El) (v1 v2 : Value) (w : World) (h1 : RepPath Any w v1 a) (h2 : RepPath Any w v2 b) :
    Calls Try.prog 48 #[v1, v2] w fun e w' => e = .returned (.bool (eqP a b)) ∧ Ext w w' := by
  obtain ⟨a1, b1, o1, c1, rfl, l1, s1, p1, at1⟩ := h1
  obtain ⟨a2, b2, o2, c2, rfl, l2, s2, p2, at2⟩ := h2
  by_cases hlen : a.length = b.length
  · have HP1 := hid p1
    have HP2 := hid p2
    have HA1 := hid at1
    have HA2 := hid at2
    have HLN := hid hlen
    clear p1 p2 at1 at2
    rw [← hlen] at HP2 ⊢
    clear hlen
    go_enter Try.func48, Try.ntmps48
    go_wp2_with fail
    go_loopw [13] (fun i wr => ∃ k : Nat, i = .int .i64 k ∧ k ≤ a.length ∧ Hid (eqP (a.drop k) (b.drop k) = eqP a b) ∧ Hid (Ext w wr)) (fun i _ => a.length - (intOf i).toNat)
    case atStart => exact ⟨0, rfl, Nat.zero_le _, hid rfl, hid (Ext.refl _)⟩
    case round =>
      obtain ⟨k, rfl, hk1, HC, HE⟩ := hrel
      by_cases h1 : k < a.length
      · obtain ⟨p, hp⟩ : ∃ p, a[k]? = some p := ⟨_, List.getElem?_eq_getElem h1⟩
        obtain ⟨q, hq⟩ : ∃ q, b[k]? = some q := ⟨_, List.getElem?_eq_getElem (by have := HLN.out; omega)⟩
        obtain ⟨rfl, -⟩ := HP1.out (by omega)
        obtain ⟨rfl, -⟩ := HP2.out (by omega)
        obtain ⟨x0, x1, x2, x3, kc1, hv1⟩ := HA1.out k p hp
        obtain ⟨y0, y1, y2, y3, kc2, hv2⟩ := HA2.out k q hq
        obtain ⟨j0, j1, j2, j3⟩ := cells4 (cellsAt_ext HE.out kc1)
        obtain ⟨i0, i1, i2, i3⟩ := cells4 (cellsAt_ext HE.out kc2)
        have hst := eqP_step hp hq
        rw [HC.out] at hst
        obtain ⟨z, hz⟩ : ∃ z, eqE p q = z := ⟨_, rfl⟩
        have HCU := hid (fun W (E : Ext w W) => pee_any p q _ _ W (hv1.ext E) (hv2.ext E))
        rw [hz] at HCU hst
        have HST := hid hst
        have hi0 : (0 : Int) ≤ (k : Int) := by omega
        have hi1 : (k : Int) < (a.length : Int) := by omega
        clear hst hp hq kc1 kc2 hv1 hv2 hz
        cases z
        all_goals
          go_wp2_with fail
          go_still_tail 8, (by kernel_rfl)
          change wpList _ _ _ _ _ wr.drew
          go_wp2_with (go_at_call 58; refine (HCU.out _ HE.out.drew).mono ?_; rintro e w3 ⟨rfl, hE⟩; have HE3 := hid (HE.out.drew.trans hE); clear hE)
        · go_ret
          exact ⟨congrArg (fun z => Ending.returned (.bool z)) (show false = eqP a b by rw [HST.out]; rfl), HE3.out⟩
        · exact ⟨⟨k + 1, by go_num, by omega, hid (by rw [HST.out]; rfl), HE3⟩, by simp [intOf]; omega⟩
      · have RES := hid (show true = eqP a b by rw [← HC.out, List.drop_eq_nil_of_le (by omega), List.drop_eq_nil_of_le (by have := HLN.out; omega)]; rfl)
        go_wp2_with fail
        go_ret
        exact ⟨congrArg (fun z => Ending.returned (.bool z)) RES.out, HE.out⟩
  · rw [eqP_len hlen]
    have hd : ((a.length : Int) != (b.length : Int)) = true := by simp; omega
    clear p1 p2 at1 at2
    go_enter Try.func48, Try.ntmps48
    go_wp2_with fail
    go_ret
    exact ⟨rfl, Ext.refl w⟩
end Go.Proofs.Ytempfaefopfobaa
end

/- ToPath: paths as they come in (impl.Path); impl.toPath, ComparePaths, EqualPaths. -/
section
set_option maxRecDepth 100000
namespace Go.Proofs.Ytempfaefopfobaa
open Go.ChangeShapes Go.WideShapes Go.ChangeAt Go.RowKit
set_option linter.unusedVariables false
set_option linter.unusedSimpArgs false

/-- a path as it comes in -/
def RepGEs (S : Nat → Prop) (w : World) (v : Value) (l : List GE) : Prop :=
  ∃ a b o cap, v = .slice a l.length cap ∧ l.length ≤ cap ∧ l.length * 168 ≤ 140737488351232 ∧ (0 < l.length → a = some ⟨b, o, none⟩ ∧ S b) ∧
    ∀ (i : Nat) (e : GE), l[i]? = some e → ∃ k s a1 c1 a2 c2 u1 u2 u3 u4 u5 u6 u7 u8 u9 u10 n, cellsAt w b (o + i * 11) [.int .i64 k, .string s, .slice a1 e.keys.length c1, .slice a2 e.l.length c2, .int .i64 u1, .int .i64 u2, .float .f64 u3, .string u4, .slice u5 u6 u7, .slice u8 u9 u10, .int .i64 n] ∧
      RepGE S w e [.int .i64 k, .string s, .slice a1 e.keys.length c1, .slice a2 e.l.length c2, .int .i64 u1, .int .i64 u2, .float .f64 u3, .string u4, .slice u5 u6 u7, .slice u8 u9 u10, .int .i64 n]
theorem cells11 {w : World} {b o : Nat} {c0 c1 c2 c3 c4 c5 c6 c7 c8 c9 c10 : Value} (h : cellsAt w b o [c0, c1, c2, c3, c4, c5, c6, c7, c8, c9, c10]) :
    w.cell? ⟨b, o, none⟩ = some c0 ∧ w.cell? ⟨b, o + 1, none⟩ = some c1 ∧ w.cell? ⟨b, o + 2, none⟩ = some c2 ∧ w.cell? ⟨b, o + 3, none⟩ = some c3 ∧ w.cell? ⟨b, o + 4, none⟩ = some c4 ∧ w.cell? ⟨b, o + 5, none⟩ = some c5 ∧ w.cell? ⟨b, o + 6, none⟩ = some c6 ∧ w.cell? ⟨b, o + 7, none⟩ = some c7 ∧ w.cell? ⟨b, o + 8, none⟩ = some c8 ∧ w.cell? ⟨b, o + 9, none⟩ = some c9 ∧ w.cell? ⟨b, o + 10, none⟩ = some c10 := ⟨by simpa using h 0 c0 rfl, h 1 c1 rfl, h 2 c2 rfl, h 3 c3 rfl, h 4 c4 rfl, h 5 c5 rfl, h 6 c6 rfl, h 7 c7 rfl, h 8 c8 rfl, h 9 c9 rfl, h 10 c10 rfl⟩
/-- cells that hold path elements -/
def RowEl (S : Nat → Prop) (w : World) (xs : List Value) (p : List El) : Prop :=
  xs.length = p.length * 4 ∧ ∀ (i : Nat) (e : El), p[i]? = some e → ∃ c0 c1 c2 c3, xs[i * 4]? = some c0 ∧ xs[i * 4 + 1]? = some c1 ∧ xs[i * 4 + 2]? = some c2 ∧ xs[i * 4 + 3]? = some c3 ∧ RepEl S w e [c0, c1, c2, c3]
theorem RowEl.nil (S : Nat → Prop) (w : World) : RowEl S w [] [] := ⟨rfl, fun i g h => by simp at h⟩
theorem RowEl.mono {S S' : Nat → Prop} {w w' : World} {xs : List Value} {p : List El} (h : RowEl S w xs p) (hs : Same S w w') (hS : ∀ b, S b → b < w.heap.size → S' b) : RowEl S' w' xs p :=
  ⟨h.1, fun i e he => by obtain ⟨c0, c1, c2, c3, h0, h1, h2, h3, h4⟩ := h.2 i e he; exact ⟨c0, c1, c2, c3, h0, h1, h2, h3, h4.mono hs hS⟩⟩
theorem RowEl.snoc {S : Nat → Prop} {w : World} {xs : List Value} {p : List El} (h : RowEl S w xs p) {e : El} {c0 c1 c2 c3 : Value} (hx : RepEl S w e [c0, c1, c2, c3]) : RowEl S w (xs ++ [c0, c1, c2, c3]) (p ++ [e]) := by
  refine ⟨by simp [h.1]; omega, fun i q hq => ?_⟩
  by_cases hi : i < p.length
  · rw [List.getElem?_append_left hi] at hq
    obtain ⟨d0, d1, d2, d3, h0, h1, h2, h3, h4⟩ := h.2 i q hq
    refine ⟨d0, d1, d2, d3, ?_, ?_, ?_, ?_, h4⟩ <;> (rw [List.getElem?_append_left (by rw [h.1]; omega)]; assumption)
  · have hi' : i = p.length := by have := (List.getElem?_eq_some_iff.1 hq).1; simp at this; omega
    subst hi'
    simp at hq
    subst hq
    refine ⟨c0, c1, c2, c3, ?_, ?_, ?_, ?_, hx⟩ <;> rw [List.getElem?_append_right (by rw [h.1]; omega), h.1]
    · rw [Nat.sub_self]; rfl
    · rw [Nat.add_sub_cancel_left]; rfl
    · rw [Nat.add_sub_cancel_left]; rfl
    · rw [Nat.add_sub_cancel_left]; rfl
theorem path_of_row {S : Nat → Prop} {w : World} {base n c : Nat} {a : Option Addr} {xs : List Value} {p : List El} {e : TypeId} (hown : w.ownsRow base e 4 (.slice a n c) n xs) (hrow : RowEl S w xs p) (hS : ∀ b, base ≤ b → S b) (hsz : p.length * 168 ≤ 140737488351232) : RepPath S w (.slice a n c) p := by
  have hn : n = p.length := by have := hown.1; have := hrow.1; omega
  subst hn
  rcases hown.2 with ⟨h, h0⟩ | ⟨g, cap, cur, h, hb, hg, hle, _⟩
  · simp only [Value.slice.injEq] at h
    obtain ⟨rfl, h1, rfl⟩ := h
    exact ⟨none, 0, 0, 0, rfl, by omega, hsz, fun h => absurd h (by omega), fun i q hq => by have := (List.getElem?_eq_some_iff.1 hq).1; omega⟩
  · cases h
    refine ⟨_, g, 0, _, rfl, hle, hsz, fun _ => ⟨rfl, hS g hb⟩, fun i q hq => ?_⟩
    obtain ⟨c0, c1, c2, c3, h0, h1, h2, h3, h4⟩ := hrow.2 i q hq
    have hc := hown.cells (g := g) rfl
    have k0 := hc _ _ h0
    have k1 := hc _ _ h1
    have k2 := hc _ _ h2
    have k3 := hc _ _ h3
    rw [addr_add rfl] at k0 k1 k2 k3
    refine ⟨c0, c1, c2, c3, fun j v hv => ?_, h4⟩
    rw [Nat.add_assoc]
    match j, hv with
    | 0, hv => cases hv; exact k0
    | 1, hv => cases hv; exact k1
    | 2, hv => cases hv; exact k2
    | 3, hv => cases hv; exact k3
    | j + 4, hv => simp at hv
theorem info_pe : (Try.prog.info? 91).map (fun i => (i.zero, i.size, i.bytes)) = some (some (.agg #[.pointer none, .pointer none, .pointer none, .pointer none]), 4, 32) := by kernel_rfl
set_option maxHeartbeats 2000000 in
theorem toPath_any (l : List GE) (v : Value) (w : World) (hv : RepGEs Any w v l) :
    Calls Try.prog 46 #[v] w fun en w' => ∃ v', en = .returned v' ∧ RepPath (fun b => w.heap.size ≤ b) w' v' (l.map toEl) ∧ Ext w w' := by
  obtain ⟨i0, hi, hz0, hz1, hz2⟩ := info_parts info_pe
  obtain ⟨a, b, o, cap, rfl, hle, hsz, ha, hat⟩ := hv
  have HA := hid ha
  have HT := hid hat
  clear ha hat
  go_enter Try.func46, Try.ntmps46
  have HO0 := hid (World.ownsRow_lit (base := w.heap.size) (e := 91) (size := 4) w #[] 0 (Nat.le_refl _) (by decide) (by simp))
  go_wp2_with fail
  go_loopw [3, 9] (fun v i wr => ∃ (k : Nat) (xs : List Value), i = .int .i64 k ∧ k ≤ l.length ∧ Hid (wr.ownsRow w.heap.size 91 4 v k xs) ∧ Hid (RowEl (fun b => w.heap.size ≤ b ∧ some b ≠ v.ownBlock) wr xs ((l.map toEl).take k)) ∧ Hid (Ext w wr)) (fun _ i _ => l.length - (intOf i).toNat)
  case atStart => exact ⟨0, [], rfl, Nat.zero_le _, hid (by have := HO0.out; simpa using this), hid (RowEl.nil _ _), hid ((Ext.refl w).alloc _)⟩
  case round =>
    obtain ⟨k, xs, rfl, hk, HO, HR, HE⟩ := hrel
    by_cases h1 : k < l.length
    · obtain ⟨e, he⟩ : ∃ e, l[k]? = some e := ⟨_, List.getElem?_eq_getElem h1⟩
      obtain ⟨rfl, -⟩ := HA.out (by omega)
      obtain ⟨k', s, a1, c1, a2, c2, u1, u2, u3, u4, u5, u6, u7, u8, u9, u10, n, hc1, hR1⟩ := HT.out k e he
      obtain ⟨q0, q1, q2, q3, q4, q5, q6, q7, q8, q9, q10⟩ := cells11 (cellsAt_ext HE.out hc1)
      have HG := hid (hR1.ext HE.out)
      have HTK := hid (show (l.map toEl).take (k + 1) = (l.map toEl).take k ++ [toEl e] from by
        have e1 : (l.map toEl)[k]? = some (toEl e) := by rw [List.getElem?_map, he]; rfl
        obtain ⟨hlt, he⟩ := List.getElem?_eq_some_iff.1 e1
        rw [List.take_succ_eq_append_getElem hlt, he])
      have hi0 : (0 : Int) ≤ (k : Int) := by omega
      have hi1 : (k : Int) < (l.length : Int) := by omega
      have HS := hid (show w.heap.size ≤ wr.heap.size from HE.out.size)
      clear he hc1 hR1
      go_wp2_with (first
        | (go_at_call 57; refine (toElem_any e _ _ (HG.out.ext ((Ext.refl wr).alloc _))).mono ?_; rintro en w2 ⟨cs, rfl, hx, hE⟩; obtain ⟨p0, p1, p2, p3, rfl⟩ := hx.form; have HX := hid hx; have HE2 := hid (((Ext.refl wr).alloc _).trans hE); clear hE hx)
        | (at_builtin; refine wpList_append_lies _ rfl (.tmp 13) (.tmp 16) 77 rfl w.heap.size 91 i0 _ 4 32 Try.underlying77 hi hz0 hz1 hz2 rfl (by decide) _ k xs rfl ((ownsRow_ext HO.out HE2.out).alloc _) ⟨w2.heap.size, 0, none⟩ 1 1 [.pointer p0, .pointer p1, .pointer p2, .pointer p3] rfl rfl (cells_new w2 [.pointer p0, .pointer p1, .pointer p2, .pointer p3] _) (by simp [Value.oneCell']) (by decide) (by unfold maxLen; omega) (by omega) (by have := HS.out; have := HE2.out.size; simp; omega) (w2.heap.size + 1) (by simp) ?_; intro g3 cap3 w3 hown3 hg3 hat hlt3; have ST := hid (row_step HS.out HO.out HE2.out hown3 hg3 hat); have HO3 := hid hown3; clear hown3 hg3 hat hlt3))
      exact ⟨⟨k + 1, _, by go_num, by omega, HO3, hid (by
        rw [HTK.out]
        have k1 := HR.out.mono ST.out.1 (S' := fun b => w.heap.size ≤ b ∧ some b ≠ (Value.slice (some ⟨g3, 0, none⟩) (k + 1) cap3).ownBlock) (fun b hb hlt => ⟨hb.1, fun e => ST.out.2.1 b hlt hb.2 (Option.some.inj e)⟩)
        refine k1.snoc ((HX.out.weak (S' := fun b => wr.heap.size ≤ b) (fun b hb _ => by simp at hb; omega)).mono ST.out.2.2.1 fun b hb hlt => ⟨by have := HS.out; omega, fun e => ST.out.2.2.2.1 b hb hlt (Option.some.inj e)⟩)), hid (Below.trans HE.out (ST.out.2.2.2.2.1.mono (by omega)))⟩, by simp [intOf]; omega⟩
    · have HTK := hid (show (l.map toEl).take k = l.map toEl from List.take_of_length_le (by simp; omega))
      obtain ⟨va, vc, rfl⟩ := own_form HO.out
      go_wp2_with fail
      go_ret
      have hr := HR.out
      rw [HTK.out] at hr
      exact ⟨_, rfl, path_of_row HO.out (hr.mono (Same.refl _ _) (fun b hb _ => hb.1)) (fun b hb => hb) (by simp; omega), HE.out⟩
theorem RepGEs.ext {S : Nat → Prop} {w w' : World} (h : Ext w w') {v : Value} {l : List GE} : RepGEs S w v l → RepGEs S w' v l := by
  rintro ⟨a, b, o, cap, h1, h2, h3, h4, h5⟩
  refine ⟨a, b, o, cap, h1, h2, h3, h4, fun i e he => ?_⟩
  obtain ⟨k, s, a1, c1, a2, c2, u1, u2, u3, u4, u5, u6, u7, u8, u9, u10, n, k1, k2⟩ := h5 i e he
  exact ⟨k, s, a1, c1, a2, c2, u1, u2, u3, u4, u5, u6, u7, u8, u9, u10, n, cellsAt_ext h k1, k2.ext h⟩
theorem RepGEs.form {S : Nat → Prop} {w : World} {v : Value} {l : List GE} (h : RepGEs S w v l) : ∃ a c, v = .slice a l.length c := by
  obtain ⟨a, b, o, c, h, -⟩ := h
  exact ⟨_, _, h⟩
set_option maxHeartbeats 1000000 in
theorem cpaths_any (l1 l2 : List GE) (v1 v2 : Value) (w : World) (h1 : RepGEs Any w v1 l1) (h2 : RepGEs Any w v2 l2) : Calls Try.prog 12 #[v1, v2] w fun e w' => e = .returned (.int .i64 (cmpP (l1.map toEl) (l2.map toEl))) ∧ Ext w w' := by
  obtain ⟨a1, c1, rfl⟩ := h1.form
  obtain ⟨a2, c2, rfl⟩ := h2.form
  have T1 := hid (toPath_any l1 _ w h1)
  have H2 := hid (fun W (E : Ext w W) => toPath_any l2 _ W (h2.ext E))
  generalize l1.map toEl = p1 at T1 ⊢
  generalize l2.map toEl = p2 at H2 ⊢
  generalize l1.length = n1 at T1 ⊢
  generalize l2.length = n2 at H2 ⊢
  clear h1 h2
  have tk : True := trivial
  go_enter Try.func12, Try.ntmps12
  go_wp2_with (first
    | (go_at_call 46; have _t := tk; refine T1.out.mono ?_; rintro e w2 ⟨x1, rfl, hx, hE⟩; have HX1 := hid (hx.weak (S' := Any) (fun _ _ _ => trivial)); have HE1 := hid hE; obtain ⟨aa, cc, rfl⟩ := hx.form; clear hE hx tk _t)
    | (go_at_call 46; refine (H2.out _ HE1.out).mono ?_; rintro e w3 ⟨x2, rfl, hx, hE⟩; have HX2 := hid (hx.weak (S' := Any) (fun _ _ _ => trivial)); have HE2 := hid hE; obtain ⟨aa', cc', rfl⟩ := hx.form; clear hE hx)
    | (go_at_call 47; refine (pcmp_any _ _ _ _ _ (HX1.out.ext HE2.out) HX2.out).mono ?_; rintro e w4 ⟨rfl, hE⟩; have HE3 := hid hE; clear hE))
  go_ret
  exact ⟨rfl, (HE1.out.trans HE2.out).trans HE3.out⟩
set_option maxHeartbeats 1000000 in
theorem epaths_any (l1 l2 : List GE) (v1 v2 : Value) (w : World) (h1 : RepGEs Any w v1 l1) (h2 : RepGEs Any w v2 l2) : Calls Try.prog 13 #[v1, v2] w fun e w' => e = .returned (.bool (eqP (l1.map toEl) (l2.map toEl))) ∧ Ext w w' := by
  obtain ⟨a1, c1, rfl⟩ := h1.form
  obtain ⟨a2, c2, rfl⟩ := h2.form
  have T1 := hid (toPath_any l1 _ w h1)
  have H2 := hid (fun W (E : Ext w W) => toPath_any l2 _ W (h2.ext E))
  generalize l1.map toEl = p1 at T1 ⊢
  generalize l2.map toEl = p2 at H2 ⊢
  generalize l1.length = n1 at T1 ⊢
  generalize l2.length = n2 at H2 ⊢
  clear h1 h2
  have tk : True := trivial
  go_enter Try.func13, Try.ntmps13
  go_wp2_with (first
    | (go_at_call 46; have _t := tk; refine T1.out.mono ?_; rintro e w2 ⟨x1, rfl, hx, hE⟩; have HX1 := hid (hx.weak (S' := Any) (fun _ _ _ => trivial)); have HE1 := hid hE; obtain ⟨aa, cc, rfl⟩ := hx.form; clear hE hx tk _t)
    | (go_at_call 46; refine (H2.out _ HE1.out).mono ?_; rintro e w3 ⟨x2, rfl, hx, hE⟩; have HX2 := hid (hx.weak (S' := Any) (fun _ _ _ => trivial)); have HE2 := hid hE; obtain ⟨aa', cc', rfl⟩ := hx.form; clear hE hx)
    | (go_at_call 48; refine (pequ_any _ _ _ _ _ (HX1.out.ext HE2.out) HX2.out).mono ?_; rintro e w4 ⟨rfl, hE⟩; have HE3 := hid hE; clear hE))
  go_ret
  exact ⟨rfl, (HE1.out.trans HE2.out).trans HE3.out⟩
end Go.Proofs.Ytempfaefopfobaa
end

/- OrdPath: spec.OrderlyPaths, laws.tame. -/
section
set_option maxRecDepth 100000
namespace Go.Proofs.Ytempfaefopfobaa
open Go.ChangeShapes Go.WideShapes Go.ChangeAt Go.RowKit
set_option linter.unusedVariables false
set_option linter.unusedSimpArgs false

/-- some paths as they come in -/
def RepPaths (w : World) (v : Value) (ps : List (List GE)) : Prop :=
  ∃ a b o cap, v = .slice a ps.length cap ∧ ps.length ≤ 140737488351232 ∧ ∀ (i : Nat) (p : List GE), ps[i]? = some p → a = some ⟨b, o, none⟩ ∧ ∃ x, w.cell? ⟨b, o + i, none⟩ = some x ∧ RepGEs Any w x p
def ordPs (ps : List (List GE)) : Bool := ps.all fun p => p.all ordE
theorem all_step {α : Type} {f : α → Bool} {l : List α} {k : Nat} {a : α} (h : l[k]? = some a) : (l.drop k).all f = (f a && (l.drop (k + 1)).all f) := by
  obtain ⟨h1, rfl⟩ := List.getElem?_eq_some_iff.1 h
  rw [List.drop_eq_getElem_cons h1, List.all_cons]
theorem all_end {α : Type} {f : α → Bool} {l : List α} {k : Nat} (h : l.length ≤ k) : (l.drop k).all f = true := by
  rw [List.drop_eq_nil_of_le h]; rfl
set_option maxHeartbeats 2000000 in
theorem ordPaths_any (ps : List (List GE)) (v : Value) (w : World) (hv : RepPaths w v ps) :
    Calls Try.prog 45 #[v] w fun en w' => en = .returned (.bool (ordPs ps)) ∧ Ext w w' := by
  unfold ordPs
  obtain ⟨a, b, o, cap, rfl, hsz, hat⟩ := hv
  have HT := hid hat
  clear hat
  go_enter Try.func45, Try.ntmps45
  go_wp2_with fail
  go_loopw [9] (fun i wr => ∃ k : Nat, i = .int .i64 k ∧ k ≤ ps.length ∧ Hid ((ps.drop k).all (fun p => p.all ordE) = ps.all fun p => p.all ordE) ∧ Hid (Ext w wr)) (fun i _ => ps.length - (intOf i).toNat)
  case atStart => exact ⟨0, rfl, Nat.zero_le _, hid rfl, hid (Ext.refl _)⟩
  case round =>
    obtain ⟨k, rfl, hk, HC, HE⟩ := hrel
    by_cases h1 : k < ps.length
    · obtain ⟨p, hp⟩ : ∃ p, ps[k]? = some p := ⟨_, List.getElem?_eq_getElem h1⟩
      obtain ⟨rfl, x, kx, hx⟩ := HT.out k p hp
      obtain ⟨pa, pb, po, pc, rfl, -, hpl, hpa, hpt⟩ := hx
      have j1 := HE.out.cellS kx
      have HPA := hid hpa
      have HPT := hid hpt
      have hst := all_step (f := fun p : List GE => p.all ordE) hp
      rw [HC.out] at hst
      have HST := hid hst
      have hi0 : (0 : Int) ≤ (k : Int) := by omega
      have hi1 : (k : Int) < (ps.length : Int) := by omega
      clear hst hp kx hpa hpt
      go_wp2_with fail
      go_loopw [15] (fun i wx => ∃ j : Nat, i = .int .i64 j ∧ j ≤ p.length ∧ Hid ((p.drop j).all ordE = p.all ordE) ∧ Hid (Ext w wx)) (fun i _ => p.length - (intOf i).toNat)
      case atStart => exact ⟨0, rfl, Nat.zero_le _, hid rfl, HE⟩
      case round =>
        rename_i wx
        obtain ⟨j, rfl, hj, HD, HF⟩ := hrel
        by_cases h2 : j < p.length
        · obtain ⟨e, he⟩ : ∃ e, p[j]? = some e := ⟨_, List.getElem?_eq_getElem h2⟩
          obtain ⟨rfl, -⟩ := HPA.out (by omega)
          obtain ⟨k', s, a1, c1, a2, c2, u1, u2, u3, u4, u5, u6, u7, u8, u9, u10, n, hc1, hR1⟩ := HPT.out j e he
          obtain ⟨q0, q1, q2, q3, q4, q5, q6, q7, q8, q9, q10⟩ := cells11 (cellsAt_ext HF.out hc1)
          have hs2 := all_step (f := ordE) he
          rw [HD.out] at hs2
          have HCU := hid (fun W (E : Ext w W) => ordElem_any e _ W (hR1.ext E))
          have hj0 : (0 : Int) ≤ (j : Int) := by omega
          have hj1 : (j : Int) < (p.length : Int) := by omega
          clear he hc1 hR1
          cases hb : ordE e
          all_goals
            rw [hb] at hs2 HCU
            have HS2 := hid hs2
            clear hs2 hb
            go_wp2_with (go_at_call 91; refine (HCU.out _ (HF.out.alloc _)).mono ?_; rintro en w2 ⟨rfl, hE⟩; have HE2 := hid ((HF.out.alloc _).trans hE); clear hE)
          · go_ret
            exact ⟨congrArg (fun z => Ending.returned (.bool z)) (show false = ps.all (fun p => p.all ordE) by rw [HST.out, HS2.out]; rfl), HE2.out⟩
          · exact ⟨⟨j + 1, by go_num, by omega, hid (by rw [HS2.out]; simp), HE2⟩, by simp [intOf]; omega⟩
        · have HAL := hid (show p.all ordE = true by rw [← HD.out, all_end (by omega)])
          go_wp2_with fail
          exact ⟨⟨k + 1, by go_num, by omega, hid (by rw [HST.out, HAL.out]; simp), HF⟩, by simp [intOf]; omega⟩
    · have RES := hid (show true = ps.all (fun p => p.all ordE) by rw [← HC.out, all_end (by omega)])
      go_wp2_with fail
      go_ret
      exact ⟨congrArg (fun z => Ending.returned (.bool z)) RES.out, HE.out⟩
theorem tame_any (p : List GE) (v : Value) (w : World) (hv : RepGEs Any w v p) :
    Calls Try.prog 11 #[v] w fun en w' => en = .returned (.bool (p.all ordE)) ∧ Ext w w' := by
  obtain ⟨a, c, rfl⟩ := hv.form
  have HV := hid hv
  clear hv
  go_enter Try.func11, Try.ntmps11
  have xx := heap_alloc_new w (.cells #[.slice a p.length c] 22)
  have HP := hid (show RepPaths (w.alloc (.cells #[.slice a p.length c] 22)) (.slice (some ⟨w.heap.size, 0, none⟩) 1 1) [p] from
    ⟨some ⟨w.heap.size, 0, none⟩, w.heap.size, 0, 1, rfl, by simp, fun i q hq => ⟨rfl, by
      match i, hq with
      | 0, hq => cases hq; exact ⟨_, (cell_of_heap xx 0).trans rfl, HV.out.ext ((Ext.refl w).alloc _)⟩
      | i + 1, hq => simp at hq⟩⟩)
  clear xx
  go_wp2_with (go_at_call 45; refine (ordPaths_any [p] _ _ HP.out).mono ?_; rintro en w2 ⟨rfl, hE⟩; have HE := hid (((Ext.refl w).alloc _).trans hE); clear hE)
  go_ret
  exact ⟨congrArg (fun z => Ending.returned (.bool z)) (by simp [ordPs]), HE.out⟩
end Go.Proofs.Ytempfaefopfobaa
end

/- ElemRefl: path elements and paths compared with themselves and with what goes on behind them. -/
section
namespace Go.Proofs.Ytempfaefopfobaa
open Go.ChangeShapes Go.WideShapes Go.ChangeAt Go.RowKit
set_option linter.unusedVariables false
set_option linter.unusedSimpArgs false

theorem nonan_from : ∀ (N : Nat) (t : Tree), SizeOf.sizeOf t ≤ N → WfT t → ordG (fromT t) = true → NoNaN t
  | 0, t, h, _, _ => by have := t.size_pos; omega
  | N + 1, t, h, w, o => by
    cases w with
    | null => exact .null
    | bool b => exact .bool b
    | int n => exact .int n
    | flt f => exact .flt f (by simpa [fromT, ordG] using o)
    | str s => exact .str s
    | list l hl =>
      refine .list l fun t ht => nonan_from N t (by have := Tree.mem_list ht; omega) (hl t ht) ?_
      have o2 : ordGs (fromTs l) = true := by simpa [fromT, ordG] using o
      rw [ordGs_eq, List.all_eq_true, fromTs_eq] at o2
      exact o2 _ (List.mem_map_of_mem ht)
    | map m hn hm =>
      refine .map m fun p hp => nonan_from N p.2 (by have := Tree.size_map (k := p.1) (t := p.2) hp; omega) (hm p hp) ?_
      have o2 : ordGs ((sortN (m.map (·.1))).map (lookG (fromTm m))) = true := by simpa [fromT, ordG] using o
      rw [srt_vals, ordGs_eq, List.all_eq_true] at o2
      refine o2 _ (List.mem_map.2 ⟨p, ?_, rfl⟩)
      refine List.mem_map.2 ⟨p.1, ?_, by rw [lookKV_of hn hp]; rfl⟩
      exact (sortN_perm _).mem_iff.2 (List.mem_map_of_mem hp)
theorem noNaN_clean {g : GV} (h : ordG (cleanG g) = true) : NoNaN (plainT g) := nonan_from _ (plainT g) (Nat.le_refl _) (wfT g) (by rwa [← clean_eq])
theorem cmpE_self (e : GE) : cmpE (toEl e) (toEl e) = 0 := by
  unfold toEl
  split
  · refine cmpFs_refl fun p hp => ?_
    obtain ⟨g, -, hg⟩ : ∃ g, g ∈ e.l ∧ p.2 = plainT g := by
      have := (List.of_mem_zip (show (p.1, p.2) ∈ e.keys.zip (plainTs e.l) from hp)).2
      rw [plainTs_eq] at this
      obtain ⟨g, h1, h2⟩ := List.mem_map.1 this
      exact ⟨g, h1, h2.symm⟩
    rw [hg]; exact cmp_self (wfT g)
  · split
    · exact cmp_self (wfT _)
    · split
      · exact icmp_refl _
      · exact scmp_refl _
theorem eqFs_refl {z : Tree → Tree → Bool} : ∀ {l : List (ByteArray × Tree)}, (∀ p ∈ l, z p.2 p.2 = true) → eqFs z l l = true
  | [], _ => rfl
  | p :: l, h => by
    unfold eqFs
    rw [h p (by simp), eqFs_refl fun q hq => h q (by simp [hq])]
    simp
theorem eqE_self {e : GE} (h : ordE e = true) : eqE (toEl e) (toEl e) = true := by
  unfold ordE cleanE at h
  unfold toEl
  by_cases h1 : e.kind = 1
  · simp only [if_pos h1, Bool.and_eq_true] at h ⊢
    refine eqFs_refl fun p hp => ?_
    obtain ⟨i, hi⟩ := List.mem_iff_getElem?.1 hp
    obtain ⟨k1, k2⟩ := List.getElem?_zip_eq_some.1 (show (e.keys.zip (plainTs e.l))[i]? = some (p.1, p.2) from hi)
    rw [plainTs_eq, List.getElem?_map] at k2
    obtain ⟨g, hg, hp2⟩ := Option.map_eq_some_iff.1 k2
    rw [← hp2]
    refine eq_self (wfT g) (noNaN_clean ?_)
    have h2 := h.1.2
    rw [ordGs_eq, cleanGs_eq, List.all_eq_true] at h2
    refine h2 _ (List.mem_map_of_mem (List.mem_of_getElem? (i := i) ?_))
    have l1 := (List.getElem?_eq_some_iff.1 k1).1
    have l2 := (List.getElem?_eq_some_iff.1 hg).1
    rw [List.getElem?_take, if_pos (by omega), hg]
  · rw [if_neg h1] at h ⊢
    by_cases h2 : e.kind = 2
    · simp only [if_pos h2, Bool.and_eq_true] at h ⊢
      exact eq_self (wfT _) (noNaN_clean h.1.1)
    · rw [if_neg h2]
      split <;> simp [eqE]
theorem cmpP_self (p : List GE) : cmpP (p.map toEl) (p.map toEl) = 0 := by
  induction p with
  | nil => rfl
  | cons e p ih => simp only [List.map_cons]; unfold cmpP; rw [if_pos (cmpE_self e), ih]
theorem cmpP_shorter (p r : List GE) (hr : r ≠ []) : cmpP (p.map toEl) ((p ++ r).map toEl) = -1 ∧ cmpP ((p ++ r).map toEl) (p.map toEl) = 1 := by
  induction p with
  | nil => cases r with
    | nil => exact absurd rfl hr
    | cons e r => exact ⟨rfl, rfl⟩
  | cons e p ih =>
    simp only [List.map_cons, List.cons_append]
    unfold cmpP
    rw [if_pos (cmpE_self e), if_pos (cmpE_self e)]
    exact ih
theorem eqP_self {p : List GE} (h : p.all ordE = true) : eqP (p.map toEl) (p.map toEl) = true := by
  induction p with
  | nil => rfl
  | cons e p ih =>
    rw [List.all_cons, Bool.and_eq_true] at h
    simp only [List.map_cons]; unfold eqP; rw [eqE_self h.1, ih h.2]; rfl
end Go.Proofs.Ytempfaefopfobaa
end

/- RowGE: rows of cells that hold path elements as they come in; an opener for []impl.Elem. -/
section
set_option maxRecDepth 100000
namespace Go.Proofs.Ytempfaefopfobaa
open Go.ChangeShapes Go.WideShapes Go.ChangeAt Go.RowKit
set_option linter.unusedVariables false
set_option linter.unusedSimpArgs false

def RowGE (S : Nat → Prop) (w : World) (xs : List Value) (l : List GE) : Prop := xs.length = l.length * 11 ∧ ∀ i e, l[i]? = some e → RepGE S w e ((xs.drop (i * 11)).take 11)
theorem RowGE.nil (S : Nat → Prop) (w : World) : RowGE S w [] [] := ⟨rfl, fun i g h => by simp at h⟩
theorem RowGE.mono {S S' : Nat → Prop} {w w' : World} {xs : List Value} {l : List GE} (h : RowGE S w xs l) (hs : Same S w w') (hS : ∀ b, S b → b < w.heap.size → S' b) : RowGE S' w' xs l :=
  ⟨h.1, fun i e he => (h.2 i e he).mono hs hS⟩
theorem RowGE.append {S : Nat → Prop} {w : World} {xs ys : List Value} {l m : List GE} (h : RowGE S w xs l) (k : RowGE S w ys m) : RowGE S w (xs ++ ys) (l ++ m) := by
  refine ⟨by rw [List.length_append, h.1, k.1, List.length_append]; omega, fun i g hg => ?_⟩
  by_cases hi : i < l.length
  · rw [List.getElem?_append_left hi] at hg
    have := h.2 i g hg
    rwa [List.drop_append_of_le_length (by rw [h.1]; omega), List.take_append_of_le_length (by rw [List.length_drop, h.1]; omega)]
  · rw [List.getElem?_append_right (by omega)] at hg
    have := k.2 _ g hg
    rw [List.drop_append, List.drop_of_length_le (by rw [h.1]; omega), List.nil_append, h.1]
    rwa [show i * 11 - l.length * 11 = (i - l.length) * 11 by omega]
theorem RepGE.len {S : Nat → Prop} {w : World} {e : GE} {cs : List Value} (h : RepGE S w e cs) : cs.length = 11 := by
  obtain ⟨_, _, _, _, _, _, _, _, _, _, rfl, -⟩ := h; rfl
theorem RepGE.oneCell {S : Nat → Prop} {w : World} {e : GE} {cs : List Value} (h : RepGE S w e cs) : ∀ u ∈ cs, u.oneCell' = true := by
  obtain ⟨_, _, _, _, _, _, _, _, _, _, _, _, _, _, _, _, _, rfl, -⟩ := h.form6
  intro u hu
  simp at hu
  rcases hu with rfl | rfl | rfl | rfl | rfl | rfl | rfl | rfl | rfl | rfl | rfl <;> rfl
theorem RowGE.one {S : Nat → Prop} {w : World} {cs : List Value} {e : GE} (h : RepGE S w e cs) : RowGE S w cs [e] := by
  refine ⟨by rw [h.len]; rfl, fun i g hg => ?_⟩
  match i, hg with
  | 0, hg => cases hg; rw [Nat.zero_mul, List.drop_zero, List.take_of_length_le (by rw [h.len]; omega)]; exact h
  | i + 1, hg => simp at hg
theorem RowGE.oneCell {S : Nat → Prop} {w : World} {xs : List Value} {l : List GE} (h : RowGE S w xs l) : ∀ u ∈ xs, u.oneCell' = true := by
  intro u hu
  obtain ⟨j, hj⟩ := List.mem_iff_getElem?.1 hu
  have hlt := (List.getElem?_eq_some_iff.1 hj).1
  rw [h.1] at hlt
  obtain ⟨g, hg⟩ : ∃ g, l[j / 11]? = some g := ⟨_, List.getElem?_eq_getElem (by omega)⟩
  refine (h.2 _ g hg).oneCell u (List.mem_iff_getElem?.2 ⟨j % 11, ?_⟩)
  rw [List.getElem?_take, if_pos (by omega), List.getElem?_drop, ← hj]
  congr 1; omega
theorem src_ges {w : World} {a : Option Addr} {n c : Nat} {l : List GE} (h : RepGEs Any w (.slice a n c) l) : n = l.length ∧ ∃ xs, RowGE Any w xs l ∧ SrcAt w a n xs := by
  obtain ⟨a', b, o, c', he, hle, hsz, ha, hat⟩ := h
  simp only [Value.slice.injEq] at he
  obtain ⟨rfl, rfl, rfl⟩ := he
  have key : ∀ m, m ≤ l.length → ∃ xs, RowGE Any w xs (l.take m) ∧ ∀ j u, xs[j]? = some u → w.cell? ⟨b, o + j, none⟩ = some u := by
    intro m
    induction m with
    | zero => exact fun _ => ⟨[], by simpa using RowGE.nil Any w, fun j u hu => by simp at hu⟩
    | succ m ih =>
      intro hm
      obtain ⟨xs, h1, h2⟩ := ih (by omega)
      have hl : m < l.length := by omega
      obtain ⟨k, s, a1, c1, a2, c2, u1, u2, u3, u4, u5, u6, u7, u8, u9, u10, n, k1, k2⟩ := hat m _ (List.getElem?_eq_getElem hl)
      refine ⟨xs ++ _, by rw [List.take_succ_eq_append_getElem hl]; exact h1.append (RowGE.one k2), fun j u hu => ?_⟩
      have hx : xs.length = m * 11 := by rw [h1.1, List.length_take]; omega
      by_cases hj : j < xs.length
      · rw [List.getElem?_append_left hj] at hu; exact h2 j u hu
      · rw [List.getElem?_append_right (by omega), hx] at hu
        have := k1 _ u hu
        rwa [Nat.add_assoc, show m * 11 + (j - m * 11) = j by omega] at this
  obtain ⟨xs, h1, h2⟩ := key l.length (Nat.le_refl _)
  rw [List.take_length] at h1
  refine ⟨rfl, xs, h1, ?_⟩
  by_cases h0 : 0 < l.length
  · have := (ha h0).1
    subst this
    exact .inr ⟨_, rfl, fun j u hu => by rw [addr_add rfl]; exact h2 j u hu⟩
  · have hnil : l = [] := List.eq_nil_of_length_eq_zero (by omega)
    subst hnil
    have hx : xs = [] := List.eq_nil_of_length_eq_zero (by simpa using h1.1)
    subst hx
    cases a with
    | none => exact .inl ⟨rfl, rfl⟩
    | some ad => exact .inr ⟨ad, rfl, fun j u hu => by simp at hu⟩
theorem ges_of_row {S : Nat → Prop} {w : World} {base n c : Nat} {a : Option Addr} {xs : List Value} {l : List GE} {t : TypeId} (hown : w.ownsRow base t 11 (.slice a n c) n xs) (hrow : RowGE S w xs l) (hS : ∀ b, base ≤ b → S b) (hsz : l.length * 168 ≤ 140737488351232) : RepGEs S w (.slice a n c) l := by
  have hn : n = l.length := by have := hown.1; have := hrow.1; omega
  subst hn
  rcases hown.2 with ⟨h, h0⟩ | ⟨g, cap, cur, h, hb, hg, hle, _⟩
  · simp only [Value.slice.injEq] at h
    obtain ⟨rfl, h1, rfl⟩ := h
    exact ⟨none, 0, 0, 0, rfl, by omega, hsz, fun h => absurd h (by omega), fun i q hq => by have := (List.getElem?_eq_some_iff.1 hq).1; omega⟩
  · cases h
    refine ⟨_, g, 0, _, rfl, hle, hsz, fun _ => ⟨rfl, hS g hb⟩, fun i e he => ?_⟩
    have hr := hrow.2 i e he
    have hc := hown.cells (g := g) rfl
    obtain ⟨k, s, a1, c1, a2, c2, u1, u2, u3, u4, u5, u6, u7, u8, u9, u10, n, hcs, -⟩ := hr.form6
    refine ⟨k, s, a1, c1, a2, c2, u1, u2, u3, u4, u5, u6, u7, u8, u9, u10, n, ?_, by rw [← hcs]; exact hr⟩
    rw [← hcs]
    intro j v hv
    rw [List.getElem?_take] at hv
    split at hv
    · rw [List.getElem?_drop] at hv
      have := hc _ v hv
      rw [addr_add rfl] at this
      rwa [← Nat.add_assoc] at this
    · cases hv
section
variable {H : Type} {enc : TypeId × Value → H} {w : World} {base : Nat} {spare : Nat → Bool} {held : Bool}
theorem bytesE : Try.prog.bytesOf 34 = 168 := by kernel_rfl
theorem open_ges (fuel : Nat) (cs : List Value) (x : DataW H × List MemPlace) (h : DataW.trod enc Try.prog w base spare held fuel 22 cs = some x) (hw : Wt Try.prog 22 x.1) : ∃ v l, cs = [v] ∧ RepGEs Any w v l := by
  obtain ⟨a, b, o, len, cap, rfl, hl, hb, ha, hel⟩ := open_sl Try.underlying22 (by rw [cellsE]; omega) h hw
  rw [bytesE] at hb
  rw [cellsE] at hel
  have key : ∀ i, i < len → ∃ g, ∃ cs', cellsAt w b (o + i * 11) cs' ∧ RepGE Any w g cs' := by
    intro i hi
    obtain ⟨n', cs', y, hn', h6, h7, h8, h9⟩ := hel i hi
    obtain ⟨g, hg⟩ := open_ge n' cs' y h8 h9
    exact ⟨g, cs', h7, hg⟩
  haveI : Inhabited GE := ⟨⟨0, ByteArray.empty, [], [], zeroG, 0⟩⟩
  obtain ⟨fg, hfg⟩ := Deep.choose_lt (α := GE) key
  refine ⟨_, (List.range len).map fg, rfl, a, b, o, cap, by simp, by simpa using hl, by simpa using hb, fun h0 => ⟨ha (by simpa using h0), trivial⟩, fun i e he => ?_⟩
  simp only [List.getElem?_map, Option.map_eq_some_iff] at he
  obtain ⟨j, hj, rfl⟩ := he
  obtain ⟨hj1, hj2⟩ := List.getElem?_eq_some_iff.1 hj
  simp at hj1 hj2
  subst hj2
  obtain ⟨cs2, h7, h8⟩ := hfg i hj1
  obtain ⟨k, s, a1, c1, a2, c2, u1, u2, u3, u4, u5, u6, u7, u8, u9, u10, n, rfl, -⟩ := h8.form6
  exact ⟨k, s, a1, c1, a2, c2, u1, u2, u3, u4, u5, u6, u7, u8, u9, u10, n, h7, h8⟩
end
end Go.Proofs.Ytempfaefopfobaa
end
