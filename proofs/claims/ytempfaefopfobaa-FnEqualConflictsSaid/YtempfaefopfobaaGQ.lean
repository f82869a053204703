/- ToPath: paths as they come in (impl.Path); impl.toPath, ComparePaths, EqualPaths. -/
import Derived.Test.YtempfaefopfobaaGE

section
set_option maxRecDepth 100000
namespace Go.Proofs.Ytempfaefopfobaa
open Go.ChangeShapes Go.WideShapes Go.ChangeAt Go.RowKit
set_option linter.unusedVariables false
set_option linter.unusedSimpArgs false

/-- a path as it comes in -/
def RepGEs (S : Nat → Prop) (w : World) (v : Value) (l : List GE) : Prop :=
  ∃ a b o cap, v = .slice a l.length cap ∧ l.length ≤ cap ∧ l.length * 168 ≤ 140737488351232 ∧ (0 < l.length → a = some ⟨b, o, none⟩ ∧ S b) ∧
    ∀ (i : Nat) (e : GE), l[i]? = some e → ∃ k s a1 c1 a2 c2 u1 u2 u3 u4 u5 u6 u7 u8 u9 u10 n, cellsAt w b (o + i * 11) [.int .i64 k, .string s, .slice a1 e.keys.length c1, .slice a2 e.l.length c2, .int .i64 u1, .int .i64 u2, .float .f64 u3, .string u4, .slice u5 u6 u7, .slice u8 u9 u10, .int .i64 n] ∧
      RepGE S w e [.int .i64 k, .string s, .slice a1 e.keys.length c1, .slice a2 e.l.length c2, .int .i64 u1, .int .i64 u2, .float .f64 u3, .string u4, .slice u5 u6 u7, .slice u8 u9 u10, .int .i64 n]
theorem cells11 {w : World} {b o : Nat} {c0 c1 c2 c3 c4 c5 c6 c7 c8 c9 c10 : Value} (h : cellsAt w b o [c0, c1, c2, c3, c4, c5, c6, c7, c8, c9, c10]) :
    w.cell? ⟨b, o, none⟩ = some c0 ∧ w.cell? ⟨b, o + 1, none⟩ = some c1 ∧ w.cell? ⟨b, o + 2, none⟩ = some c2 ∧ w.cell? ⟨b, o + 3, none⟩ = some c3 ∧ w.cell? ⟨b, o + 4, none⟩ = some c4 ∧ w.cell? ⟨b, o + 5, none⟩ = some c5 ∧ w.cell? ⟨b, o + 6, none⟩ = some c6 ∧ w.cell? ⟨b, o + 7, none⟩ = some c7 ∧ w.cell? ⟨b, o + 8, none⟩ = some c8 ∧ w.cell? ⟨b, o + 9, none⟩ = some c9 ∧ w.cell? ⟨b, o + 10, none⟩ = some c10 := ⟨by simpa using h 0 c0 rfl, h 1 c1 rfl, h 2 c2 rfl, h 3 c3 rfl, h 4 c4 rfl, h 5 c5 rfl, h 6 c6 rfl, h 7 c7 rfl, h 8 c8 rfl, h 9 c9 rfl, h 10 c10 rfl⟩
/-- cells that hold path elements -/
def RowEl (S : Nat → Prop) (w : World) (xs : List Value) (p : List El) : Prop :=
  xs.length = p.length * 4 ∧ ∀ (i : Nat) (e : El), p[i]? = some e → ∃ c0 c1 c2 c3, xs[i * 4]? = some c0 ∧ xs[i * 4 + 1]? = some c1 ∧ xs[i * 4 + 2]? = some c2 ∧ xs[i * 4 + 3]? = some c3 ∧ RepEl S w e [c0, c1, c2, c3]
theorem RowEl.nil (S : Nat → Prop) (w : World) : RowEl S w [] [] := ⟨rfl, fun i g h => by simp at h⟩
theorem RowEl.mono {S S' : Nat → Prop} {w w' : World} {xs : List Value} {p : List El} (h : RowEl S w xs p) (hs : Same S w w') (hS : ∀ b, S b → b < w.heap.size → S' b) : RowEl S' w' xs p :=
  ⟨h.1, fun i e he => by obtain ⟨c0, c1, c2, c3, h0, h1, h2, h3, h4⟩ := h.2 i e he; exact ⟨c0, c1, c2, c3, h0, h1, h2, h3, h4.mono hs hS⟩⟩
theorem RowEl.snoc {S : Nat → Prop} {w : World} {xs : List Value} {p : List El} (h : RowEl S w xs p) {e : El} {c0 c1 c2 c3 : Value} (hx : RepEl S w e [c0, c1, c2, c3]) : RowEl S w (xs ++ [c0, c1, c2, c3]) (p ++ [e]) := by
  refine ⟨by simp [h.1]; omega, fun i q hq => ?_⟩
  by_cases hi : i < p.length
  · rw [List.getElem?_append_left hi] at hq
    obtain ⟨d0, d1, d2, d3, h0, h1, h2, h3, h4⟩ := h.2 i q hq
    refine ⟨d0, d1, d2, d3, ?_, ?_, ?_, ?_, h4⟩ <;> (rw [List.getElem?_append_left (by rw [h.1]; omega)]; assumption)
  · have hi' : i = p.length := by have := (List.getElem?_eq_some_iff.1 hq).1; simp at this; omega
    subst hi'
    simp at hq
    subst hq
    refine ⟨c0, c1, c2, c3, ?_, ?_, ?_, ?_, hx⟩ <;> rw [List.getElem?_append_right (by rw [h.1]; omega), h.1]
    · rw [Nat.sub_self]; rfl
    · rw [Nat.add_sub_cancel_left]; rfl
    · rw [Nat.add_sub_cancel_left]; rfl
    · rw [Nat.add_sub_cancel_left]; rfl
theorem path_of_row {S : Nat → Prop} {w : World} {base n c : Nat} {a : Option Addr} {xs : List Value} {p : List El} {e : TypeId} (hown : w.ownsRow base e 4 (.slice a n c) n xs) (hrow : RowEl S w xs p) (hS : ∀ b, base ≤ b → S b) (hsz : p.length * 168 ≤ 140737488351232) : RepPath S w (.slice a n c) p := by
  have hn : n = p.length := by have := hown.1; have := hrow.1; omega
  subst hn
  rcases hown.2 with ⟨h, h0⟩ | ⟨g, cap, cur, h, hb, hg, hle, _⟩
  · simp only [Value.slice.injEq] at h
    obtain ⟨rfl, h1, rfl⟩ := h
    exact ⟨none, 0, 0, 0, rfl, by omega, hsz, fun h => absurd h (by omega), fun i q hq => by have := (List.getElem?_eq_some_iff.1 hq).1; omega⟩
  · cases h
    refine ⟨_, g, 0, _, rfl, hle, hsz, fun _ => ⟨rfl, hS g hb⟩, fun i q hq => ?_⟩
    obtain ⟨c0, c1, c2, c3, h0, h1, h2, h3, h4⟩ := hrow.2 i q hq
    have hc := hown.cells (g := g) rfl
    have k0 := hc _ _ h0
    have k1 := hc _ _ h1
    have k2 := hc _ _ h2
    have k3 := hc _ _ h3
    rw [addr_add rfl] at k0 k1 k2 k3
    refine ⟨c0, c1, c2, c3, fun j v hv => ?_, h4⟩
    rw [Nat.add_assoc]
    match j, hv with
    | 0, hv => cases hv; exact k0
    | 1, hv => cases hv; exact k1
    | 2, hv => cases hv; exact k2
    | 3, hv => cases hv; exact k3
    | j + 4, hv => simp at hv
theorem info_pe : (Try.prog.info? 91).map (fun i => (i.zero, i.size, i.bytes)) = some (some (.agg #[.pointer none, .pointer none, .pointer none, .pointer none]), 4, 32) := by kernel_rfl
set_option maxHeartbeats 2000000 in
theorem toPath_any (l : List GE) (v : Value) (w : World) (hv : RepGEs Any w v l) :
    Calls Try.prog 46 #[v] w fun en w' => ∃ v', en = .returned v' ∧ RepPath (fun b => w.heap.size ≤ b) w' v' (l.map toEl) ∧ Ext w w' := by
  obtain ⟨i0, hi, hz0, hz1, hz2⟩ := info_parts info_pe
  obtain ⟨a, b, o, cap, rfl, hle, hsz, ha, hat⟩ := hv
  have HA := hid ha
  have HT := hid hat
  clear ha hat
  go_enter Try.func46, Try.ntmps46
  have HO0 := hid (World.ownsRow_lit (base := w.heap.size) (e := 91) (size := 4) w #[] 0 (Nat.le_refl _) (by decide) (by simp))
  go_wp2_with fail
  go_loopw [3, 9] (fun v i wr => ∃ (k : Nat) (xs : List Value), i = .int .i64 k ∧ k ≤ l.length ∧ Hid (wr.ownsRow w.heap.size 91 4 v k xs) ∧ Hid (RowEl (fun b => w.heap.size ≤ b ∧ some b ≠ v.ownBlock) wr xs ((l.map toEl).take k)) ∧ Hid (Ext w wr)) (fun _ i _ => l.length - (intOf i).toNat)
  case atStart => exact ⟨0, [], rfl, Nat.zero_le _, hid (by have := HO0.out; simpa using this), hid (RowEl.nil _ _), hid ((Ext.refl w).alloc _)⟩
  case round =>
    obtain ⟨k, xs, rfl, hk, HO, HR, HE⟩ := hrel
    by_cases h1 : k < l.length
    · obtain ⟨e, he⟩ : ∃ e, l[k]? = some e := ⟨_, List.getElem?_eq_getElem h1⟩
      obtain ⟨rfl, -⟩ := HA.out (by omega)
      obtain ⟨k', s, a1, c1, a2, c2, u1, u2, u3, u4, u5, u6, u7, u8, u9, u10, n, hc1, hR1⟩ := HT.out k e he
      obtain ⟨q0, q1, q2, q3, q4, q5, q6, q7, q8, q9, q10⟩ := cells11 (cellsAt_ext HE.out hc1)
      have HG := hid (hR1.ext HE.out)
      have HTK := hid (show (l.map toEl).take (k + 1) = (l.map toEl).take k ++ [toEl e] from by
        have e1 : (l.map toEl)[k]? = some (toEl e) := by rw [List.getElem?_map, he]; rfl
        obtain ⟨hlt, he⟩ := List.getElem?_eq_some_iff.1 e1
        rw [List.take_succ_eq_append_getElem hlt, he])
      have hi0 : (0 : Int) ≤ (k : Int) := by omega
      have hi1 : (k : Int) < (l.length : Int) := by omega
      have HS := hid (show w.heap.size ≤ wr.heap.size from HE.out.size)
      clear he hc1 hR1
      go_wp2_with (first
        | (go_at_call 57; refine (toElem_any e _ _ (HG.out.ext ((Ext.refl wr).alloc _))).mono ?_; rintro en w2 ⟨cs, rfl, hx, hE⟩; obtain ⟨p0, p1, p2, p3, rfl⟩ := hx.form; have HX := hid hx; have HE2 := hid (((Ext.refl wr).alloc _).trans hE); clear hE hx)
        | (at_builtin; refine wpList_append_lies _ rfl (.tmp 13) (.tmp 16) 77 rfl w.heap.size 91 i0 _ 4 32 Try.underlying77 hi hz0 hz1 hz2 rfl (by decide) _ k xs rfl ((ownsRow_ext HO.out HE2.out).alloc _) ⟨w2.heap.size, 0, none⟩ 1 1 [.pointer p0, .pointer p1, .pointer p2, .pointer p3] rfl rfl (cells_new w2 [.pointer p0, .pointer p1, .pointer p2, .pointer p3] _) (by simp [Value.oneCell']) (by decide) (by unfold maxLen; omega) (by omega) (by have := HS.out; have := HE2.out.size; simp; omega) (w2.heap.size + 1) (by simp) ?_; intro g3 cap3 w3 hown3 hg3 hat hlt3; have ST := hid (row_step HS.out HO.out HE2.out hown3 hg3 hat); have HO3 := hid hown3; clear hown3 hg3 hat hlt3))
      exact ⟨⟨k + 1, _, by go_num, by omega, HO3, hid (by
        rw [HTK.out]
        have k1 := HR.out.mono ST.out.1 (S' := fun b => w.heap.size ≤ b ∧ some b ≠ (Value.slice (some ⟨g3, 0, none⟩) (k + 1) cap3).ownBlock) (fun b hb hlt => ⟨hb.1, fun e => ST.out.2.1 b hlt hb.2 (Option.some.inj e)⟩)
        refine k1.snoc ((HX.out.weak (S' := fun b => wr.heap.size ≤ b) (fun b hb _ => by simp at hb; omega)).mono ST.out.2.2.1 fun b hb hlt => ⟨by have := HS.out; omega, fun e => ST.out.2.2.2.1 b hb hlt (Option.some.inj e)⟩)), hid (Below.trans HE.out (ST.out.2.2.2.2.1.mono (by omega)))⟩, by simp [intOf]; omega⟩
    · have HTK := hid (show (l.map toEl).take k = l.map toEl from List.take_of_length_le (by simp; omega))
      obtain ⟨va, vc, rfl⟩ := own_form HO.out
      go_wp2_with fail
      go_ret
      have hr := HR.out
      rw [HTK.out] at hr
      exact ⟨_, rfl, path_of_row HO.out (hr.mono (Same.refl _ _) (fun b hb _ => hb.1)) (fun b hb => hb) (by simp; omega), HE.out⟩
theorem RepGEs.ext {S : Nat → Prop} {w w' : World} (h : Ext w w') {v : Value} {l : List GE} : RepGEs S w v l → RepGEs S w' v l := by
  rintro ⟨a, b, o, cap, h1, h2, h3, h4, h5⟩
  refine ⟨a, b, o, cap, h1, h2, h3, h4, fun i e he => ?_⟩
  obtain ⟨k, s, a1, c1, a2, c2, u1, u2, u3, u4, u5, u6, u7, u8, u9, u10, n, k1, k2⟩ := h5 i e he
  exact ⟨k, s, a1, c1, a2, c2, u1, u2, u3, u4, u5, u6, u7, u8, u9, u10, n, cellsAt_ext h k1, k2.ext h⟩
theorem RepGEs.form {S : Nat → Prop} {w : World} {v : Value} {l : List GE} (h : RepGEs S w v l) : ∃ a c, v = .slice a l.length c := by
  obtain ⟨a, b, o, c, h, -⟩ := h
  exact ⟨_, _, h⟩
set_option maxHeartbeats 1000000 in
theorem cpaths_any (l1 l2 : List GE) (v1 v2 : Value) (w : World) (h1 : RepGEs Any w v1 l1) (h2 : RepGEs Any w v2 l2) : Calls Try.prog 12 #[v1, v2] w fun e w' => e = .returned (.int .i64 (cmpP (l1.map toEl) (l2.map toEl))) ∧ Ext w w' := by
  obtain ⟨a1, c1, rfl⟩ := h1.form
  obtain ⟨a2, c2, rfl⟩ := h2.form
  have T1 := hid (toPath_any l1 _ w h1)
  have H2 := hid (fun W (E : Ext w W) => toPath_any l2 _ W (h2.ext E))
  generalize l1.map toEl = p1 at T1 ⊢
  generalize l2.map toEl = p2 at H2 ⊢
  generalize l1.length = n1 at T1 ⊢
  generalize l2.length = n2 at H2 ⊢
  clear h1 h2
  have tk : True := trivial
  go_enter Try.func12, Try.ntmps12
  go_wp2_with (first
    | (go_at_call 46; have _t := tk; refine T1.out.mono ?_; rintro e w2 ⟨x1, rfl, hx, hE⟩; have HX1 := hid (hx.weak (S' := Any) (fun _ _ _ => trivial)); have HE1 := hid hE; obtain ⟨aa, cc, rfl⟩ := hx.form; clear hE hx tk _t)
    | (go_at_call 46; refine (H2.out _ HE1.out).mono ?_; rintro e w3 ⟨x2, rfl, hx, hE⟩; have HX2 := hid (hx.weak (S' := Any) (fun _ _ _ => trivial)); have HE2 := hid hE; obtain ⟨aa', cc', rfl⟩ := hx.form; clear hE hx)
    | (go_at_call 47; refine (pcmp_any _ _ _ _ _ (HX1.out.ext HE2.out) HX2.out).mono ?_; rintro e w4 ⟨rfl, hE⟩; have HE3 := hid hE; clear hE))
  go_ret
  exact ⟨rfl, (HE1.out.trans HE2.out).trans HE3.out⟩
set_option maxHeartbeats 1000000 in
theorem epaths_any (l1 l2 : List GE) (v1 v2 : Value) (w : World) (h1 : RepGEs Any w v1 l1) (h2 : RepGEs Any w v2 l2) : Calls Try.prog 13 #[v1, v2] w fun e w' => e = .returned (.bool (eqP (l1.map toEl) (l2.map toEl))) ∧ Ext w w' := by
  obtain ⟨a1, c1, rfl⟩ := h1.form
  obtain ⟨a2, c2, rfl⟩ := h2.form
  have T1 := hid (toPath_any l1 _ w h1)
  have H2 := hid (fun W (E : Ext w W) => toPath_any l2 _ W (h2.ext E))
  generalize l1.map toEl = p1 at T1 ⊢
  generalize l2.map toEl = p2 at H2 ⊢
  generalize l1.length = n1 at T1 ⊢
  generalize l2.length = n2 at H2 ⊢
  clear h1 h2
  have tk : True := trivial
  go_enter Try.func13, Try.ntmps13
  go_wp2_with (first
    | (go_at_call 46; have _t := tk; refine T1.out.mono ?_; rintro e w2 ⟨x1, rfl, hx, hE⟩; have HX1 := hid (hx.weak (S' := Any) (fun _ _ _ => trivial)); have HE1 := hid hE; obtain ⟨aa, cc, rfl⟩ := hx.form; clear hE hx tk _t)
    | (go_at_call 46; refine (H2.out _ HE1.out).mono ?_; rintro e w3 ⟨x2, rfl, hx, hE⟩; have HX2 := hid (hx.weak (S' := Any) (fun _ _ _ => trivial)); have HE2 := hid hE; obtain ⟨aa', cc', rfl⟩ := hx.form; clear hE hx)
    | (go_at_call 48; refine (pequ_any _ _ _ _ _ (HX1.out.ext HE2.out) HX2.out).mono ?_; rintro e w4 ⟨rfl, hE⟩; have HE3 := hid hE; clear hE))
  go_ret
  exact ⟨rfl, (HE1.out.trans HE2.out).trans HE3.out⟩
end Go.Proofs.Ytempfaefopfobaa
end

/- OrdPath: spec.OrderlyPaths, laws.tame. -/
section
set_option maxRecDepth 100000
namespace Go.Proofs.Ytempfaefopfobaa
open Go.ChangeShapes Go.WideShapes Go.ChangeAt Go.RowKit
set_option linter.unusedVariables false
set_option linter.unusedSimpArgs false

/-- some paths as they come in -/
def RepPaths (w : World) (v : Value) (ps : List (List GE)) : Prop :=
  ∃ a b o cap, v = .slice a ps.length cap ∧ ps.length ≤ 140737488351232 ∧ ∀ (i : Nat) (p : List GE), ps[i]? = some p → a = some ⟨b, o, none⟩ ∧ ∃ x, w.cell? ⟨b, o + i, none⟩ = some x ∧ RepGEs Any w x p
def ordPs (ps : List (List GE)) : Bool := ps.all fun p => p.all ordE
theorem all_step {α : Type} {f : α → Bool} {l : List α} {k : Nat} {a : α} (h : l[k]? = some a) : (l.drop k).all f = (f a && (l.drop (k + 1)).all f) := by
  obtain ⟨h1, rfl⟩ := List.getElem?_eq_some_iff.1 h
  rw [List.drop_eq_getElem_cons h1, List.all_cons]
theorem all_end {α : Type} {f : α → Bool} {l : List α} {k : Nat} (h : l.length ≤ k) : (l.drop k).all f = true := by
  rw [List.drop_eq_nil_of_le h]; rfl
set_option maxHeartbeats 2000000 in
theorem ordPaths_any (ps : List (List GE)) (v : Value) (w : World) (hv : RepPaths w v ps) :
    Calls Try.prog 45 #[v] w fun en w' => en = .returned (.bool (ordPs ps)) ∧ Ext w w' := by
  unfold ordPs
  obtain ⟨a, b, o, cap, rfl, hsz, hat⟩ := hv
  have HT := hid hat
  clear hat
  go_enter Try.func45, Try.ntmps45
  go_wp2_with fail
  go_loopw [9] (fun i wr => ∃ k : Nat, i = .int .i64 k ∧ k ≤ ps.length ∧ Hid ((ps.drop k).all (fun p => p.all ordE) = ps.all fun p => p.all ordE) ∧ Hid (Ext w wr)) (fun i _ => ps.length - (intOf i).toNat)
  case atStart => exact ⟨0, rfl, Nat.zero_le _, hid rfl, hid (Ext.refl _)⟩
  case round =>
    obtain ⟨k, rfl, hk, HC, HE⟩ := hrel
    by_cases h1 : k < ps.length
    · obtain ⟨p, hp⟩ : ∃ p, ps[k]? = some p := ⟨_, List.getElem?_eq_getElem h1⟩
      obtain ⟨rfl, x, kx, hx⟩ := HT.out k p hp
      obtain ⟨pa, pb, po, pc, rfl, -, hpl, hpa, hpt⟩ := hx
      have j1 := HE.out.cellS kx
      have HPA := hid hpa
      have HPT := hid hpt
      have hst := all_step (f := fun p : List GE => p.all ordE) hp
      rw [HC.out] at hst
      have HST := hid hst
      have hi0 : (0 : Int) ≤ (k : Int) := by omega
      have hi1 : (k : Int) < (ps.length : Int) := by omega
      clear hst hp kx hpa hpt
      go_wp2_with fail
      go_loopw [15] (fun i wx => ∃ j : Nat, i = .int .i64 j ∧ j ≤ p.length ∧ Hid ((p.drop j).all ordE = p.all ordE) ∧ Hid (Ext w wx)) (fun i _ => p.length - (intOf i).toNat)
      case atStart => exact ⟨0, rfl, Nat.zero_le _, hid rfl, HE⟩
      case round =>
        rename_i wx
        obtain ⟨j, rfl, hj, HD, HF⟩ := hrel
        by_cases h2 : j < p.length
        · obtain ⟨e, he⟩ : ∃ e, p[j]? = some e := ⟨_, List.getElem?_eq_getElem h2⟩
          obtain ⟨rfl, -⟩ := HPA.out (by omega)
          obtain ⟨k', s, a1, c1, a2, c2, u1, u2, u3, u4, u5, u6, u7, u8, u9, u10, n, hc1, hR1⟩ := HPT.out j e he
          obtain ⟨q0, q1, q2, q3, q4, q5, q6, q7, q8, q9, q10⟩ := cells11 (cellsAt_ext HF.out hc1)
          have hs2 := all_step (f := ordE) he
          rw [HD.out] at hs2
          have HCU := hid (fun W (E : Ext w W) => ordElem_any e _ W (hR1.ext E))
          have hj0 : (0 : Int) ≤ (j : Int) := by omega
          have hj1 : (j : Int) < (p.length : Int) := by omega
          clear he hc1 hR1
          cases hb : ordE e
          all_goals
            rw [hb] at hs2 HCU
            have HS2 := hid hs2
            clear hs2 hb
            go_wp2_with (go_at_call 91; refine (HCU.out _ (HF.out.alloc _)).mono ?_; rintro en w2 ⟨rfl, hE⟩; have HE2 := hid ((HF.out.alloc _).trans hE); clear hE)
          · go_ret
            exact ⟨congrArg (fun z => Ending.returned (.bool z)) (show false = ps.all (fun p => p.all ordE) by rw [HST.out, HS2.out]; rfl), HE2.out⟩
          · exact ⟨⟨j + 1, by go_num, by omega, hid (by rw [HS2.out]; simp), HE2⟩, by simp [intOf]; omega⟩
        · have HAL := hid (show p.all ordE = true by rw [← HD.out, all_end (by omega)])
          go_wp2_with fail
          exact ⟨⟨k + 1, by go_num, by omega, hid (by rw [HST.out, HAL.out]; simp), HF⟩, by simp [intOf]; omega⟩
    · have RES := hid (show true = ps.all (fun p => p.all ordE) by rw [← HC.out, all_end (by omega)])
      go_wp2_with fail
      go_ret
      exact ⟨congrArg (fun z => Ending.returned (.bool z)) RES.out, HE.out⟩
theorem tame_any (p : List GE) (v : Value) (w : World) (hv : RepGEs Any w v p) :
    Calls Try.prog 11 #[v] w fun en w' => en = .returned (.bool (p.all ordE)) ∧ Ext w w' := by
  obtain ⟨a, c, rfl⟩ := hv.form
  have HV := hid hv
  clear hv
  go_enter Try.func11, Try.ntmps11
  have xx := heap_alloc_new w (.cells #[.slice a p.length c] 22)
  have HP := hid (show RepPaths (w.alloc (.cells #[.slice a p.length c] 22)) (.slice (some ⟨w.heap.size, 0, none⟩) 1 1) [p] from
    ⟨some ⟨w.heap.size, 0, none⟩, w.heap.size, 0, 1, rfl, by simp, fun i q hq => ⟨rfl, by
      match i, hq with
      | 0, hq => cases hq; exact ⟨_, (cell_of_heap xx 0).trans rfl, HV.out.ext ((Ext.refl w).alloc _)⟩
      | i + 1, hq => simp at hq⟩⟩)
  clear xx
  go_wp2_with (go_at_call 45; refine (ordPaths_any [p] _ _ HP.out).mono ?_; rintro en w2 ⟨rfl, hE⟩; have HE := hid (((Ext.refl w).alloc _).trans hE); clear hE)
  go_ret
  exact ⟨congrArg (fun z => Ending.returned (.bool z)) (by simp [ordPs]), HE.out⟩
end Go.Proofs.Ytempfaefopfobaa
end

/- RowGE: rows of cells that hold path elements as they come in; an opener for []impl.Elem. -/
section
set_option maxRecDepth 100000
namespace Go.Proofs.Ytempfaefopfobaa
open Go.ChangeShapes Go.WideShapes Go.ChangeAt Go.RowKit
set_option linter.unusedVariables false
set_option linter.unusedSimpArgs false

def RowGE (S : Nat → Prop) (w : World) (xs : List Value) (l : List GE) : Prop := xs.length = l.length * 11 ∧ ∀ i e, l[i]? = some e → RepGE S w e ((xs.drop (i * 11)).take 11)
theorem RowGE.nil (S : Nat → Prop) (w : World) : RowGE S w [] [] := ⟨rfl, fun i g h => by simp at h⟩
theorem RowGE.mono {S S' : Nat → Prop} {w w' : World} {xs : List Value} {l : List GE} (h : RowGE S w xs l) (hs : Same S w w') (hS : ∀ b, S b → b < w.heap.size → S' b) : RowGE S' w' xs l :=
  ⟨h.1, fun i e he => (h.2 i e he).mono hs hS⟩
theorem RowGE.append {S : Nat → Prop} {w : World} {xs ys : List Value} {l m : List GE} (h : RowGE S w xs l) (k : RowGE S w ys m) : RowGE S w (xs ++ ys) (l ++ m) := by
  refine ⟨by rw [List.length_append, h.1, k.1, List.length_append]; omega, fun i g hg => ?_⟩
  by_cases hi : i < l.length
  · rw [List.getElem?_append_left hi] at hg
    have := h.2 i g hg
    rwa [List.drop_append_of_le_length (by rw [h.1]; omega), List.take_append_of_le_length (by rw [List.length_drop, h.1]; omega)]
  · rw [List.getElem?_append_right (by omega)] at hg
    have := k.2 _ g hg
    rw [List.drop_append, List.drop_of_length_le (by rw [h.1]; omega), List.nil_append, h.1]
    rwa [show i * 11 - l.length * 11 = (i - l.length) * 11 by omega]
theorem RepGE.len {S : Nat → Prop} {w : World} {e : GE} {cs : List Value} (h : RepGE S w e cs) : cs.length = 11 := by
  obtain ⟨_, _, _, _, _, _, _, _, _, _, rfl, -⟩ := h; rfl
theorem RepGE.oneCell {S : Nat → Prop} {w : World} {e : GE} {cs : List Value} (h : RepGE S w e cs) : ∀ u ∈ cs, u.oneCell' = true := by
  obtain ⟨_, _, _, _, _, _, _, _, _, _, _, _, _, _, _, _, _, rfl, -⟩ := h.form6
  intro u hu
  simp at hu
  rcases hu with rfl | rfl | rfl | rfl | rfl | rfl | rfl | rfl | rfl | rfl | rfl <;> rfl
theorem RowGE.one {S : Nat → Prop} {w : World} {cs : List Value} {e : GE} (h : RepGE S w e cs) : RowGE S w cs [e] := by
  refine ⟨by rw [h.len]; rfl, fun i g hg => ?_⟩
  match i, hg with
  | 0, hg => cases hg; rw [Nat.zero_mul, List.drop_zero, List.take_of_length_le (by rw [h.len]; omega)]; exact h
  | i + 1, hg => simp at hg
theorem RowGE.oneCell {S : Nat → Prop} {w : World} {xs : List Value} {l : List GE} (h : RowGE S w xs l) : ∀ u ∈ xs, u.oneCell' = true := by
  intro u hu
  obtain ⟨j, hj⟩ := List.mem_iff_getElem?.1 hu
  have hlt := (List.getElem?_eq_some_iff.1 hj).1
  rw [h.1] at hlt
  obtain ⟨g, hg⟩ : ∃ g, l[j / 11]? = some g := ⟨_, List.getElem?_eq_getElem (by omega)⟩
  refine (h.2 _ g hg).oneCell u (List.mem_iff_getElem?.2 ⟨j % 11, ?_⟩)
  rw [List.getElem?_take, if_pos (by omega), List.getElem?_drop, ← hj]
  congr 1; omega
theorem src_ges {w : World} {a : Option Addr} {n c : Nat} {l : List GE} (h : RepGEs Any w (.slice a n c) l) : n = l.length ∧ ∃ xs, RowGE Any w xs l ∧ SrcAt w a n xs := by
  obtain ⟨a', b, o, c', he, hle, hsz, ha, hat⟩ := h
  simp only [Value.slice.injEq] at he
  obtain ⟨rfl, rfl, rfl⟩ := he
  have key : ∀ m, m ≤ l.length → ∃ xs, RowGE Any w xs (l.take m) ∧ ∀ j u, xs[j]? = some u → w.cell? ⟨b, o + j, none⟩ = some u := by
    intro m
    induction m with
    | zero => exact fun _ => ⟨[], by simpa using RowGE.nil Any w, fun j u hu => by simp at hu⟩
    | succ m ih =>
      intro hm
      obtain ⟨xs, h1, h2⟩ := ih (by omega)
      have hl : m < l.length := by omega
      obtain ⟨k, s, a1, c1, a2, c2, u1, u2, u3, u4, u5, u6, u7, u8, u9, u10, n, k1, k2⟩ := hat m _ (List.getElem?_eq_getElem hl)
      refine ⟨xs ++ _, by rw [List.take_succ_eq_append_getElem hl]; exact h1.append (RowGE.one k2), fun j u hu => ?_⟩
      have hx : xs.length = m * 11 := by rw [h1.1, List.length_take]; omega
      by_cases hj : j < xs.length
      · rw [List.getElem?_append_left hj] at hu; exact h2 j u hu
      · rw [List.getElem?_append_right (by omega), hx] at hu
        have := k1 _ u hu
        rwa [Nat.add_assoc, show m * 11 + (j - m * 11) = j by omega] at this
  obtain ⟨xs, h1, h2⟩ := key l.length (Nat.le_refl _)
  rw [List.take_length] at h1
  refine ⟨rfl, xs, h1, ?_⟩
  by_cases h0 : 0 < l.length
  · have := (ha h0).1
    subst this
    exact .inr ⟨_, rfl, fun j u hu => by rw [addr_add rfl]; exact h2 j u hu⟩
  · have hnil : l = [] := List.eq_nil_of_length_eq_zero (by omega)
    subst hnil
    have hx : xs = [] := List.eq_nil_of_length_eq_zero (by simpa using h1.1)
    subst hx
    cases a with
    | none => exact .inl ⟨rfl, rfl⟩
    | some ad => exact .inr ⟨ad, rfl, fun j u hu => by simp at hu⟩
theorem ges_of_row {S : Nat → Prop} {w : World} {base n c : Nat} {a : Option Addr} {xs : List Value} {l : List GE} {t : TypeId} (hown : w.ownsRow base t 11 (.slice a n c) n xs) (hrow : RowGE S w xs l) (hS : ∀ b, base ≤ b → S b) (hsz : l.length * 168 ≤ 140737488351232) : RepGEs S w (.slice a n c) l := by
  have hn : n = l.length := by have := hown.1; have := hrow.1; omega
  subst hn
  rcases hown.2 with ⟨h, h0⟩ | ⟨g, cap, cur, h, hb, hg, hle, _⟩
  · simp only [Value.slice.injEq] at h
    obtain ⟨rfl, h1, rfl⟩ := h
    exact ⟨none, 0, 0, 0, rfl, by omega, hsz, fun h => absurd h (by omega), fun i q hq => by have := (List.getElem?_eq_some_iff.1 hq).1; omega⟩
  · cases h
    refine ⟨_, g, 0, _, rfl, hle, hsz, fun _ => ⟨rfl, hS g hb⟩, fun i e he => ?_⟩
    have hr := hrow.2 i e he
    have hc := hown.cells (g := g) rfl
    obtain ⟨k, s, a1, c1, a2, c2, u1, u2, u3, u4, u5, u6, u7, u8, u9, u10, n, hcs, -⟩ := hr.form6
    refine ⟨k, s, a1, c1, a2, c2, u1, u2, u3, u4, u5, u6, u7, u8, u9, u10, n, ?_, by rw [← hcs]; exact hr⟩
    rw [← hcs]
    intro j v hv
    rw [List.getElem?_take] at hv
    split at hv
    · rw [List.getElem?_drop] at hv
      have := hc _ v hv
      rw [addr_add rfl] at this
      rwa [← Nat.add_assoc] at this
    · cases hv
section
variable {H : Type} {enc : TypeId × Value → H} {w : World} {base : Nat} {spare : Nat → Bool} {held : Bool}
theorem bytesE : Try.prog.bytesOf 34 = 168 := by kernel_rfl
theorem open_ges (fuel : Nat) (cs : List Value) (x : DataW H × List MemPlace) (h : DataW.trod enc Try.prog w base spare held fuel 22 cs = some x) (hw : Wt Try.prog 22 x.1) : ∃ v l, cs = [v] ∧ RepGEs Any w v l := by
  obtain ⟨a, b, o, len, cap, rfl, hl, hb, ha, hel⟩ := open_sl Try.underlying22 (by rw [cellsE]; omega) h hw
  rw [bytesE] at hb
  rw [cellsE] at hel
  have key : ∀ i, i < len → ∃ g, ∃ cs', cellsAt w b (o + i * 11) cs' ∧ RepGE Any w g cs' := by
    intro i hi
    obtain ⟨n', cs', y, hn', h6, h7, h8, h9⟩ := hel i hi
    obtain ⟨g, hg⟩ := open_ge n' cs' y h8 h9
    exact ⟨g, cs', h7, hg⟩
  haveI : Inhabited GE := ⟨⟨0, ByteArray.empty, [], [], zeroG, 0⟩⟩
  obtain ⟨fg, hfg⟩ := Deep.choose_lt (α := GE) key
  refine ⟨_, (List.range len).map fg, rfl, a, b, o, cap, by simp, by simpa using hl, by simpa using hb, fun h0 => ⟨ha (by simpa using h0), trivial⟩, fun i e he => ?_⟩
  simp only [List.getElem?_map, Option.map_eq_some_iff] at he
  obtain ⟨j, hj, rfl⟩ := he
  obtain ⟨hj1, hj2⟩ := List.getElem?_eq_some_iff.1 hj
  simp at hj1 hj2
  subst hj2
  obtain ⟨cs2, h7, h8⟩ := hfg i hj1
  obtain ⟨k, s, a1, c1, a2, c2, u1, u2, u3, u4, u5, u6, u7, u8, u9, u10, n, rfl, -⟩ := h8.form6
  exact ⟨k, s, a1, c1, a2, c2, u1, u2, u3, u4, u5, u6, u7, u8, u9, u10, n, h7, h8⟩
end
end Go.Proofs.Ytempfaefopfobaa
end
