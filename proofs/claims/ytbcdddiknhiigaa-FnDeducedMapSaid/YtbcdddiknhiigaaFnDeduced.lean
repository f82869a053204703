/- FnDeducedMap: a map type is that of maps of which nothing is known just if it declares no fields and the type of its fields is the named deduced type, or is written out with a scalar of any kind; for every input. -/
import Derived.Test.YtbcdddiknhiigaaToMap
import Derived.ChangeMaps5
import Derived.Lib.SliceRun
import Derived.BigQuiet
namespace Go.Proofs.Ytbcdddiknhiigaa.fnDeduced
open Go.ChangeShapes Go.WideShapes Go.ChangeAt Go.RowKit
set_option linter.unusedSimpArgs false
set_option linter.unusedVariables false

theorem to_ok : ∀ (N : Nat) (g : GS), SizeOf.sizeOf g ≤ N → ToOK 28 1 g ∧ ToOK 37 2 g ∧ ToOK 42 3 g ∧ ToOK 29 5 g ∧ ToOK 16 4 g := by
  intro N
  induction N with
  | zero => intro g h; cases g <;> simp at h
  | succ N ih =>
    intro g h
    have hl : ∀ {l : List GS} {i : Nat} {x : GS}, l[i]? = some x → SizeOf.sizeOf l ≤ N → SizeOf.sizeOf x ≤ N := fun h1 h2 => Nat.le_of_lt (Nat.lt_of_lt_of_le (sizeOf_of_getElem? h1) h2)
    cases g with
    | ref nm name a rel =>
      refine ⟨toRef_of nm name rel a (ih a (by simp at h; omega)).2.1, ?_, ?_, ?_, ?_⟩ <;> exact fun h => absurd h (by simp [GS.tag])
    | atom sc ls ms =>
      refine ⟨?_, toAtom_of sc ls ms (fun g hg => (ih g (hl hg (by simp at h; omega))).2.2.1) (fun g hg => (ih g (hl hg (by simp at h; omega))).2.2.2.2), ?_, ?_, ?_⟩ <;> exact fun h => absurd h (by simp [GS.tag])
    | lst e rel keys =>
      refine ⟨?_, ?_, toList_of e rel keys (ih e (by simp at h; omega)).1, ?_, ?_⟩ <;> exact fun h => absurd h (by simp [GS.tag])
    | mp fs e rel =>
      refine ⟨?_, ?_, ?_, ?_, toMap_of fs e rel (ih e (by simp at h; omega)).1 (fun i g hg => (ih g (hl hg (by simp at h; omega))).2.2.2.1)⟩ <;> exact fun h => absurd h (by simp [GS.tag])
    | fld name t ds =>
      refine ⟨?_, ?_, ?_, toField_of name t ds (ih t (by simp at h; omega)).1, ?_⟩ <;> exact fun h => absurd h (by simp [GS.tag])
theorem toMap_any (g : GS) : ToOK 16 4 g := (to_ok _ g (Nat.le_refl _)).2.2.2.2

/-- is it the deduced type? -/
def dedR (g : GS) : Bool := match g with
  | .ref true name _ _ => name.toList == [95, 95, 117, 110, 116, 121, 112, 101, 100, 95, 100, 101, 100, 117, 99, 101, 100, 95]
  | .ref false _ (.atom sc _ _) _ => sc.toList == [117, 110, 116, 121, 112, 101, 100]
  | _ => false
set_option maxRecDepth 100000 in
theorem dedRef_any (g : GS) (w : World) (cs : List Value) (hR : RepS Any w g cs) (ht : g.tag = 1) :
    Calls Try.prog 39 #[.agg cs.toArray] w fun e w' => e = .returned (.bool (dedR g)) ∧ Ext w w' := by
  cases hR with
  | @refN name rel a nb rp hN hn h1 h2 hr =>
    obtain ⟨p, rfl⟩ := hr.form
    have x1 := ((Ext.refl w).alloc (.cells #[.pointer (some ⟨nb, 0, none⟩), .pointer none, .pointer none, .pointer none, .pointer p, .bool false] 65)).block hn
    have y1 : (w.alloc (.cells #[.pointer (some ⟨nb, 0, none⟩), .pointer none, .pointer none, .pointer none, .pointer p, .bool false] 65)).cell? ⟨nb, 0, none⟩ = some (.string name) := (cell_of_heap x1 0).trans rfl
    clear x1
    go_enter Try.func39, Try.ntmps39
    go_wp2_with fail
    go_ret
    exact ⟨rfl, (Ext.refl _).alloc _⟩
  | @refA name rel a c0 c1 c2 rp ht' ha h2 hr =>
    obtain ⟨p, rfl⟩ := hr.form
    obtain ⟨p0, p1, p2, e⟩ := ha.formA ht'
    simp only [List.cons.injEq, and_true] at e
    obtain ⟨rfl, rfl, rfl⟩ := e
    cases ha with
    | @atom sc ls ms sp lp mp lb mb lcs mcs h1 hs hl0 hlb hl hm0 hmb hm =>
      clear hl0 hlb hl hm0 hmb hm
      rcases hs with ⟨hs1, hs2⟩ | ⟨hs1, b, hs2, -, hs3⟩
      · cases hs2
        have hd : (sc.toList == [117, 110, 116, 121, 112, 101, 100]) = false := by
          have := isEmpty_size sc
          rw [hs1] at this
          simp only [decide_true, List.isEmpty_iff] at this
          rw [this]; rfl
        have Hd := hid hd
        clear hd hs1
        go_enter Try.func39, Try.ntmps39
        go_wp2_with fail
        go_ret
        exact ⟨by rw [show dedR (.ref false name (.atom sc ls ms) rel) = (sc.toList == [117, 110, 116, 121, 112, 101, 100]) from rfl, Hd.out]; rfl, ((Ext.refl _).alloc _).alloc _⟩
      · cases hs2
        have A1 := fun o o' => (cell_of_heap (((((Ext.refl w).alloc o).alloc o')).block hs3) 0).trans (show (#[Value.string sc] : Array Value)[0]? = some (.string sc) from rfl)
        have Hs := hid hs3
        clear hs3 hs1
        go_enter Try.func39, Try.ntmps39
        go_wp2_with fail
        go_ret
        exact ⟨rfl, ((Ext.refl _).alloc _).alloc _⟩
  | _ => cases ht

@[go_sem] theorem eql_nil (a : Option Addr) (n c : Nat) (w : World) : (binOp .eql 55 (.slice a n c) (.slice none 0 0)).run Try.prog w = .ok (.bool a.isNone) w := Lib.run_eql_slice_nil w _ _ a n c 0 0 Try.underlying55
set_option maxRecDepth 100000 in
theorem dedMap_any (fs : List GS) (el : GS) (rel : ByteArray) (O : Nat) (w : World) (cs : List Value) (hO : w.heap[O]? = some (.cells cs.toArray 68)) (hR : RepS Any w (.mp fs el rel) cs) :
    Calls Try.prog 30 #[.pointer (some ⟨O, 0, none⟩)] w fun e w' => e = .returned (.bool (dedR el && decide (fs.length = 0))) ∧ Ext w w' := by
  cases hR with
  | @mp _ _ _ fa fb fo fc c0 c1 c2 c3 c4 c5 h1 ht he hn hF hft hf =>
    obtain ⟨p0, p1, p2, p3, p4, e⟩ := he.formR ht
    simp only [List.cons.injEq, and_true] at e
    obtain ⟨rfl, rfl, rfl, rfl, rfl, rfl⟩ := e
    have HC := hid (dedRef_any el w _ he ht)
    have hfa : fa.isNone = decide (fs.length = 0) := by
      by_cases h : fs.length = 0
      · rw [hn h]; simp [h]
      · obtain ⟨e, -⟩ := hF.2.1 (by omega)
        rw [e]; simp [h]
    generalize decide (fs.length = 0) = b0 at *
    generalize fs.length = n0 at *
    generalize dedR el = bb at *
    obtain ⟨⟨z0, z1, z2, z3, z4, z5, z6, z7, z8⟩, -⟩ := slot9 hO
    have HO := hid hO
    clear hO he hn hF hft hf ht
    cases bb
    all_goals cases fa
    all_goals
      simp only [Option.isNone_none, Option.isNone_some] at hfa
      subst hfa
      go_enter Try.func30, Try.ntmps30
      go_wp2_with (go_at_call 39; refine HC.out.mono ?_; rintro e w2 ⟨rfl, hE⟩; obtain ⟨⟨z0, z1, z2, z3, z4, z5, z6, z7, z8⟩, -⟩ := slot9 (hE.block HO.out); have HE := hid hE; clear hE)
      go_ret
      exact ⟨rfl, HE.out⟩

set_option maxRecDepth 100000 in
theorem door_any (fs : List GS) (el : GS) (rel : ByteArray) (O : Nat) (w : World) (cs : List Value) (hO : w.heap[O]? = some (.cells cs.toArray 68)) (hR : RepS Any w (.mp fs el rel) cs) :
    Calls Try.prog 17 #[.pointer (some ⟨O, 0, none⟩)] w fun e w' => e = .returned (.bool (dedR el && decide (fs.length = 0))) ∧ Ext w w' := by
  have hc := dedMap_any fs el rel O w cs hO hR
  generalize (dedR el && decide (fs.length = 0)) = bb at *
  have HC := hid hc
  clear hO hR hc
  go_enter Try.func17, Try.ntmps17
  go_wp2_with (go_at_call 30; refine HC.out.mono ?_; rintro e w2 ⟨rfl, hE⟩; have HE := hid hE; clear hE)
  go_ret
  exact ⟨rfl, HE.out⟩

set_option maxRecDepth 100000 in
theorem isDed_any (fs : List GS) (el : GS) (rel : ByteArray) (w : World) (cs : List Value) (hR : RepGS Any w (.mp fs el rel) cs) :
    Calls Try.prog 8 #[.agg cs.toArray] w fun e w' => e = .returned (.bool (dedR el && decide (fs.length = 0))) ∧ Ext w w' := by
  obtain ⟨x, y, z, b, n, s, p0, p1, p2, q0, q1, q2, r, r', rfl⟩ := hR.formM rfl
  have HR := hid hR
  have HD := hid (door_any fs el rel)
  generalize (dedR el && decide (fs.length = 0)) = bb at *
  clear hR
  go_enter Try.func8, Try.ntmps8
  go_wp2_with (first
    | (go_at_call 16; refine (toMap_any (.mp fs el rel) rfl _ _ (HR.out.ext ((Ext.refl _).alloc _))).mono ?_; rintro e w2 ⟨cs2, rfl, hT, hE⟩; obtain ⟨r0, r1, r2, r3, r4, r5, r6, r7, r8, rfl⟩ := hT.formM rfl; have HT := hid hT; have HE := hid hE; clear hT hE)
    | (go_at_call 17; refine (HD.out _ _ _ (heap_alloc_new w2 _) ((HT.out.weak (S' := Any) (fun _ _ _ => trivial)).ext ((Ext.refl w2).alloc _))).mono ?_; rintro e w3 ⟨rfl, hE3⟩; have HE3 := hid hE3; clear hE3))
  go_ret
  exact ⟨rfl, ((((Ext.refl _).alloc _).trans HE.out).alloc _).trans HE3.out⟩

set_option maxRecDepth 100000 in
theorem fits20 (fs : List GS) (el : GS) (rel : ByteArray) (w : World) (cs : List Value) (hR : RepGS Any w (.mp fs el rel) cs) :
    Calls Try.prog 7 #[.agg cs.toArray] w fun e w' => ∃ b, e = .returned (.bool b) ∧ Ext w w' := by
  obtain ⟨x, y, z, b, n, s, p0, p1, p2, q0, q1, q2, r, r', rfl⟩ := hR.formM rfl
  clear hR
  go_enter Try.func7, Try.ntmps7
  go_wp2_with fail
  all_goals
    go_ret
    exact ⟨_, rfl, (Ext.refl _).alloc _⟩

set_option maxRecDepth 100000 in
set_option maxHeartbeats 2000000 in
theorem walk (g : GS) (ht : g.tag = 4) (w : World) (cs : List Value) (hR : RepGS Any w g cs) :
    Calls Try.prog 4 #[.agg cs.toArray] w fun e w' => e = .returned (.bool true) ∧ Ext w w' := by
  have HR := hid hR
  cases hR with
  | @mp fs el rel fa fb fo fc c0 c1 c2 c3 c4 c5 h1 ht' he hb hF hft hf =>
    have hel : ∃ nm name sc rel' p0 p1 p2 q0 q1 q2, dedR el = (if nm then name.toList == [95, 95, 117, 110, 116, 121, 112, 101, 100, 95, 100, 101, 100, 117, 99, 101, 100, 95] else sc.toList == [117, 110, 116, 121, 112, 101, 100]) ∧ [c0, c1, c2, c3, c4, c5] = [.bool nm, .string name, .string sc, .slice p0 p1 p2, .slice q0 q1 q2, .string rel'] := by
      cases he with
      | @ref nm name rel' a d0 d1 d2 h1 h2 hta ha =>
        cases ha with
        | atom => cases nm <;> exact ⟨_, _, _, _, _, _, _, _, _, _, rfl, rfl⟩
        | _ => cases hta
      | _ => cases ht'
    obtain ⟨nm, name, sc, rel', p0, p1, p2, q0, q1, q2, hded, e⟩ := hel
    simp only [List.cons.injEq, and_true] at e
    obtain ⟨rfl, rfl, rfl, rfl, rfl, rfl⟩ := e
    have C1 := hid (fun W cs h => fits20 fs el rel W cs h)
    have C2 := hid (fun W cs h => isDed_any fs el rel W cs h)
    have hx := hid (boxes1 w (.cells #[.slice fa fs.length fc, .bool nm, .string name, .string sc, .slice p0 p1 p2, .slice q0 q1 q2, .string rel', .string rel] 37))
    clear he hft hf hF hb h1 ht' ht
    obtain ⟨n0, hn0⟩ : ∃ n0, fs.length = n0 := ⟨_, rfl⟩
    rw [hn0] at C2
    rw [hn0] at HR hx ⊢
    rw [hded] at C2
    clear hded hn0
    by_cases h0 : n0 = 0
    · subst h0
      simp only [decide_true, Bool.and_true] at C2
      cases nm
      all_goals simp only [if_true, if_false, Bool.false_eq_true] at C2
      all_goals go_enter Try.func4, Try.ntmps4
      all_goals
        go_wp2_with (first
          | (go_at_call 7; refine (C1.out _ _ (HR.out.ext ((Ext.refl _).alloc _))).mono ?_; rintro e w2 ⟨b, rfl, hE⟩; obtain ⟨x1, hEE⟩ := hx.out w2 (Below.mono hE (by simp)); obtain ⟨⟨z0, z1, z2, z3, z4, z5, z6, z7⟩, -⟩ := slot8 x1; have HEE := hid hEE; cases b <;> clear hE x1 hEE)
          | (go_at_call 8; refine (C2.out _ _ (HR.out.ext HEE.out)).mono ?_; rintro e w3 ⟨rfl, hE⟩; have HE3 := hid (HEE.out.trans hE); clear hE))
        all_goals go_ret
        all_goals first | exact ⟨by simp, HEE.out⟩ | exact ⟨by simp, HE3.out⟩
    · simp only [h0, decide_false, Bool.and_false] at C2
      have hbn : ((n0 : Int) == 0) = false := by simpa using h0
      clear h0
      cases nm
      all_goals go_enter Try.func4, Try.ntmps4
      all_goals
        go_wp2_with (first
          | (go_at_call 7; refine (C1.out _ _ (HR.out.ext ((Ext.refl _).alloc _))).mono ?_; rintro e w2 ⟨b, rfl, hE⟩; obtain ⟨x1, hEE⟩ := hx.out w2 (Below.mono hE (by simp)); obtain ⟨⟨z0, z1, z2, z3, z4, z5, z6, z7⟩, -⟩ := slot8 x1; have HEE := hid hEE; cases b <;> clear hE x1 hEE)
          | (go_at_call 8; refine (C2.out _ _ (HR.out.ext HEE.out)).mono ?_; rintro e w3 ⟨rfl, hE⟩; have HE3 := hid (HEE.out.trans hE); clear hE))
        all_goals go_ret
        all_goals first | exact ⟨by simp, HEE.out⟩ | exact ⟨by simp, HE3.out⟩
  | _ => cases ht
theorem own : ownKnob Try.prog.godebug = none := by kernel_rfl
set_option maxRecDepth 100000 in
theorem lifted (os : Os) (started : os.Started) (H : Type) (enc : TypeId × Value → H) :
    ReturnsInHanded {} Try.checked os 4 .any (Rows.fnDeducedMapSpec.pre6 enc Try.prog Try.f4 Rows.fnDeducedMapRow.domain false) (Rows.fnDeducedMapSpec.post enc Try.prog Try.f4 false true false false) := by
  refine law_lifted (C := Try.checked) own started (by kernel_rfl) Try.func4 (by kernel_rfl)
    (fun t ht => by rw [Try.params4] at ht; simp at ht; subst ht; exact ⟨by kernel_rfl, of_decide_eq_true (by kernel_rfl)⟩) (by kernel_rfl) rfl
    (fun ds hl => by rw [Try.params4] at hl; match ds, hl with | [d1], _ => exact ⟨rfl, rfl, rfl⟩)
    (ChangeSpec.witness6 (enc := enc) (C := Try.checked) false ⟨#[], #[.agg #[.slice none 0 0, .bool false, .string ⟨#[]⟩, .string ⟨#[]⟩, .slice none 0 0, .slice none 0 0, .string ⟨#[]⟩, .string ⟨#[]⟩]], []⟩ 8 (by kernel_rfl) (by kernel_rfl) (by kernel_rfl) (by kernel_rfl)) ?_
  intro W base args ds p hval hA hsz
  rw [Try.params4] at hA hval hsz
  obtain ⟨v0, d0, rfl, rfl, h0⟩ := trodAll_one hA
  obtain ⟨cs, rfl, _⟩ := okWide_struct Try.underlying37 (hval 0 37 v0 rfl rfl)
  have hw : ∀ n ∈ DataW.weightsEach Try.prog [37] [d0], n ≤ 140737488351232 := by
    intro n hn
    exact of_decide_eq_true (List.all_eq_true.1 hsz n hn)
  obtain ⟨fuel, h0⟩ := h0
  obtain ⟨g, hg, hr⟩ := (open_gs fuel).2.2.2.1 cs.toList (d0, p) h0 (weightsEach_mem (j := 0) rfl rfl hw)
  have := walk g hg W cs.toList hr
  rwa [Array.toArray_toList] at this

theorem over : Rows.fnDeducedMapRow.holds Try.pinned (OpenSpec.ofChange Rows.fnDeducedMapSpec) :=
  OpenClaim.holds_of_wide 4 Try.f4 rfl rfl rfl rfl rfl rfl rfl ⟨rfl, rfl, rfl, rfl, rfl⟩ rfl rfl rfl rfl rfl (by kernel_rfl) Try.func4 (by kernel_rfl)
    (of_decide_eq_true (by kernel_rfl)) (by unfold Func.isWrapper; first | (rw [if_pos (by decide +kernel)]; kernel_rfl) | (rw [if_neg (by decide +kernel)]; exact ⟨rfl, rfl⟩))
    (fun os started H enc _ => lifted os started H enc)

theorem proved : Rows.FnDeducedMapSaid :=
  over
#print axioms proved
end Go.Proofs.Ytbcdddiknhiigaa.fnDeduced
