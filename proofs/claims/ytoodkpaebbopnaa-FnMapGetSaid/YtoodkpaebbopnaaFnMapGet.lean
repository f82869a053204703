/- FnMapGet: a map has a key just if one of its fields has it, with the value of the last of these; for every input. -/
import Derived.Test.YtoodkpaebbopnaaMapGet
import Derived.Test.YtoodkpaebbopnaaFits
import Derived.ChangeMaps5
namespace Go.Proofs.Ytoodkpaebbopnaa.fnMapGet
open Go.ChangeShapes Go.WideShapes Go.ChangeAt Go.RowKit
set_option linter.unusedSimpArgs false
set_option linter.unusedVariables false

theorem eq_beq (a : Bool) : (a == a) = true := by simp
theorem alloc6 {w : World} {b : Nat} {c0 c1 c2 c3 c4 c5 : Value} {t : TypeId} (h : w.heap[b]? = some (.cells #[c0, c1, c2, c3, c4, c5] t)) : ∀ o, (w.alloc o).cell? ⟨b, 0, none⟩ = some c0 ∧ (w.alloc o).cell? ⟨b, 1, none⟩ = some c1 ∧ (w.alloc o).cell? ⟨b, 2, none⟩ = some c2 ∧ (w.alloc o).cell? ⟨b, 3, none⟩ = some c3 ∧ (w.alloc o).cell? ⟨b, 4, none⟩ = some c4 ∧ (w.alloc o).cell? ⟨b, 5, none⟩ = some c5 :=
  fun o => (slot6 (((Ext.refl w).alloc o).block h)).1
set_option maxRecDepth 100000 in
set_option maxHeartbeats 2000000 in
theorem walk (g : GV) (key : ByteArray) (w : World) (cs : List Value) (hR : RepGV Any w g cs) :
    Calls Try.prog 7 #[.agg cs.toArray, .string key] w fun e w' => e = .returned (.bool true) ∧ Ext w w' := by
  have HR := hid hR
  obtain ⟨k, n, f, s, a1, b1, c1, a2, b2, c2, rfl⟩ := hR.form
  have bx := hid (boxes1 w (.cells #[.int .i64 k, .int .i64 n, .float .f64 f, .string s, .slice a1 b1 c1, .slice a2 b2 c2] 26))
  have hrel := rel_clean g
  obtain ⟨bb, hbb⟩ : ∃ bb, (lookKV (plainMapT g) key).isSome = bb := ⟨_, rfl⟩
  obtain ⟨gx, hgx⟩ : ∃ gx, (lookKV (plainMapT g) key).elim zeroG fromT = gx := ⟨_, rfl⟩
  have FC := hid (fun (W : World) (c3 : List Value) (h : RepGV Any W (cleanM g) c3) => show Calls Try.prog 28 #[.agg c3.toArray, .string key] W fun e w' => ∃ cs', e = .returned (.tuple #[.agg cs'.toArray, .bool bb]) ∧ RepGV Any w' gx cs' ∧ Ext W w' from by
    have := field_any (cleanM g) key W c3 h (by rw [hrel.head]; rfl) hrel.map
    have e1 : (fieldG (cleanM g) key).isSome = bb := by rw [hrel.at_ key]; simpa using hbb
    have e2 : (fieldG (cleanM g) key).getD zeroG = gx := by
      rw [hrel.at_ key, ← hgx]
      cases lookKV (plainMapT g) key <;> rfl
    rw [e1, e2] at this
    exact this)
  have MC := hid (fun (W : World) (h : RepGV Any W g [.int .i64 k, .int .i64 n, .float .f64 f, .string s, .slice a1 b1 c1, .slice a2 b2 c2]) => show Calls Try.prog 30 #[.agg #[.int .i64 k, .int .i64 n, .float .f64 f, .string s, .slice a1 b1 c1, .slice a2 b2 c2], .string key] W fun e w' => ∃ cs', e = .returned (.tuple #[.agg cs'.toArray, .bool bb]) ∧ RepGV Any w' gx cs' ∧ Ext W w' from by
    have := mapGet_any g key W _ h
    rw [hbb, hgx] at this
    exact this.mono fun e w' ⟨cs', h1, h2, h3⟩ => ⟨cs', h1, h2.weak (fun _ _ _ => trivial), h3⟩)
  have HC := hid (fun (W : World) (h : RepGV Any W g [.int .i64 k, .int .i64 n, .float .f64 f, .string s, .slice a1 b1 c1, .slice a2 b2 c2]) => show Calls Try.prog 32 #[.agg #[.int .i64 k, .int .i64 n, .float .f64 f, .string s, .slice a1 b1 c1, .slice a2 b2 c2], .string key] W fun e w' => e = .returned (.bool bb) ∧ Ext W w' from by
    have := mapHas_any g key W _ h
    rw [hbb] at this
    exact this)
  clear hR hrel hbb hgx
  go_enter Try.func7, Try.ntmps7
  by_cases hbig : key.size > 2147483647
  all_goals
    go_wp2_with (first
      | (go_at_call 14; refine (fits5_any g _ _ (HR.out.ext ((Ext.refl _).alloc _))).mono ?_; rintro e w2 ⟨b, rfl, hE⟩; obtain ⟨x1, hEE⟩ := bx.out w2 (Below.mono hE (by simp)); obtain ⟨⟨z0, z1, z2, z3, z4, z5⟩, _⟩ := slot6 x1; have HEE := hid hEE; have X1 := hid x1; cases b <;> clear hE x1 hEE)
      | (go_at_call 29; refine (wMap_any g _ _ (HR.out.ext HEE.out)).mono ?_; rintro e w3 ⟨cs3, rfl, hG, hE⟩; obtain ⟨k3, n3, f3, s3, a13, b13, c13, a23, b23, c23, rfl⟩ := hG.form; have HG3 := hid hG; have HE3 := hid (HEE.out.trans hE); have X3 := hid (hE.block X1.out); clear hG hE)
      | (go_at_call 28; refine (FC.out _ _ (HG3.out.weak (fun _ _ _ => trivial))).mono ?_; rintro e w4 ⟨cs4, rfl, hG, hE⟩; obtain ⟨k4, n4, f4, s4, a14, b14, c14, a24, b24, c24, rfl⟩ := hG.form; have HG4 := hid hG; have HE4 := hid (HE3.out.trans hE); have X4 := hid (hE.block X3.out); have q := alloc6 X4.out; clear hG hE)
      | (go_at_call 30; refine (MC.out _ (HR.out.ext (HE4.out.alloc _))).mono ?_; rintro e w5 ⟨cs5, rfl, hG, hE⟩; obtain ⟨k5, n5, f5, s5, a15, b15, c15, a25, b25, c25, rfl⟩ := hG.form; have HG5 := hid hG; have HE45 := hid hE; have HE5 := hid ((HE4.out.alloc _).trans hE); have X5 := hid (hE.block (((Ext.refl w4).alloc _).block X4.out)); have Y5 := hid (hE.block (box_last w4 _)); have p := alloc6 X5.out; have p' := alloc6 Y5.out; clear hG hE)
      | (go_at_call 31; refine (wSame_any gx gx bb _ _ _ (HG5.out.ext ((Ext.refl _).alloc _)) (((HG4.out.ext ((Ext.refl _).alloc _)).ext HE45.out).ext ((Ext.refl _).alloc _)) rfl).mono ?_; rintro e w6 ⟨rfl, hE⟩; have HE6 := hid ((HE5.out.alloc _).trans hE); obtain ⟨⟨u0, u1, u2, u3, u4, u5⟩, _⟩ := slot6 (hE.block (((Ext.refl w5).alloc _).block X5.out)); clear hE)
      | (go_at_call 32; refine (HC.out _ (HR.out.ext HE6.out)).mono ?_; rintro e w7 ⟨rfl, hE⟩; have HE7 := hid (HE6.out.trans hE); clear hE))
  all_goals go_ret
  all_goals first | exact ⟨rfl, HE7.out⟩ | exact ⟨rfl, HEE.out⟩

theorem own : ownKnob Try.prog.godebug = none := by kernel_rfl
set_option maxRecDepth 100000 in
theorem lifted (os : Os) (started : os.Started) (H : Type) (enc : TypeId × Value → H) :
    ReturnsInHanded {} Try.checked os 7 .any (Rows.fnMapGetSpec.pre6 enc Try.prog Try.f7 Rows.fnMapGetRow.domain false) (Rows.fnMapGetSpec.post enc Try.prog Try.f7 false true false false) := by
  refine law_lifted (C := Try.checked) own started (by kernel_rfl) Try.func7 (by kernel_rfl)
    (fun t ht => by rw [Try.params7] at ht; simp at ht; rcases ht with rfl | rfl <;> exact ⟨by kernel_rfl, of_decide_eq_true (by kernel_rfl)⟩) (by kernel_rfl) rfl
    (fun ds hl => by rw [Try.params7] at hl; match ds, hl with | [d1, d2], _ => exact ⟨rfl, rfl, rfl⟩)
    (ChangeSpec.witness6 (enc := enc) (C := Try.checked) false ⟨#[], #[.agg #[.int .i64 0, .int .i64 0, .float .f64 0, .string ⟨#[]⟩, .slice none 0 0, .slice none 0 0], .string ⟨#[]⟩], []⟩ 8 (by kernel_rfl) (by kernel_rfl) (by kernel_rfl) (by kernel_rfl)) ?_
  intro W base args ds p hval hA hsz
  rw [Try.params7] at hA hval hsz
  obtain ⟨v0, v1, d0, d1, p0, p1, rfl, rfl, rfl, h0, h1⟩ := trodAll_two hA
  obtain ⟨cs, rfl, _⟩ := okWide_struct Try.underlying26 (hval 0 26 v0 rfl rfl)
  obtain ⟨s1, rfl, _⟩ := Go.ChangeMaps.open_string Try.underlying9 (hval 1 9 v1 rfl rfl) h1
  have hw : ∀ n ∈ DataW.weightsEach Try.prog [26, 9] [d0, d1], n ≤ 140737488351232 := by
    intro n hn
    exact of_decide_eq_true (List.all_eq_true.1 hsz n hn)
  obtain ⟨fuel, h0⟩ := h0
  obtain ⟨g, hg⟩ := open_gv fuel cs.toList (d0, p0) h0 (weightsEach_mem (j := 0) rfl rfl hw)
  have := walk g s1 W cs.toList hg
  rwa [Array.toArray_toList] at this

theorem over : Rows.fnMapGetRow.holds Try.pinned (OpenSpec.ofChange Rows.fnMapGetSpec) :=
  OpenClaim.holds_of_wide 7 Try.f7 rfl rfl rfl rfl rfl rfl rfl ⟨rfl, rfl, rfl, rfl, rfl⟩ rfl rfl rfl rfl rfl (by kernel_rfl) Try.func7 (by kernel_rfl)
    (of_decide_eq_true (by kernel_rfl)) (by unfold Func.isWrapper; first | (rw [if_pos (by decide +kernel)]; kernel_rfl) | (rw [if_neg (by decide +kernel)]; exact ⟨rfl, rfl⟩))
    (fun os started H enc _ => lifted os started H enc)

theorem proved : Rows.FnMapGetSaid :=
  over
#print axioms proved
end Go.Proofs.Ytoodkpaebbopnaa.fnMapGet
