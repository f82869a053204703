/- Val: values of the package behind its interfaces: NewValueInterface, toValue, fromValue, toMapping; maps: Get, Has. -/
import Derived.Test.YtempfaefopfobaaFrom
import Derived.Test.YtempfaefopfobaaPlain

namespace Go.Proofs.Ytempfaefopfobaa
open Go.ChangeShapes Go.WideShapes Go.ChangeAt Go.RowKit
set_option linter.unusedVariables false
set_option linter.unusedSimpArgs false

theorem loadVU (b : Nat) (x : Value) (w : World) (h : w.cell? ⟨b, 0, none⟩ = some x) : (loadVar 218 ⟨b, 0, none⟩).run Try.prog w = .ok (.agg #[x]) w := by
  simp [loadVar, go_sem, h]
@[go_sem] theorem mv_AsBool (b : Nat) (x : Value) (w : World) (h : w.cell? ⟨b, 0, none⟩ = some x) :
    (method 431 203 (.pointer (some ⟨b, 0, none⟩)) "AsBool").run Try.prog w = .ok (175, .agg #[x]) w :=
  run_method_ptrval (by kernel_rfl) Try.underlying203 (loadVU b x w h)
@[go_sem] theorem mv_AsFloat (b : Nat) (x : Value) (w : World) (h : w.cell? ⟨b, 0, none⟩ = some x) :
    (method 431 203 (.pointer (some ⟨b, 0, none⟩)) "AsFloat").run Try.prog w = .ok (176, .agg #[x]) w :=
  run_method_ptrval (by kernel_rfl) Try.underlying203 (loadVU b x w h)
@[go_sem] theorem mv_AsInt (b : Nat) (x : Value) (w : World) (h : w.cell? ⟨b, 0, none⟩ = some x) :
    (method 431 203 (.pointer (some ⟨b, 0, none⟩)) "AsInt").run Try.prog w = .ok (177, .agg #[x]) w :=
  run_method_ptrval (by kernel_rfl) Try.underlying203 (loadVU b x w h)
@[go_sem] theorem mv_AsList (b : Nat) (x : Value) (w : World) (h : w.cell? ⟨b, 0, none⟩ = some x) :
    (method 431 203 (.pointer (some ⟨b, 0, none⟩)) "AsList").run Try.prog w = .ok (178, .agg #[x]) w :=
  run_method_ptrval (by kernel_rfl) Try.underlying203 (loadVU b x w h)
@[go_sem] theorem mv_AsListUsing (b : Nat) (x : Value) (w : World) (h : w.cell? ⟨b, 0, none⟩ = some x) :
    (method 431 203 (.pointer (some ⟨b, 0, none⟩)) "AsListUsing").run Try.prog w = .ok (179, .agg #[x]) w :=
  run_method_ptrval (by kernel_rfl) Try.underlying203 (loadVU b x w h)
@[go_sem] theorem mv_AsMap (b : Nat) (x : Value) (w : World) (h : w.cell? ⟨b, 0, none⟩ = some x) :
    (method 431 203 (.pointer (some ⟨b, 0, none⟩)) "AsMap").run Try.prog w = .ok (180, .agg #[x]) w :=
  run_method_ptrval (by kernel_rfl) Try.underlying203 (loadVU b x w h)
@[go_sem] theorem mv_AsMapUsing (b : Nat) (x : Value) (w : World) (h : w.cell? ⟨b, 0, none⟩ = some x) :
    (method 431 203 (.pointer (some ⟨b, 0, none⟩)) "AsMapUsing").run Try.prog w = .ok (181, .agg #[x]) w :=
  run_method_ptrval (by kernel_rfl) Try.underlying203 (loadVU b x w h)
@[go_sem] theorem mv_AsString (b : Nat) (x : Value) (w : World) (h : w.cell? ⟨b, 0, none⟩ = some x) :
    (method 431 203 (.pointer (some ⟨b, 0, none⟩)) "AsString").run Try.prog w = .ok (182, .agg #[x]) w :=
  run_method_ptrval (by kernel_rfl) Try.underlying203 (loadVU b x w h)
@[go_sem] theorem mv_IsBool (b : Nat) (x : Value) (w : World) (h : w.cell? ⟨b, 0, none⟩ = some x) :
    (method 431 203 (.pointer (some ⟨b, 0, none⟩)) "IsBool").run Try.prog w = .ok (183, .agg #[x]) w :=
  run_method_ptrval (by kernel_rfl) Try.underlying203 (loadVU b x w h)
@[go_sem] theorem mv_IsFloat (b : Nat) (x : Value) (w : World) (h : w.cell? ⟨b, 0, none⟩ = some x) :
    (method 431 203 (.pointer (some ⟨b, 0, none⟩)) "IsFloat").run Try.prog w = .ok (184, .agg #[x]) w :=
  run_method_ptrval (by kernel_rfl) Try.underlying203 (loadVU b x w h)
@[go_sem] theorem mv_IsInt (b : Nat) (x : Value) (w : World) (h : w.cell? ⟨b, 0, none⟩ = some x) :
    (method 431 203 (.pointer (some ⟨b, 0, none⟩)) "IsInt").run Try.prog w = .ok (185, .agg #[x]) w :=
  run_method_ptrval (by kernel_rfl) Try.underlying203 (loadVU b x w h)
@[go_sem] theorem mv_IsList (b : Nat) (x : Value) (w : World) (h : w.cell? ⟨b, 0, none⟩ = some x) :
    (method 431 203 (.pointer (some ⟨b, 0, none⟩)) "IsList").run Try.prog w = .ok (186, .agg #[x]) w :=
  run_method_ptrval (by kernel_rfl) Try.underlying203 (loadVU b x w h)
@[go_sem] theorem mv_IsMap (b : Nat) (x : Value) (w : World) (h : w.cell? ⟨b, 0, none⟩ = some x) :
    (method 431 203 (.pointer (some ⟨b, 0, none⟩)) "IsMap").run Try.prog w = .ok (187, .agg #[x]) w :=
  run_method_ptrval (by kernel_rfl) Try.underlying203 (loadVU b x w h)
@[go_sem] theorem mv_IsNull (b : Nat) (x : Value) (w : World) (h : w.cell? ⟨b, 0, none⟩ = some x) :
    (method 431 203 (.pointer (some ⟨b, 0, none⟩)) "IsNull").run Try.prog w = .ok (188, .agg #[x]) w :=
  run_method_ptrval (by kernel_rfl) Try.underlying203 (loadVU b x w h)
@[go_sem] theorem mv_IsString (b : Nat) (x : Value) (w : World) (h : w.cell? ⟨b, 0, none⟩ = some x) :
    (method 431 203 (.pointer (some ⟨b, 0, none⟩)) "IsString").run Try.prog w = .ok (189, .agg #[x]) w :=
  run_method_ptrval (by kernel_rfl) Try.underlying203 (loadVU b x w h)
@[go_sem] theorem mv_Unstructured (b : Nat) (x : Value) (w : World) (h : w.cell? ⟨b, 0, none⟩ = some x) :
    (method 431 203 (.pointer (some ⟨b, 0, none⟩)) "Unstructured").run Try.prog w = .ok (190, .agg #[x]) w :=
  run_method_ptrval (by kernel_rfl) Try.underlying203 (loadVU b x w h)
@[go_sem] theorem mm_Delete (r : Option Nat) (w : World) : (method 431 316 (.map r) "Delete").run Try.prog w = .ok (201, .map r) w := by kernel_rfl
@[go_sem] theorem mm_Empty (r : Option Nat) (w : World) : (method 431 316 (.map r) "Empty").run Try.prog w = .ok (202, .map r) w := by kernel_rfl
@[go_sem] theorem mm_Equals (r : Option Nat) (w : World) : (method 431 316 (.map r) "Equals").run Try.prog w = .ok (203, .map r) w := by kernel_rfl
@[go_sem] theorem mm_EqualsUsing (r : Option Nat) (w : World) : (method 431 316 (.map r) "EqualsUsing").run Try.prog w = .ok (204, .map r) w := by kernel_rfl
@[go_sem] theorem mm_Get (r : Option Nat) (w : World) : (method 431 316 (.map r) "Get").run Try.prog w = .ok (205, .map r) w := by kernel_rfl
@[go_sem] theorem mm_GetUsing (r : Option Nat) (w : World) : (method 431 316 (.map r) "GetUsing").run Try.prog w = .ok (206, .map r) w := by kernel_rfl
@[go_sem] theorem mm_Has (r : Option Nat) (w : World) : (method 431 316 (.map r) "Has").run Try.prog w = .ok (207, .map r) w := by kernel_rfl
@[go_sem] theorem mm_Iterate (r : Option Nat) (w : World) : (method 431 316 (.map r) "Iterate").run Try.prog w = .ok (208, .map r) w := by kernel_rfl
@[go_sem] theorem mm_IterateUsing (r : Option Nat) (w : World) : (method 431 316 (.map r) "IterateUsing").run Try.prog w = .ok (209, .map r) w := by kernel_rfl
@[go_sem] theorem mm_Length (r : Option Nat) (w : World) : (method 431 316 (.map r) "Length").run Try.prog w = .ok (210, .map r) w := by kernel_rfl
@[go_sem] theorem mm_Set (r : Option Nat) (w : World) : (method 431 316 (.map r) "Set").run Try.prog w = .ok (211, .map r) w := by kernel_rfl
@[go_sem] theorem mm_Zip (r : Option Nat) (w : World) : (method 431 316 (.map r) "Zip").run Try.prog w = .ok (212, .map r) w := by kernel_rfl
@[go_sem] theorem mm_ZipUsing (r : Option Nat) (w : World) : (method 431 316 (.map r) "ZipUsing").run Try.prog w = .ok (213, .map r) w := by kernel_rfl
@[go_sem] theorem ma_allocValueUnstructured (b : Addr) (w : World) : (method 431 172 (.pointer (some b)) "pub-coparcener/pub/structuredmerge/value.allocValueUnstructured").run Try.prog w = .ok (117, .pointer (some b)) w := run_method_ptr (by kernel_rfl) Try.underlying172
@[go_sem] theorem ma_allocListUnstructuredRange (b : Addr) (w : World) : (method 431 172 (.pointer (some b)) "pub-coparcener/pub/structuredmerge/value.allocListUnstructuredRange").run Try.prog w = .ok (226, .pointer (some b)) w := run_method_ptr (by kernel_rfl) Try.underlying172
@[go_sem] theorem ma_Free (b : Addr) (w : World) : (method 431 172 (.pointer (some b)) "Free").run Try.prog w = .ok (174, .pointer (some b)) w := run_method_ptr (by kernel_rfl) Try.underlying172
/-- a value of the package: a box that holds a tree -/
def RepVal (S : Nat → Prop) (w : World) (t : Tree) (x : Value) : Prop :=
  ∃ b v, x = .iface 203 (.pointer (some ⟨b, 0, none⟩)) ∧ S b ∧ w.heap[b]? = some (.cells #[v] 218) ∧ RepT S w t v
theorem RepVal.mono {S S' : Nat → Prop} {w w' : World} (h : Same S w w') (hS : ∀ b, S b → b < w.heap.size → S' b) {t : Tree} {x : Value} (hr : RepVal S w t x) : RepVal S' w' t x := by
  obtain ⟨b, v, rfl, h1, h2, h3⟩ := hr
  exact ⟨b, v, rfl, hS b h1 (Array.getElem?_eq_some_iff.1 h2).1, h b _ h1 h2, h3.mono h hS⟩
theorem RepVal.ext {S : Nat → Prop} {w w' : World} (h : Ext w w') {t : Tree} {x : Value} (hr : RepVal S w t x) : RepVal S w' t x := hr.mono (h.same S) (fun _ h _ => h)
theorem RepVal.weak {S S' : Nat → Prop} {w : World} (hS : ∀ b, S b → b < w.heap.size → S' b) {t : Tree} {x : Value} (hr : RepVal S w t x) : RepVal S' w t x := hr.mono (Same.refl S w) hS

theorem nvi_box (v : Value) (w : World) (hf : v = .nilIface ∨ ∃ ty x, v = .iface ty x) :
    Calls Try.prog 94 #[v] w fun e w' => ∃ b, e = .returned (.iface 203 (.pointer (some ⟨b, 0, none⟩))) ∧ w.heap.size ≤ b ∧ w'.heap[b]? = some (.cells #[v] 218) ∧ Ext w w' := by
  rcases hf with rfl | ⟨ty, vv, rfl⟩
  all_goals
    go_enter Try.func94, Try.ntmps94
    go_wp2
    go_ret
    refine ⟨w.heap.size + 1, rfl, by omega, ?_, ((Ext.refl _).alloc _).alloc _⟩
    have e : ∀ o : Obj, w.heap.size + 1 = (w.alloc o).heap.size := fun o => by simp
    rw [e]
    exact heap_alloc_new _ _
theorem nvi_any (S : Nat → Prop) (t : Tree) (v : Value) (w : World) (hT : RepT S w t v) :
    Calls Try.prog 94 #[v] w fun e w' => ∃ x, e = .returned x ∧ RepVal (fun b => S b ∨ w.heap.size ≤ b) w' t x ∧ Ext w w' :=
  (nvi_box v w hT.form).mono fun e w' ⟨b, he, hb, hh, hE⟩ => ⟨_, he, ⟨b, v, rfl, .inr hb, hh, (hT.ext hE).weak (fun b hb _ => .inl hb)⟩, hE⟩
theorem unstr_any (v : Value) (w : World) (hf : v = .nilIface ∨ ∃ ty x, v = .iface ty x) : Calls Try.prog 190 #[.agg #[v]] w fun e w' => e = .returned v ∧ Ext w w' := by
  rcases hf with rfl | ⟨ty, vv, rfl⟩
  all_goals
    go_enter Try.func190, Try.ntmps190
    go_wp2_with fail
    go_ret
    exact ⟨rfl, (Ext.refl _).alloc _⟩
theorem asmapu_any (r : Nat) (x : Value) (w : World) : Calls Try.prog 181 #[.agg #[.iface 159 (.map (some r))], x] w fun e w' => e = .returned (.iface 316 (.map (some r))) ∧ Ext w w' := by
  go_enter Try.func181, Try.ntmps181
  go_wp2_with fail
  go_ret
  exact ⟨rfl, (Ext.refl _).alloc _⟩
theorem asmap_any (r : Nat) (w : World) : Calls Try.prog 180 #[.agg #[.iface 159 (.map (some r))]] w fun e w' => e = .returned (.iface 316 (.map (some r))) ∧ Ext w w' := by
  go_enter Try.func180, Try.ntmps180
  go_wp2_with (go_at_call 181; refine (asmapu_any _ _ _).mono ?_; rintro e w' ⟨rfl, hg⟩)
  go_ret
  exact ⟨rfl, (((Ext.refl _).alloc _).alloc _).trans hg⟩
theorem toValue_any (g : GV) (w : World) (cs : List Value) (hR : RepGV Any w g cs) :
    Calls Try.prog 77 #[.agg cs.toArray] w fun e w' => ∃ x, e = .returned x ∧ RepVal (fun b => w.heap.size ≤ b) w' (plainT g) x ∧ Ext w w' := by
  have HR := hid hR
  obtain ⟨k, n, f, s, a1, b1, c1, a2, b2, c2, rfl⟩ := hR.form
  clear hR
  go_enter Try.func77, Try.ntmps77
  go_wp2_with (first | (go_at_call 51; refine ((plain_any g) _ _ (HR.out.ext ((Ext.refl _).alloc _))).mono ?_; rintro e w2 ⟨x, rfl, hT, hE⟩; have HT := hid hT; rcases hT.form with rfl | ⟨ty, vv, rfl⟩) | (go_at_call 94; refine (nvi_any _ _ _ _ HT.out).mono ?_; rintro e w3 ⟨x, rfl, hV, hE3⟩; have HV := hid hV; obtain ⟨bx, vx, rfl, _⟩ := hV))
  all_goals
    go_ret
    refine ⟨_, rfl, HV.out.weak (fun b hb hl => ?_), (((Ext.refl _).alloc _).trans hE).trans hE3⟩
    have := hE.size
    simp at hb this ⊢
    omega
theorem toMapping_any (g : GV) (w : World) (cs : List Value) (hR : RepGV Any w g cs) :
    Calls Try.prog 63 #[.agg cs.toArray] w fun e w' => ∃ r, e = .returned (.iface 316 (.map (some r))) ∧ w.heap.size ≤ r ∧ RepM (fun b => r < b) w' (plainMapT g) r ∧ Ext w w' := by
  have HR := hid hR
  obtain ⟨k, n, f, s, a1, b1, c1, a2, b2, c2, rfl⟩ := hR.form
  clear hR
  go_enter Try.func63, Try.ntmps63
  go_wp2_with (first | (go_at_call 93; refine ((plainMap_any g) _ _ (HR.out.ext ((Ext.refl _).alloc _))).mono ?_; rintro e w2 ⟨r, rfl, hr, hM, hE⟩; have HM := hid hM; have HRR := hid hr; clear hM hr) | (go_at_call 94; refine (nvi_box _ _ (.inr ⟨_, _, rfl⟩)).mono ?_; rintro e w3 ⟨bx, rfl, hb, hbx, hE3⟩; have hcx : w3.cell? ⟨bx, 0, none⟩ = some (.iface 159 (.map (some r))) := (cell_of_heap hbx 0).trans rfl; clear hbx) | (go_at_call 180; refine (asmap_any _ _).mono ?_; rintro e w4 ⟨rfl, hE4⟩))
  go_ret
  exact ⟨r, rfl, by have := HRR.out; simp at this; omega, (HM.out.ext hE3).ext hE4, ((((Ext.refl _).alloc _).trans hE).trans hE3).trans hE4⟩
theorem alloc_any (b : Addr) (w : World) : Calls Try.prog 117 #[.pointer (some b)] w fun e w' => e = .returned (.pointer (some ⟨w.heap.size, 0, none⟩)) ∧ w' = w.alloc (.cells #[.nilIface] 218) := by
  go_enter Try.func117, Try.ntmps117
  go_wp2_with fail
  go_ret
  exact ⟨rfl, rfl⟩

/-- a value as a result, in its block -/
theorem put6 {w W : World} {R : Nat} {c0 c1 c2 c3 c4 c5 v0 v1 v2 v3 v4 v5 : Value} {S : Nat → Prop} {g : GV} (hx : W.heap[R]? = some (.cells #[c0, c1, c2, c3, c4, c5] 32)) (hR : w.heap.size ≤ R) (hE : Ext w W) (hG : RepGV S W g [v0, v1, v2, v3, v4, v5])
    (hS : ∀ b, S b → b ≠ R ∧ w.heap.size ≤ b) (WF : World) (hWF : WF = set6 W R v0 v1 v2 v3 v4 v5) :
    WF.heap[R]? = some (.cells #[v0, v1, v2, v3, v4, v5] 32) ∧ RepGV (fun b => w.heap.size ≤ b) WF g [v0, v1, v2, v3, v4, v5] ∧ Ext w WF := by
  subst hWF
  exact ⟨set6_heap hx _ _ _ _ _ _, hG.mono (fun b o hb ho => (set6_other (hS b hb).1 _ _ _ _ _ _).trans ho) (fun b hb _ => (hS b hb).2), set6_below hE hR _ _ _ _ _ _⟩
theorem fromValue_nil (w : World) : Calls Try.prog 65 #[.nilIface] w fun e w' => e = .returned (.agg #[.int .i64 0, .int .i64 0, .float .f64 0, .string ⟨#[]⟩, .slice none 0 0, .slice none 0 0]) ∧ Ext w w' := by
  go_enter Try.func65, Try.ntmps65
  go_wp2_with fail
  exact bodyPost_ret (v := .agg #[.int .i64 0, .int .i64 0, .float .f64 0, .string ⟨#[]⟩, .slice none 0 0, .slice none 0 0]) (by simp [results, Try.results65, go_sem]) rfl ⟨rfl, (Ext.refl _).alloc _⟩
set_option maxRecDepth 100000 in
theorem fromValue_any (S : Nat → Prop) (t : Tree) (x : Value) (w : World) (hV : RepVal S w t x) :
    Calls Try.prog 65 #[x] w fun e w' => ∃ cs', e = .returned (.agg cs'.toArray) ∧ RepGV (fun b => w.heap.size ≤ b) w' (fromT t) cs' ∧ Ext w w' := by
  obtain ⟨b, v, rfl, _, hb, hT⟩ := hV
  have HT := hid hT
  have hf := hT.form
  have hcell : w.cell? ⟨b, 0, none⟩ = some v := (cell_of_heap hb 0).trans rfl
  have hblt : b < w.heap.size := (Array.getElem?_eq_some_iff.1 hb).1
  have HF := hid (fromTree_any t)
  clear hT hb
  go_enter Try.func65, Try.ntmps65
  have hcell' := fun o => ((Ext.refl w).alloc o).cellS hcell
  rcases hf with rfl | ⟨ty, vv, rfl⟩
  all_goals
    go_wp2_with (first | (go_at_call 190; refine (unstr_any _ _ (by first | exact .inl rfl | exact .inr ⟨_, _, rfl⟩)).mono ?_; rintro e w2 ⟨rfl, hE2⟩; have HE2 := hid hE2; clear hE2) | (go_at_call 101; refine (HF.out S _ _ ((HT.out.ext ((Ext.refl _).alloc _)).ext HE2.out)).mono ?_; rintro e w3 ⟨cs', rfl, hG, hE3⟩; obtain ⟨k6, n6, f6, s6, a61, b61, c61, a62, b62, c62, rfl⟩ := hG.form; have HG := hid hG; have HE3 := hid hE3; obtain ⟨x1, hEE⟩ := boxes1 w _ w3 ((Below.refl _ _).trans ((HE2.out.trans hE3).mono (by simp))); obtain ⟨⟨z0, z1, z2, z3, z4, z5⟩, f0, f1, f2, f3, f4, f5⟩ := slot6 x1; have X1 := hid x1; have HEE := hid hEE; clear hG hE3 x1 hEE))
    change bodyPost _ _ _ _ _ (set6 w3 w.heap.size (.int .i64 k6) (.int .i64 n6) (.float .f64 f6) (.string s6) (.slice a61 b61 c61) (.slice a62 b62 c62))
    obtain ⟨e6, hr6, x6⟩ := put6 X1.out (Nat.le_refl _) HEE.out HG.out (fun b hb => by have := HE2.out.size; simp at this; omega) _ rfl
    generalize set6 w3 w.heap.size (.int .i64 k6) (.int .i64 n6) (.float .f64 f6) (.string s6) (.slice a61 b61 c61) (.slice a62 b62 c62) = WF at *
    obtain ⟨⟨y0, y1, y2, y3, y4, y5⟩, _⟩ := slot6 e6
    refine bodyPost_ret (v := .agg #[.int .i64 k6, .int .i64 n6, .float .f64 f6, .string s6, .slice a61 b61 c61, .slice a62 b62 c62]) (by simp [results, Try.results65, go_sem, y0, y1, y2, y3, y4, y5]) rfl ?_
    exact ⟨_, rfl, hr6, x6⟩
end Go.Proofs.Ytempfaefopfobaa
