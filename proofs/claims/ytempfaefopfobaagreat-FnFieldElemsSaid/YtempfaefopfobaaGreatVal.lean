/- Val: values of the package behind its interfaces: NewValueInterface, toValue, fromValue, toMapping; maps: Get, Has. -/
import Derived.Test.YtempfaefopfobaaGreatFrom
import Derived.Test.YtempfaefopfobaaGreatPlain

namespace Go.Proofs.YtempfaefopfobaaGreat
open Go.ChangeShapes Go.WideShapes Go.ChangeAt Go.RowKit
set_option linter.unusedVariables false
set_option linter.unusedSimpArgs false

theorem loadVU (b : Nat) (x : Value) (w : World) (h : w.cell? ⟨b, 0, none⟩ = some x) : (loadVar 101 ⟨b, 0, none⟩).run Tryz.prog w = .ok (.agg #[x]) w := by
  simp [loadVar, go_sem, h]
@[go_sem] theorem mv_AsBool (b : Nat) (x : Value) (w : World) (h : w.cell? ⟨b, 0, none⟩ = some x) :
    (method 277 75 (.pointer (some ⟨b, 0, none⟩)) "AsBool").run Tryz.prog w = .ok (71, .agg #[x]) w :=
  run_method_ptrval (by kernel_rfl) Tryz.underlying75 (loadVU b x w h)
@[go_sem] theorem mv_AsFloat (b : Nat) (x : Value) (w : World) (h : w.cell? ⟨b, 0, none⟩ = some x) :
    (method 277 75 (.pointer (some ⟨b, 0, none⟩)) "AsFloat").run Tryz.prog w = .ok (72, .agg #[x]) w :=
  run_method_ptrval (by kernel_rfl) Tryz.underlying75 (loadVU b x w h)
@[go_sem] theorem mv_AsInt (b : Nat) (x : Value) (w : World) (h : w.cell? ⟨b, 0, none⟩ = some x) :
    (method 277 75 (.pointer (some ⟨b, 0, none⟩)) "AsInt").run Tryz.prog w = .ok (73, .agg #[x]) w :=
  run_method_ptrval (by kernel_rfl) Tryz.underlying75 (loadVU b x w h)
@[go_sem] theorem mv_AsList (b : Nat) (x : Value) (w : World) (h : w.cell? ⟨b, 0, none⟩ = some x) :
    (method 277 75 (.pointer (some ⟨b, 0, none⟩)) "AsList").run Tryz.prog w = .ok (74, .agg #[x]) w :=
  run_method_ptrval (by kernel_rfl) Tryz.underlying75 (loadVU b x w h)
@[go_sem] theorem mv_AsListUsing (b : Nat) (x : Value) (w : World) (h : w.cell? ⟨b, 0, none⟩ = some x) :
    (method 277 75 (.pointer (some ⟨b, 0, none⟩)) "AsListUsing").run Tryz.prog w = .ok (75, .agg #[x]) w :=
  run_method_ptrval (by kernel_rfl) Tryz.underlying75 (loadVU b x w h)
@[go_sem] theorem mv_AsMap (b : Nat) (x : Value) (w : World) (h : w.cell? ⟨b, 0, none⟩ = some x) :
    (method 277 75 (.pointer (some ⟨b, 0, none⟩)) "AsMap").run Tryz.prog w = .ok (76, .agg #[x]) w :=
  run_method_ptrval (by kernel_rfl) Tryz.underlying75 (loadVU b x w h)
@[go_sem] theorem mv_AsMapUsing (b : Nat) (x : Value) (w : World) (h : w.cell? ⟨b, 0, none⟩ = some x) :
    (method 277 75 (.pointer (some ⟨b, 0, none⟩)) "AsMapUsing").run Tryz.prog w = .ok (77, .agg #[x]) w :=
  run_method_ptrval (by kernel_rfl) Tryz.underlying75 (loadVU b x w h)
@[go_sem] theorem mv_AsString (b : Nat) (x : Value) (w : World) (h : w.cell? ⟨b, 0, none⟩ = some x) :
    (method 277 75 (.pointer (some ⟨b, 0, none⟩)) "AsString").run Tryz.prog w = .ok (78, .agg #[x]) w :=
  run_method_ptrval (by kernel_rfl) Tryz.underlying75 (loadVU b x w h)
@[go_sem] theorem mv_IsBool (b : Nat) (x : Value) (w : World) (h : w.cell? ⟨b, 0, none⟩ = some x) :
    (method 277 75 (.pointer (some ⟨b, 0, none⟩)) "IsBool").run Tryz.prog w = .ok (79, .agg #[x]) w :=
  run_method_ptrval (by kernel_rfl) Tryz.underlying75 (loadVU b x w h)
@[go_sem] theorem mv_IsFloat (b : Nat) (x : Value) (w : World) (h : w.cell? ⟨b, 0, none⟩ = some x) :
    (method 277 75 (.pointer (some ⟨b, 0, none⟩)) "IsFloat").run Tryz.prog w = .ok (80, .agg #[x]) w :=
  run_method_ptrval (by kernel_rfl) Tryz.underlying75 (loadVU b x w h)
@[go_sem] theorem mv_IsInt (b : Nat) (x : Value) (w : World) (h : w.cell? ⟨b, 0, none⟩ = some x) :
    (method 277 75 (.pointer (some ⟨b, 0, none⟩)) "IsInt").run Tryz.prog w = .ok (81, .agg #[x]) w :=
  run_method_ptrval (by kernel_rfl) Tryz.underlying75 (loadVU b x w h)
@[go_sem] theorem mv_IsList (b : Nat) (x : Value) (w : World) (h : w.cell? ⟨b, 0, none⟩ = some x) :
    (method 277 75 (.pointer (some ⟨b, 0, none⟩)) "IsList").run Tryz.prog w = .ok (82, .agg #[x]) w :=
  run_method_ptrval (by kernel_rfl) Tryz.underlying75 (loadVU b x w h)
@[go_sem] theorem mv_IsMap (b : Nat) (x : Value) (w : World) (h : w.cell? ⟨b, 0, none⟩ = some x) :
    (method 277 75 (.pointer (some ⟨b, 0, none⟩)) "IsMap").run Tryz.prog w = .ok (83, .agg #[x]) w :=
  run_method_ptrval (by kernel_rfl) Tryz.underlying75 (loadVU b x w h)
@[go_sem] theorem mv_IsNull (b : Nat) (x : Value) (w : World) (h : w.cell? ⟨b, 0, none⟩ = some x) :
    (method 277 75 (.pointer (some ⟨b, 0, none⟩)) "IsNull").run Tryz.prog w = .ok (84, .agg #[x]) w :=
  run_method_ptrval (by kernel_rfl) Tryz.underlying75 (loadVU b x w h)
@[go_sem] theorem mv_IsString (b : Nat) (x : Value) (w : World) (h : w.cell? ⟨b, 0, none⟩ = some x) :
    (method 277 75 (.pointer (some ⟨b, 0, none⟩)) "IsString").run Tryz.prog w = .ok (85, .agg #[x]) w :=
  run_method_ptrval (by kernel_rfl) Tryz.underlying75 (loadVU b x w h)
@[go_sem] theorem mv_Unstructured (b : Nat) (x : Value) (w : World) (h : w.cell? ⟨b, 0, none⟩ = some x) :
    (method 277 75 (.pointer (some ⟨b, 0, none⟩)) "Unstructured").run Tryz.prog w = .ok (86, .agg #[x]) w :=
  run_method_ptrval (by kernel_rfl) Tryz.underlying75 (loadVU b x w h)
@[go_sem] theorem mm_Delete (r : Option Nat) (w : World) : (method 277 144 (.map r) "Delete").run Tryz.prog w = .ok (96, .map r) w := by kernel_rfl
@[go_sem] theorem mm_Empty (r : Option Nat) (w : World) : (method 277 144 (.map r) "Empty").run Tryz.prog w = .ok (97, .map r) w := by kernel_rfl
@[go_sem] theorem mm_Equals (r : Option Nat) (w : World) : (method 277 144 (.map r) "Equals").run Tryz.prog w = .ok (98, .map r) w := by kernel_rfl
@[go_sem] theorem mm_EqualsUsing (r : Option Nat) (w : World) : (method 277 144 (.map r) "EqualsUsing").run Tryz.prog w = .ok (99, .map r) w := by kernel_rfl
@[go_sem] theorem mm_Get (r : Option Nat) (w : World) : (method 277 144 (.map r) "Get").run Tryz.prog w = .ok (100, .map r) w := by kernel_rfl
@[go_sem] theorem mm_GetUsing (r : Option Nat) (w : World) : (method 277 144 (.map r) "GetUsing").run Tryz.prog w = .ok (101, .map r) w := by kernel_rfl
@[go_sem] theorem mm_Has (r : Option Nat) (w : World) : (method 277 144 (.map r) "Has").run Tryz.prog w = .ok (102, .map r) w := by kernel_rfl
@[go_sem] theorem mm_Iterate (r : Option Nat) (w : World) : (method 277 144 (.map r) "Iterate").run Tryz.prog w = .ok (103, .map r) w := by kernel_rfl
@[go_sem] theorem mm_IterateUsing (r : Option Nat) (w : World) : (method 277 144 (.map r) "IterateUsing").run Tryz.prog w = .ok (104, .map r) w := by kernel_rfl
@[go_sem] theorem mm_Length (r : Option Nat) (w : World) : (method 277 144 (.map r) "Length").run Tryz.prog w = .ok (105, .map r) w := by kernel_rfl
@[go_sem] theorem mm_Set (r : Option Nat) (w : World) : (method 277 144 (.map r) "Set").run Tryz.prog w = .ok (106, .map r) w := by kernel_rfl
@[go_sem] theorem mm_Zip (r : Option Nat) (w : World) : (method 277 144 (.map r) "Zip").run Tryz.prog w = .ok (107, .map r) w := by kernel_rfl
@[go_sem] theorem mm_ZipUsing (r : Option Nat) (w : World) : (method 277 144 (.map r) "ZipUsing").run Tryz.prog w = .ok (108, .map r) w := by kernel_rfl
@[go_sem] theorem ma_allocValueUnstructured (b : Addr) (w : World) : (method 277 70 (.pointer (some b)) "pub-coparcener/pub/structuredmerge/value.allocValueUnstructured").run Tryz.prog w = .ok (40, .pointer (some b)) w := run_method_ptr (by kernel_rfl) Tryz.underlying70
@[go_sem] theorem ma_allocListUnstructuredRange (b : Addr) (w : World) : (method 277 70 (.pointer (some b)) "pub-coparcener/pub/structuredmerge/value.allocListUnstructuredRange").run Tryz.prog w = .ok (121, .pointer (some b)) w := run_method_ptr (by kernel_rfl) Tryz.underlying70
@[go_sem] theorem ma_Free (b : Addr) (w : World) : (method 277 70 (.pointer (some b)) "Free").run Tryz.prog w = .ok (70, .pointer (some b)) w := run_method_ptr (by kernel_rfl) Tryz.underlying70
/-- a value of the package: a box that holds a tree -/
def RepVal (S : Nat → Prop) (w : World) (t : Tree) (x : Value) : Prop :=
  ∃ b v, x = .iface 75 (.pointer (some ⟨b, 0, none⟩)) ∧ S b ∧ w.heap[b]? = some (.cells #[v] 101) ∧ RepT S w t v
theorem RepVal.mono {S S' : Nat → Prop} {w w' : World} (h : Same S w w') (hS : ∀ b, S b → b < w.heap.size → S' b) {t : Tree} {x : Value} (hr : RepVal S w t x) : RepVal S' w' t x := by
  obtain ⟨b, v, rfl, h1, h2, h3⟩ := hr
  exact ⟨b, v, rfl, hS b h1 (Array.getElem?_eq_some_iff.1 h2).1, h b _ h1 h2, h3.mono h hS⟩
theorem RepVal.ext {S : Nat → Prop} {w w' : World} (h : Ext w w') {t : Tree} {x : Value} (hr : RepVal S w t x) : RepVal S w' t x := hr.mono (h.same S) (fun _ h _ => h)
theorem RepVal.weak {S S' : Nat → Prop} {w : World} (hS : ∀ b, S b → b < w.heap.size → S' b) {t : Tree} {x : Value} (hr : RepVal S w t x) : RepVal S' w t x := hr.mono (Same.refl S w) hS

theorem nvi_box (v : Value) (w : World) (hf : v = .nilIface ∨ ∃ ty x, v = .iface ty x) :
    Calls Tryz.prog 34 #[v] w fun e w' => ∃ b, e = .returned (.iface 75 (.pointer (some ⟨b, 0, none⟩))) ∧ w.heap.size ≤ b ∧ w'.heap[b]? = some (.cells #[v] 101) ∧ Ext w w' := by
  rcases hf with rfl | ⟨ty, vv, rfl⟩
  all_goals
    go_enter Tryz.func34, Tryz.ntmps34
    go_wp2
    go_ret
    refine ⟨w.heap.size + 1, rfl, by omega, ?_, ((Ext.refl _).alloc _).alloc _⟩
    have e : ∀ o : Obj, w.heap.size + 1 = (w.alloc o).heap.size := fun o => by simp
    rw [e]
    exact heap_alloc_new _ _
theorem nvi_any (S : Nat → Prop) (t : Tree) (v : Value) (w : World) (hT : RepT S w t v) :
    Calls Tryz.prog 34 #[v] w fun e w' => ∃ x, e = .returned x ∧ RepVal (fun b => S b ∨ w.heap.size ≤ b) w' t x ∧ Ext w w' :=
  (nvi_box v w hT.form).mono fun e w' ⟨b, he, hb, hh, hE⟩ => ⟨_, he, ⟨b, v, rfl, .inr hb, hh, (hT.ext hE).weak (fun b hb _ => .inl hb)⟩, hE⟩
theorem asmapu_any (r : Nat) (x : Value) (w : World) : Calls Tryz.prog 77 #[.agg #[.iface 78 (.map (some r))], x] w fun e w' => e = .returned (.iface 144 (.map (some r))) ∧ Ext w w' := by
  go_enter Tryz.func77, Tryz.ntmps77
  go_wp2_with fail
  go_ret
  exact ⟨rfl, (Ext.refl _).alloc _⟩
theorem toValue_any (g : GV) (w : World) (cs : List Value) (hR : RepGV Any w g cs) :
    Calls Tryz.prog 21 #[.agg cs.toArray] w fun e w' => ∃ x, e = .returned x ∧ RepVal (fun b => w.heap.size ≤ b) w' (plainT g) x ∧ Ext w w' := by
  have HR := hid hR
  obtain ⟨k, n, f, s, a1, b1, c1, a2, b2, c2, rfl⟩ := hR.form
  clear hR
  go_enter Tryz.func21, Tryz.ntmps21
  go_wp2_with (first | (go_at_call 35; refine ((plain_any g) _ _ (HR.out.ext ((Ext.refl _).alloc _))).mono ?_; rintro e w2 ⟨x, rfl, hT, hE⟩; have HT := hid hT; rcases hT.form with rfl | ⟨ty, vv, rfl⟩) | (go_at_call 34; refine (nvi_any _ _ _ _ HT.out).mono ?_; rintro e w3 ⟨x, rfl, hV, hE3⟩; have HV := hid hV; obtain ⟨bx, vx, rfl, _⟩ := hV))
  all_goals
    go_ret
    refine ⟨_, rfl, HV.out.weak (fun b hb hl => ?_), (((Ext.refl _).alloc _).trans hE).trans hE3⟩
    have := hE.size
    simp at hb this ⊢
    omega
theorem alloc_any (b : Addr) (w : World) : Calls Tryz.prog 40 #[.pointer (some b)] w fun e w' => e = .returned (.pointer (some ⟨w.heap.size, 0, none⟩)) ∧ w' = w.alloc (.cells #[.nilIface] 101) := by
  go_enter Tryz.func40, Tryz.ntmps40
  go_wp2_with fail
  go_ret
  exact ⟨rfl, rfl⟩

/-- a value as a result, in its block -/
theorem put6 {w W : World} {R : Nat} {c0 c1 c2 c3 c4 c5 v0 v1 v2 v3 v4 v5 : Value} {S : Nat → Prop} {g : GV} (hx : W.heap[R]? = some (.cells #[c0, c1, c2, c3, c4, c5] 26)) (hR : w.heap.size ≤ R) (hE : Ext w W) (hG : RepGV S W g [v0, v1, v2, v3, v4, v5])
    (hS : ∀ b, S b → b ≠ R ∧ w.heap.size ≤ b) (WF : World) (hWF : WF = set6 W R v0 v1 v2 v3 v4 v5) :
    WF.heap[R]? = some (.cells #[v0, v1, v2, v3, v4, v5] 26) ∧ RepGV (fun b => w.heap.size ≤ b) WF g [v0, v1, v2, v3, v4, v5] ∧ Ext w WF := by
  subst hWF
  exact ⟨set6_heap hx _ _ _ _ _ _, hG.mono (fun b o hb ho => (set6_other (hS b hb).1 _ _ _ _ _ _).trans ho) (fun b hb _ => (hS b hb).2), set6_below hE hR _ _ _ _ _ _⟩
end Go.Proofs.YtempfaefopfobaaGreat
