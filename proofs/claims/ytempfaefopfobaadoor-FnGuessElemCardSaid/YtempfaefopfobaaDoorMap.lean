/- Map: mapUnstructuredString's Get, Has; impl.MapGet, MapHas; spec.Field; wMap, wSame; the sizes. -/
import Derived.Test.YtempfaefopfobaaDoorVal
import Derived.Test.YtempfaefopfobaaDoorSpecIdx

namespace Go.Proofs.YtempfaefopfobaaDoor
open Go.ChangeShapes Go.WideShapes Go.ChangeAt Go.RowKit
set_option linter.unusedVariables false
set_option linter.unusedSimpArgs false

/-- what Get gives -/
def GotV (S : Nat → Prop) (w : World) (m : List (ByteArray × Tree)) (key : ByteArray) (e : Ending) (w' : World) : Prop :=
  (lookKV m key = none ∧ e = .returned (.tuple #[.nilIface, .bool false]) ∧ Ext w w') ∨
  ∃ t x, lookKV m key = some t ∧ e = .returned (.tuple #[x, .bool true]) ∧ RepVal (fun b => S b ∨ w.heap.size ≤ b) w' t x ∧ Ext w w'
theorem box_last (W : World) (o : Obj) : (W.alloc o).heap[W.heap.size]? = some o := heap_alloc_new _ _
set_option maxRecDepth 100000 in
theorem getU_any (S : Nat → Prop) (m : List (ByteArray × Tree)) (r : Nat) (a : Addr) (key : ByteArray) (w : World) (hM : RepM S w m r) :
    Calls Tryd.prog 75 #[.map (some r), .iface 75 (.pointer (some a)), .string key] w (GotV S w m key) := by
  rcases RepM.look Tryd.underlying128 Tryd.underlying9 (zero_any w) hM key with ⟨h1, h2, h3⟩ | ⟨t, v, h1, h2, h3, h4⟩
  · have H1 := hid h1
    clear h1 hM h3
    go_enter Tryd.func75, Tryd.ntmps75
    go_wp2_with fail
    go_ret2
    exact .inl ⟨H1.out, rfl, Ext.refl _⟩
  · have H1 := hid h1
    have HT := hid h2
    have hf := h2.form
    clear h1 hM h4 h2
    rcases hf with rfl | ⟨ty, vv, rfl⟩
    all_goals
      go_enter Tryd.func75, Tryd.ntmps75
      go_wp2
      go_ret2
      refine .inr ⟨t, _, H1.out, rfl, ⟨w.heap.size, _, rfl, .inr (Nat.le_refl _), box_last w _, (HT.out.ext ((Ext.refl _).alloc _)).weak (fun b hb _ => .inl hb)⟩, (Ext.refl _).alloc _⟩
theorem get_any (S : Nat → Prop) (m : List (ByteArray × Tree)) (r : Nat) (key : ByteArray) (w : World) (hM : RepM S w m r) :
    Calls Tryd.prog 74 #[.map (some r), .string key] w (GotV S w m key) := by
  have HM := hid hM
  clear hM
  go_enter Tryd.func74, Tryd.ntmps74
  go_wp2_with (go_at_call 75; refine (getU_any S m r _ key _ (HM.out.ext ((Ext.refl _).alloc _))).mono ?_; rintro e w2 (⟨h1, rfl, hE⟩ | ⟨t, x, h1, rfl, ⟨bx, vx, rfl, hV⟩, hE⟩) <;> have H1 := hid h1 <;> clear h1)
  · go_ret2
    exact .inl ⟨H1.out, rfl, ((Ext.refl _).alloc _).trans hE⟩
  · have HV := hid hV
    clear hV
    go_ret2
    exact .inr ⟨t, _, H1.out, rfl, RepVal.weak (S := fun b => S b ∨ (w.alloc _).heap.size ≤ b) (fun b hb _ => hb.imp id (fun h => by simp at h; omega)) ⟨bx, vx, rfl, HV.out⟩, ((Ext.refl _).alloc _).trans hE⟩
end Go.Proofs.YtempfaefopfobaaDoor
