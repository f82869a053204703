/- EqPlD: how the reference holds two values in plain form equal. -/
import Derived.Test.YtempfaefopfobaaOrd
import Derived.Test.YtempfaefopfobaaSame
import Derived.Test.YtempfaefopfobaaFromEl
import Derived.Test.YtempfaefopfobaaLate
import Derived.StillTailTactics
import Derived.Deep.QuietTactic
import Derived.BigQuiet
import Derived.Test.YtempfaefopfobaaEquScal
import Derived.Test.YtempfaefopfobaaGE
import Derived.Test.YtempfaefopfobaaElemOf
import Derived.Test.YtempfaefopfobaaSameElem
import Derived.Test.YtempfaefopfobaaGQ

section
namespace Go.Proofs.Ytempfaefopfobaa
open Go.ChangeShapes Go.WideShapes Go.ChangeAt Go.RowKit
set_option linter.unusedVariables false
set_option linter.unusedSimpArgs false

def numK (k : Int) : Bool := decide (k = 2) || decide (k = 3)
def asF (k n : Int) (f : Nat) : Nat := if k = 2 then floatOfInt .f64 n else f
/-- two lists of values are alike in pairs -/
def eqGs (z : GV → GV → Bool) : List GV → List GV → Bool
  | [], [] => true
  | a :: x, b :: y => z a b && eqGs z x y
  | _, _ => false
theorem eqGs_congr {z z' : GV → GV → Bool} : ∀ {l1 l2 : List GV}, (∀ a ∈ l1, ∀ b ∈ l2, z a b = z' a b) → eqGs z l1 l2 = eqGs z' l1 l2
  | [], [], _ => rfl
  | [], _ :: _, _ => rfl
  | _ :: _, [], _ => rfl
  | a :: x, b :: y, h => by
    simp only [eqGs]
    rw [h a (by simp) b (by simp), eqGs_congr (l1 := x) (l2 := y) fun a' ha b' hb => h a' (by simp [ha]) b' (by simp [hb])]
theorem eqGs_len {z : GV → GV → Bool} : ∀ {l1 l2 : List GV}, l1.length ≠ l2.length → eqGs z l1 l2 = false
  | [], [], h => absurd rfl h
  | [], _ :: _, _ => rfl
  | _ :: _, [], _ => rfl
  | p :: x, q :: y, h => by
    unfold eqGs
    rw [eqGs_len (l1 := x) (l2 := y) (by simpa using h), Bool.and_false]
theorem eqGs_step {z : GV → GV → Bool} {l1 l2 : List GV} {k : Nat} {p q : GV} (h1 : l1[k]? = some p) (h2 : l2[k]? = some q) : eqGs z (l1.drop k) (l2.drop k) = (z p q && eqGs z (l1.drop (k + 1)) (l2.drop (k + 1))) := by
  obtain ⟨h3, rfl⟩ := List.getElem?_eq_some_iff.1 h1
  obtain ⟨h4, rfl⟩ := List.getElem?_eq_some_iff.1 h2
  rw [List.drop_eq_getElem_cons h3, List.drop_eq_getElem_cons h4]
  rfl
def eqPlF : Nat → GV → GV → Bool
  | 0, _, _ => false
  | N + 1, a, b =>
    if (numK a.kind && numK b.kind) = true then (if a.kind = 2 ∧ b.kind = 2 then decide (a.n = b.n) else feq (asF a.kind a.n a.f) (asF b.kind b.n b.f))
    else decide (a.kind = b.kind) && (decide (a.n = b.n) && (decide (a.s = b.s) && (decide (a.keys = b.keys) && eqGs (eqPlF N) a.l b.l)))
theorem GV.size_mem {a x : GV} (h : x ∈ a.l) : SizeOf.sizeOf x < SizeOf.sizeOf a := by
  cases a with
  | mk k n f s ks l =>
    obtain ⟨i, hi⟩ := List.mem_iff_getElem?.1 h
    exact GV.size_mk k n f s ks l hi
theorem GV.size_pos (a : GV) : 0 < SizeOf.sizeOf a := by cases a; simp; omega
theorem eqPlF_eq : ∀ (n m : Nat) (a b : GV), SizeOf.sizeOf a ≤ n → SizeOf.sizeOf a ≤ m → eqPlF n a b = eqPlF m a b
  | 0, _, a, _, h, _ => by have := a.size_pos; omega
  | _ + 1, 0, a, _, _, h => by have := a.size_pos; omega
  | n + 1, m + 1, a, b, hn, hm => by
    unfold eqPlF
    rw [eqGs_congr fun x hx y _ => eqPlF_eq n m x y (by have := GV.size_mem hx; omega) (by have := GV.size_mem hx; omega)]
/-- equalPlain -/
noncomputable def eqPl (a b : GV) : Bool := eqPlF (SizeOf.sizeOf a) a b
theorem eqPl_def (a b : GV) : eqPl a b = if (numK a.kind && numK b.kind) = true then (if a.kind = 2 ∧ b.kind = 2 then decide (a.n = b.n) else feq (asF a.kind a.n a.f) (asF b.kind b.n b.f))
    else decide (a.kind = b.kind) && (decide (a.n = b.n) && (decide (a.s = b.s) && (decide (a.keys = b.keys) && eqGs eqPl a.l b.l))) := by
  have hp := a.size_pos
  obtain ⟨N, hN⟩ : ∃ N, SizeOf.sizeOf a = N + 1 := ⟨SizeOf.sizeOf a - 1, by omega⟩
  unfold eqPl
  rw [hN]
  show (if (numK a.kind && numK b.kind) = true then _ else _) = _
  rw [eqGs_congr (z := eqPlF N) (z' := fun a b => eqPlF (SizeOf.sizeOf a) a b) fun x hx y _ => eqPlF_eq _ _ x y (by have := GV.size_mem hx; omega) (Nat.le_refl _)]
end Go.Proofs.Ytempfaefopfobaa
end

/- EqPlain: spec.equalPlain of whatever values. -/
section
set_option maxRecDepth 100000
namespace Go.Proofs.Ytempfaefopfobaa
open Go.ChangeShapes Go.WideShapes Go.ChangeAt Go.RowKit
set_option linter.unusedVariables false
set_option linter.unusedSimpArgs false
def EqPlOK (a : GV) : Prop := ∀ (b : GV) (w : World) (ca cb : List Value), RepGV Any w a ca → RepGV Any w b cb → Calls Try.prog 144 #[.agg ca.toArray, .agg cb.toArray] w fun e w' => e = .returned (.bool (eqPl a b)) ∧ Ext w w'
theorem number_any (k n : Int) (f : Nat) (s : ByteArray) (kv lv : Value) (w : World) : Calls Try.prog 150 #[.agg #[.int .i64 k, .int .i64 n, .float .f64 f, .string s, kv, lv]] w fun e w' => e = .returned (.bool (numK k)) ∧ Ext w w' := by
  by_cases h2 : k = 2
  · subst h2
    go_enter Try.func150, Try.ntmps150
    go_wp2_with fail
    go_ret
    exact ⟨rfl, (Ext.refl _).alloc _⟩
  · by_cases h3 : k = 3
    · subst h3
      go_enter Try.func150, Try.ntmps150
      go_wp2_with fail
      go_ret
      exact ⟨rfl, (Ext.refl _).alloc _⟩
    · have e2 : (k == 2) = false := by simp [h2]
      have e3 : (k == 3) = false := by simp [h3]
      have HN := hid (show false = numK k by unfold numK; rw [decide_eq_false h2, decide_eq_false h3]; rfl)
      go_enter Try.func150, Try.ntmps150
      go_wp2_with fail
      go_ret
      exact ⟨congrArg (fun z => Ending.returned (.bool z)) HN.out, (Ext.refl _).alloc _⟩
theorem asFloat_int (n : Int) (f : Nat) (s : ByteArray) (kv lv : Value) (w : World) : Calls Try.prog 151 #[.agg #[.int .i64 2, .int .i64 n, .float .f64 f, .string s, kv, lv]] w fun e w' => e = .returned (.float .f64 (floatOfInt .f64 n)) ∧ Ext w w' := by
  go_enter Try.func151, Try.ntmps151
  go_wp2_with fail
  go_ret
  exact ⟨rfl, (Ext.refl _).alloc _⟩
theorem asFloat_flt (n : Int) (f : Nat) (s : ByteArray) (kv lv : Value) (w : World) : Calls Try.prog 151 #[.agg #[.int .i64 3, .int .i64 n, .float .f64 f, .string s, kv, lv]] w fun e w' => e = .returned (.float .f64 f) ∧ Ext w w' := by
  go_enter Try.func151, Try.ntmps151
  go_wp2_with fail
  go_ret
  exact ⟨rfl, (Ext.refl _).alloc _⟩
set_option maxHeartbeats 4000000 in
theorem eqPl_22 (n : Int) (f : Nat) (s : ByteArray) (kv lv : Value) (n' : Int) (f' : Nat) (s' : ByteArray) (kv' lv' : Value) (w : World) : Calls Try.prog 144 #[.agg #[.int .i64 2, .int .i64 n, .float .f64 f, .string s, kv, lv], .agg #[.int .i64 2, .int .i64 n', .float .f64 f', .string s', kv', lv']] w fun e w' => e = .returned (.bool (decide (n = n'))) ∧ Ext w w' := by
  have tk : True := trivial
  have HX := hid (show ∀ W : World, Ext ((w.alloc (.cells #[.int .i64 2, .int .i64 n, .float .f64 f, .string s, kv, lv] 32)).alloc (.cells #[.int .i64 2, .int .i64 n', .float .f64 f', .string s', kv', lv'] 32)) W → W.heap[w.heap.size]? = some (.cells #[.int .i64 2, .int .i64 n, .float .f64 f, .string s, kv, lv] 32) ∧ W.heap[w.heap.size + 1]? = some (.cells #[.int .i64 2, .int .i64 n', .float .f64 f', .string s', kv', lv'] 32) ∧ Ext w W from fun W h => ⟨h.block (first_heap w _ _), h.block (second_heap w _ _), (((Ext.refl w).alloc _).alloc _).trans h⟩)
  go_enter Try.func144, Try.ntmps144
  go_upto_region 1 with fail
  have HE0 := hid (Ext.refl ((w.alloc (.cells #[.int .i64 2, .int .i64 n, .float .f64 f, .string s, kv, lv] 32)).alloc (.cells #[.int .i64 2, .int .i64 n', .float .f64 f', .string s', kv', lv'] 32)))
  generalize ((w.alloc (.cells #[.int .i64 2, .int .i64 n, .float .f64 f, .string s, kv, lv] 32)).alloc (.cells #[.int .i64 2, .int .i64 n', .float .f64 f', .string s', kv', lv'] 32)) = w1 at *
  obtain ⟨⟨z0, z1, z2, z3, z4, z5⟩, -⟩ := slot6 (HX.out _ HE0.out).1
  obtain ⟨⟨y0, y1, y2, y3, y4, y5⟩, -⟩ := slot6 (HX.out _ HE0.out).2.1
  go_wp2_with (first
    | (go_at_call 150; have _t := tk; refine (number_any _ n f s kv lv _).mono ?_; rintro e w2 ⟨rfl, hE⟩; have HE2 := hid (HE0.out.trans hE); clear hE tk _t z0 z1 z2 z3 z4 z5 y0 y1 y2 y3 y4 y5; obtain ⟨⟨z0, z1, z2, z3, z4, z5⟩, -⟩ := slot6 (HX.out _ HE2.out).1; obtain ⟨⟨y0, y1, y2, y3, y4, y5⟩, -⟩ := slot6 (HX.out _ HE2.out).2.1)
    | (go_at_call 150; refine (number_any _ n' f' s' kv' lv' _).mono ?_; rintro e w3 ⟨rfl, hE⟩; have HE3 := hid (HE2.out.trans hE); clear hE z0 z1 z2 z3 z4 z5 y0 y1 y2 y3 y4 y5; obtain ⟨⟨z0, z1, z2, z3, z4, z5⟩, -⟩ := slot6 (HX.out _ HE3.out).1; obtain ⟨⟨y0, y1, y2, y3, y4, y5⟩, -⟩ := slot6 (HX.out _ HE3.out).2.1))
  go_ret
  exact ⟨rfl, (HX.out _ HE3.out).2.2⟩
set_option maxHeartbeats 4000000 in
theorem eqPl_23 (n : Int) (f : Nat) (s : ByteArray) (kv lv : Value) (n' : Int) (f' : Nat) (s' : ByteArray) (kv' lv' : Value) (w : World) : Calls Try.prog 144 #[.agg #[.int .i64 2, .int .i64 n, .float .f64 f, .string s, kv, lv], .agg #[.int .i64 3, .int .i64 n', .float .f64 f', .string s', kv', lv']] w fun e w' => e = .returned (.bool (feq (floatOfInt .f64 n) (f'))) ∧ Ext w w' := by
  have tk : True := trivial
  have HX := hid (show ∀ W : World, Ext ((w.alloc (.cells #[.int .i64 2, .int .i64 n, .float .f64 f, .string s, kv, lv] 32)).alloc (.cells #[.int .i64 3, .int .i64 n', .float .f64 f', .string s', kv', lv'] 32)) W → W.heap[w.heap.size]? = some (.cells #[.int .i64 2, .int .i64 n, .float .f64 f, .string s, kv, lv] 32) ∧ W.heap[w.heap.size + 1]? = some (.cells #[.int .i64 3, .int .i64 n', .float .f64 f', .string s', kv', lv'] 32) ∧ Ext w W from fun W h => ⟨h.block (first_heap w _ _), h.block (second_heap w _ _), (((Ext.refl w).alloc _).alloc _).trans h⟩)
  go_enter Try.func144, Try.ntmps144
  go_upto_region 1 with fail
  have HE0 := hid (Ext.refl ((w.alloc (.cells #[.int .i64 2, .int .i64 n, .float .f64 f, .string s, kv, lv] 32)).alloc (.cells #[.int .i64 3, .int .i64 n', .float .f64 f', .string s', kv', lv'] 32)))
  generalize ((w.alloc (.cells #[.int .i64 2, .int .i64 n, .float .f64 f, .string s, kv, lv] 32)).alloc (.cells #[.int .i64 3, .int .i64 n', .float .f64 f', .string s', kv', lv'] 32)) = w1 at *
  obtain ⟨⟨z0, z1, z2, z3, z4, z5⟩, -⟩ := slot6 (HX.out _ HE0.out).1
  obtain ⟨⟨y0, y1, y2, y3, y4, y5⟩, -⟩ := slot6 (HX.out _ HE0.out).2.1
  go_wp2_with (first
    | (go_at_call 150; have _t := tk; refine (number_any _ n f s kv lv _).mono ?_; rintro e w2 ⟨rfl, hE⟩; have HE2 := hid (HE0.out.trans hE); clear hE tk _t z0 z1 z2 z3 z4 z5 y0 y1 y2 y3 y4 y5; obtain ⟨⟨z0, z1, z2, z3, z4, z5⟩, -⟩ := slot6 (HX.out _ HE2.out).1; obtain ⟨⟨y0, y1, y2, y3, y4, y5⟩, -⟩ := slot6 (HX.out _ HE2.out).2.1)
    | (go_at_call 150; refine (number_any _ n' f' s' kv' lv' _).mono ?_; rintro e w3 ⟨rfl, hE⟩; have HE3 := hid (HE2.out.trans hE); clear hE z0 z1 z2 z3 z4 z5 y0 y1 y2 y3 y4 y5; obtain ⟨⟨z0, z1, z2, z3, z4, z5⟩, -⟩ := slot6 (HX.out _ HE3.out).1; obtain ⟨⟨y0, y1, y2, y3, y4, y5⟩, -⟩ := slot6 (HX.out _ HE3.out).2.1))
  have HEd := hid (show Ext w1 w3.drew from HE3.out.drew)
  refine wp_region_late (fun w' : World => w'.cell? ⟨w.heap.size, 0, none⟩ = some (.int .i64 2) ∧ w'.cell? ⟨w.heap.size, 1, none⟩ = some (.int .i64 n) ∧ w'.cell? ⟨w.heap.size, 2, none⟩ = some (.float .f64 f) ∧ w'.cell? ⟨w.heap.size, 3, none⟩ = some (.string s) ∧ w'.cell? ⟨w.heap.size, 4, none⟩ = some (kv) ∧ w'.cell? ⟨w.heap.size, 5, none⟩ = some (lv) ∧ w'.cell? ⟨w.heap.size + 1, 0, none⟩ = some (.int .i64 3) ∧ w'.cell? ⟨w.heap.size + 1, 1, none⟩ = some (.int .i64 n') ∧ w'.cell? ⟨w.heap.size + 1, 2, none⟩ = some (.float .f64 f') ∧ w'.cell? ⟨w.heap.size + 1, 3, none⟩ = some (.string s') ∧ w'.cell? ⟨w.heap.size + 1, 4, none⟩ = some (kv') ∧ w'.cell? ⟨w.heap.size + 1, 5, none⟩ = some (lv')) [] (by kernel_rfl) ?hS1 (fun hHeld => ?_)
  case hS1 => (obtain ⟨⟨z0, z1, z2, z3, z4, z5⟩, -⟩ := slot6 (HX.out _ HEd.out).1; obtain ⟨⟨y0, y1, y2, y3, y4, y5⟩, -⟩ := slot6 (HX.out _ HEd.out).2.1; exact ⟨z0, z1, z2, z3, z4, z5, y0, y1, y2, y3, y4, y5⟩)
  generalize w3.drew = wd at *
  change wpAnyM _ _ _ _ _ _ 6 #[false, false, false, false, false, false] _ _
  refine wpAnyM_take (i := 0) (oi := { dst := some 26, op := Go.Op.load 32 (Go.Operand.tmp 2), type := 32, pos := "order.go:30", after := #[], guard := none }) (v := ?v2) rfl (by kernel_rfl) (fun _ _ _ h => h) (Or.inl ⟨by rfl, ?hy2⟩) (by assumption) ?rest2
  case hy2 => (intro wz hSw; (try dsimp only at hSw); go_simp; try with_reducible rfl)
  (try simp only [Act.put, List.setIfInBounds_toArray, List.set_cons_zero, List.set_cons_succ])
  refine wpAnyM_take (i := 2) (oi := { dst := some 28, op := Go.Op.load 32 (Go.Operand.tmp 3), type := 32, pos := "order.go:30", after := #[], guard := none }) (v := ?v3) rfl (by kernel_rfl) (fun _ _ _ h => h) (Or.inl ⟨by rfl, ?hy3⟩) (by assumption) ?rest3
  case hy3 => (intro wz hSw; (try dsimp only at hSw); go_simp; try with_reducible rfl)
  (try simp only [Act.put, List.setIfInBounds_toArray, List.set_cons_zero, List.set_cons_succ])
  refine wpAnyM_ready (rs := [1]) (by kernel_rfl) (by simp) ?_
  refine AllReadyM.cons (o := { dst := some 27, op := Go.Op.call { callee := Go.Callee.value (Go.Operand.func 151), args := #[Go.Operand.tmp 26], argTypes := #[32] }, type := 30, pos := "order.go:30", after := #[{ on := 0, ground := Go.Ground.data }], guard := none }) rfl (fun K hK => ?_) AllReadyM.nil
  refine step_call _ rfl 151 [.tmp 26] #[32] rfl (by kernel_rfl) [_] rfl (asFloat_int n f s kv lv _) ?_
  rintro en wf1 ⟨rfl, hE⟩
  refine ⟨_, rfl, ?_⟩
  have HF1 := hid (HEd.out.trans hE)
  clear hE
  refine hK.out _ _ ?hS4 (fun hHeld => ?_)
  case hS4 => (obtain ⟨⟨z0, z1, z2, z3, z4, z5⟩, -⟩ := slot6 (HX.out _ HF1.out).1; obtain ⟨⟨y0, y1, y2, y3, y4, y5⟩, -⟩ := slot6 (HX.out _ HF1.out).2.1; exact ⟨z0, z1, z2, z3, z4, z5, y0, y1, y2, y3, y4, y5⟩)
  clear hK K
  (try simp only [Act.put, List.setIfInBounds_toArray, List.set_cons_zero, List.set_cons_succ])
  refine wpAnyM_ready (rs := [3]) (by kernel_rfl) (by simp) ?_
  refine AllReadyM.cons (o := { dst := some 29, op := Go.Op.call { callee := Go.Callee.value (Go.Operand.func 151), args := #[Go.Operand.tmp 28], argTypes := #[32] }, type := 30, pos := "order.go:30", after := #[{ on := 2, ground := Go.Ground.data }, { on := 1, ground := Go.Ground.chain }], guard := none }) rfl (fun K hK => ?_) AllReadyM.nil
  refine step_call _ rfl 151 [.tmp 28] #[32] rfl (by kernel_rfl) [_] rfl (asFloat_flt n' f' s' kv' lv' _) ?_
  rintro en wf3 ⟨rfl, hE⟩
  refine ⟨_, rfl, ?_⟩
  have HF3 := hid (HF1.out.trans hE)
  clear hE
  refine hK.out _ _ ?hS5 (fun hHeld => ?_)
  case hS5 => (obtain ⟨⟨z0, z1, z2, z3, z4, z5⟩, -⟩ := slot6 (HX.out _ HF3.out).1; obtain ⟨⟨y0, y1, y2, y3, y4, y5⟩, -⟩ := slot6 (HX.out _ HF3.out).2.1; exact ⟨z0, z1, z2, z3, z4, z5, y0, y1, y2, y3, y4, y5⟩)
  clear hK K
  (try simp only [Act.put, List.setIfInBounds_toArray, List.set_cons_zero, List.set_cons_succ])
  refine wpAnyM_take (i := 4) (oi := { dst := some 30, op := Go.Op.binOp Go.BinOp.eql 30 (Go.Operand.tmp 27) (Go.Operand.tmp 29) 30, type := 4, pos := "order.go:30", after := #[{ on := 1, ground := Go.Ground.data }, { on := 3, ground := Go.Ground.data }], guard := none }) (v := ?v6) rfl (by kernel_rfl) (fun _ _ _ h => h) (Or.inl ⟨by rfl, ?hy6⟩) (by assumption) ?rest6
  case hy6 => (intro wz hSw; (try dsimp only at hSw); go_simp; try with_reducible rfl)
  (try simp only [Act.put, List.setIfInBounds_toArray, List.set_cons_zero, List.set_cons_succ])
  refine wpAnyM_take (i := 5) (oi := { dst := some 4, op := Go.Op.assign (Go.Operand.tmp 30), type := 4, pos := "order.go:30", after := #[{ on := 4, ground := Go.Ground.data }, { on := 3, ground := Go.Ground.chain }, { on := 0, ground := Go.Ground.phase }, { on := 1, ground := Go.Ground.phase }, { on := 2, ground := Go.Ground.phase }, { on := 3, ground := Go.Ground.phase }, { on := 4, ground := Go.Ground.phase }], guard := none }) (v := ?v7) rfl (by kernel_rfl) (fun _ _ _ h => h) (Or.inl ⟨by rfl, ?hy7⟩) (by assumption) ?rest7
  case hy7 => (intro wz hSw; (try dsimp only at hSw); go_simp; try with_reducible rfl)
  (try simp only [Act.put, List.setIfInBounds_toArray, List.set_cons_zero, List.set_cons_succ])
  refine wpAnyM_done (by kernel_rfl) ?_ _
  go_wp2_with fail
  go_ret
  exact ⟨rfl, (HX.out _ HF3.out).2.2⟩
set_option maxHeartbeats 4000000 in
theorem eqPl_32 (n : Int) (f : Nat) (s : ByteArray) (kv lv : Value) (n' : Int) (f' : Nat) (s' : ByteArray) (kv' lv' : Value) (w : World) : Calls Try.prog 144 #[.agg #[.int .i64 3, .int .i64 n, .float .f64 f, .string s, kv, lv], .agg #[.int .i64 2, .int .i64 n', .float .f64 f', .string s', kv', lv']] w fun e w' => e = .returned (.bool (feq (f) (floatOfInt .f64 n'))) ∧ Ext w w' := by
  have tk : True := trivial
  have HX := hid (show ∀ W : World, Ext ((w.alloc (.cells #[.int .i64 3, .int .i64 n, .float .f64 f, .string s, kv, lv] 32)).alloc (.cells #[.int .i64 2, .int .i64 n', .float .f64 f', .string s', kv', lv'] 32)) W → W.heap[w.heap.size]? = some (.cells #[.int .i64 3, .int .i64 n, .float .f64 f, .string s, kv, lv] 32) ∧ W.heap[w.heap.size + 1]? = some (.cells #[.int .i64 2, .int .i64 n', .float .f64 f', .string s', kv', lv'] 32) ∧ Ext w W from fun W h => ⟨h.block (first_heap w _ _), h.block (second_heap w _ _), (((Ext.refl w).alloc _).alloc _).trans h⟩)
  go_enter Try.func144, Try.ntmps144
  go_upto_region 1 with fail
  have HE0 := hid (Ext.refl ((w.alloc (.cells #[.int .i64 3, .int .i64 n, .float .f64 f, .string s, kv, lv] 32)).alloc (.cells #[.int .i64 2, .int .i64 n', .float .f64 f', .string s', kv', lv'] 32)))
  generalize ((w.alloc (.cells #[.int .i64 3, .int .i64 n, .float .f64 f, .string s, kv, lv] 32)).alloc (.cells #[.int .i64 2, .int .i64 n', .float .f64 f', .string s', kv', lv'] 32)) = w1 at *
  obtain ⟨⟨z0, z1, z2, z3, z4, z5⟩, -⟩ := slot6 (HX.out _ HE0.out).1
  obtain ⟨⟨y0, y1, y2, y3, y4, y5⟩, -⟩ := slot6 (HX.out _ HE0.out).2.1
  go_wp2_with (first
    | (go_at_call 150; have _t := tk; refine (number_any _ n f s kv lv _).mono ?_; rintro e w2 ⟨rfl, hE⟩; have HE2 := hid (HE0.out.trans hE); clear hE tk _t z0 z1 z2 z3 z4 z5 y0 y1 y2 y3 y4 y5; obtain ⟨⟨z0, z1, z2, z3, z4, z5⟩, -⟩ := slot6 (HX.out _ HE2.out).1; obtain ⟨⟨y0, y1, y2, y3, y4, y5⟩, -⟩ := slot6 (HX.out _ HE2.out).2.1)
    | (go_at_call 150; refine (number_any _ n' f' s' kv' lv' _).mono ?_; rintro e w3 ⟨rfl, hE⟩; have HE3 := hid (HE2.out.trans hE); clear hE z0 z1 z2 z3 z4 z5 y0 y1 y2 y3 y4 y5; obtain ⟨⟨z0, z1, z2, z3, z4, z5⟩, -⟩ := slot6 (HX.out _ HE3.out).1; obtain ⟨⟨y0, y1, y2, y3, y4, y5⟩, -⟩ := slot6 (HX.out _ HE3.out).2.1))
  have HEd := hid (show Ext w1 w3.drew from HE3.out.drew)
  refine wp_region_late (fun w' : World => w'.cell? ⟨w.heap.size, 0, none⟩ = some (.int .i64 3) ∧ w'.cell? ⟨w.heap.size, 1, none⟩ = some (.int .i64 n) ∧ w'.cell? ⟨w.heap.size, 2, none⟩ = some (.float .f64 f) ∧ w'.cell? ⟨w.heap.size, 3, none⟩ = some (.string s) ∧ w'.cell? ⟨w.heap.size, 4, none⟩ = some (kv) ∧ w'.cell? ⟨w.heap.size, 5, none⟩ = some (lv) ∧ w'.cell? ⟨w.heap.size + 1, 0, none⟩ = some (.int .i64 2) ∧ w'.cell? ⟨w.heap.size + 1, 1, none⟩ = some (.int .i64 n') ∧ w'.cell? ⟨w.heap.size + 1, 2, none⟩ = some (.float .f64 f') ∧ w'.cell? ⟨w.heap.size + 1, 3, none⟩ = some (.string s') ∧ w'.cell? ⟨w.heap.size + 1, 4, none⟩ = some (kv') ∧ w'.cell? ⟨w.heap.size + 1, 5, none⟩ = some (lv')) [] (by kernel_rfl) ?hS8 (fun hHeld => ?_)
  case hS8 => (obtain ⟨⟨z0, z1, z2, z3, z4, z5⟩, -⟩ := slot6 (HX.out _ HEd.out).1; obtain ⟨⟨y0, y1, y2, y3, y4, y5⟩, -⟩ := slot6 (HX.out _ HEd.out).2.1; exact ⟨z0, z1, z2, z3, z4, z5, y0, y1, y2, y3, y4, y5⟩)
  generalize w3.drew = wd at *
  change wpAnyM _ _ _ _ _ _ 6 #[false, false, false, false, false, false] _ _
  refine wpAnyM_take (i := 0) (oi := { dst := some 26, op := Go.Op.load 32 (Go.Operand.tmp 2), type := 32, pos := "order.go:30", after := #[], guard := none }) (v := ?v9) rfl (by kernel_rfl) (fun _ _ _ h => h) (Or.inl ⟨by rfl, ?hy9⟩) (by assumption) ?rest9
  case hy9 => (intro wz hSw; (try dsimp only at hSw); go_simp; try with_reducible rfl)
  (try simp only [Act.put, List.setIfInBounds_toArray, List.set_cons_zero, List.set_cons_succ])
  refine wpAnyM_take (i := 2) (oi := { dst := some 28, op := Go.Op.load 32 (Go.Operand.tmp 3), type := 32, pos := "order.go:30", after := #[], guard := none }) (v := ?v10) rfl (by kernel_rfl) (fun _ _ _ h => h) (Or.inl ⟨by rfl, ?hy10⟩) (by assumption) ?rest10
  case hy10 => (intro wz hSw; (try dsimp only at hSw); go_simp; try with_reducible rfl)
  (try simp only [Act.put, List.setIfInBounds_toArray, List.set_cons_zero, List.set_cons_succ])
  refine wpAnyM_ready (rs := [1]) (by kernel_rfl) (by simp) ?_
  refine AllReadyM.cons (o := { dst := some 27, op := Go.Op.call { callee := Go.Callee.value (Go.Operand.func 151), args := #[Go.Operand.tmp 26], argTypes := #[32] }, type := 30, pos := "order.go:30", after := #[{ on := 0, ground := Go.Ground.data }], guard := none }) rfl (fun K hK => ?_) AllReadyM.nil
  refine step_call _ rfl 151 [.tmp 26] #[32] rfl (by kernel_rfl) [_] rfl (asFloat_flt n f s kv lv _) ?_
  rintro en wf1 ⟨rfl, hE⟩
  refine ⟨_, rfl, ?_⟩
  have HF1 := hid (HEd.out.trans hE)
  clear hE
  refine hK.out _ _ ?hS11 (fun hHeld => ?_)
  case hS11 => (obtain ⟨⟨z0, z1, z2, z3, z4, z5⟩, -⟩ := slot6 (HX.out _ HF1.out).1; obtain ⟨⟨y0, y1, y2, y3, y4, y5⟩, -⟩ := slot6 (HX.out _ HF1.out).2.1; exact ⟨z0, z1, z2, z3, z4, z5, y0, y1, y2, y3, y4, y5⟩)
  clear hK K
  (try simp only [Act.put, List.setIfInBounds_toArray, List.set_cons_zero, List.set_cons_succ])
  refine wpAnyM_ready (rs := [3]) (by kernel_rfl) (by simp) ?_
  refine AllReadyM.cons (o := { dst := some 29, op := Go.Op.call { callee := Go.Callee.value (Go.Operand.func 151), args := #[Go.Operand.tmp 28], argTypes := #[32] }, type := 30, pos := "order.go:30", after := #[{ on := 2, ground := Go.Ground.data }, { on := 1, ground := Go.Ground.chain }], guard := none }) rfl (fun K hK => ?_) AllReadyM.nil
  refine step_call _ rfl 151 [.tmp 28] #[32] rfl (by kernel_rfl) [_] rfl (asFloat_int n' f' s' kv' lv' _) ?_
  rintro en wf3 ⟨rfl, hE⟩
  refine ⟨_, rfl, ?_⟩
  have HF3 := hid (HF1.out.trans hE)
  clear hE
  refine hK.out _ _ ?hS12 (fun hHeld => ?_)
  case hS12 => (obtain ⟨⟨z0, z1, z2, z3, z4, z5⟩, -⟩ := slot6 (HX.out _ HF3.out).1; obtain ⟨⟨y0, y1, y2, y3, y4, y5⟩, -⟩ := slot6 (HX.out _ HF3.out).2.1; exact ⟨z0, z1, z2, z3, z4, z5, y0, y1, y2, y3, y4, y5⟩)
  clear hK K
  (try simp only [Act.put, List.setIfInBounds_toArray, List.set_cons_zero, List.set_cons_succ])
  refine wpAnyM_take (i := 4) (oi := { dst := some 30, op := Go.Op.binOp Go.BinOp.eql 30 (Go.Operand.tmp 27) (Go.Operand.tmp 29) 30, type := 4, pos := "order.go:30", after := #[{ on := 1, ground := Go.Ground.data }, { on := 3, ground := Go.Ground.data }], guard := none }) (v := ?v13) rfl (by kernel_rfl) (fun _ _ _ h => h) (Or.inl ⟨by rfl, ?hy13⟩) (by assumption) ?rest13
  case hy13 => (intro wz hSw; (try dsimp only at hSw); go_simp; try with_reducible rfl)
  (try simp only [Act.put, List.setIfInBounds_toArray, List.set_cons_zero, List.set_cons_succ])
  refine wpAnyM_take (i := 5) (oi := { dst := some 4, op := Go.Op.assign (Go.Operand.tmp 30), type := 4, pos := "order.go:30", after := #[{ on := 4, ground := Go.Ground.data }, { on := 3, ground := Go.Ground.chain }, { on := 0, ground := Go.Ground.phase }, { on := 1, ground := Go.Ground.phase }, { on := 2, ground := Go.Ground.phase }, { on := 3, ground := Go.Ground.phase }, { on := 4, ground := Go.Ground.phase }], guard := none }) (v := ?v14) rfl (by kernel_rfl) (fun _ _ _ h => h) (Or.inl ⟨by rfl, ?hy14⟩) (by assumption) ?rest14
  case hy14 => (intro wz hSw; (try dsimp only at hSw); go_simp; try with_reducible rfl)
  (try simp only [Act.put, List.setIfInBounds_toArray, List.set_cons_zero, List.set_cons_succ])
  refine wpAnyM_done (by kernel_rfl) ?_ _
  go_wp2_with fail
  go_ret
  exact ⟨rfl, (HX.out _ HF3.out).2.2⟩
set_option maxHeartbeats 4000000 in
theorem eqPl_33 (n : Int) (f : Nat) (s : ByteArray) (kv lv : Value) (n' : Int) (f' : Nat) (s' : ByteArray) (kv' lv' : Value) (w : World) : Calls Try.prog 144 #[.agg #[.int .i64 3, .int .i64 n, .float .f64 f, .string s, kv, lv], .agg #[.int .i64 3, .int .i64 n', .float .f64 f', .string s', kv', lv']] w fun e w' => e = .returned (.bool (feq (f) (f'))) ∧ Ext w w' := by
  have tk : True := trivial
  have HX := hid (show ∀ W : World, Ext ((w.alloc (.cells #[.int .i64 3, .int .i64 n, .float .f64 f, .string s, kv, lv] 32)).alloc (.cells #[.int .i64 3, .int .i64 n', .float .f64 f', .string s', kv', lv'] 32)) W → W.heap[w.heap.size]? = some (.cells #[.int .i64 3, .int .i64 n, .float .f64 f, .string s, kv, lv] 32) ∧ W.heap[w.heap.size + 1]? = some (.cells #[.int .i64 3, .int .i64 n', .float .f64 f', .string s', kv', lv'] 32) ∧ Ext w W from fun W h => ⟨h.block (first_heap w _ _), h.block (second_heap w _ _), (((Ext.refl w).alloc _).alloc _).trans h⟩)
  go_enter Try.func144, Try.ntmps144
  go_upto_region 1 with fail
  have HE0 := hid (Ext.refl ((w.alloc (.cells #[.int .i64 3, .int .i64 n, .float .f64 f, .string s, kv, lv] 32)).alloc (.cells #[.int .i64 3, .int .i64 n', .float .f64 f', .string s', kv', lv'] 32)))
  generalize ((w.alloc (.cells #[.int .i64 3, .int .i64 n, .float .f64 f, .string s, kv, lv] 32)).alloc (.cells #[.int .i64 3, .int .i64 n', .float .f64 f', .string s', kv', lv'] 32)) = w1 at *
  obtain ⟨⟨z0, z1, z2, z3, z4, z5⟩, -⟩ := slot6 (HX.out _ HE0.out).1
  obtain ⟨⟨y0, y1, y2, y3, y4, y5⟩, -⟩ := slot6 (HX.out _ HE0.out).2.1
  go_wp2_with (first
    | (go_at_call 150; have _t := tk; refine (number_any _ n f s kv lv _).mono ?_; rintro e w2 ⟨rfl, hE⟩; have HE2 := hid (HE0.out.trans hE); clear hE tk _t z0 z1 z2 z3 z4 z5 y0 y1 y2 y3 y4 y5; obtain ⟨⟨z0, z1, z2, z3, z4, z5⟩, -⟩ := slot6 (HX.out _ HE2.out).1; obtain ⟨⟨y0, y1, y2, y3, y4, y5⟩, -⟩ := slot6 (HX.out _ HE2.out).2.1)
    | (go_at_call 150; refine (number_any _ n' f' s' kv' lv' _).mono ?_; rintro e w3 ⟨rfl, hE⟩; have HE3 := hid (HE2.out.trans hE); clear hE z0 z1 z2 z3 z4 z5 y0 y1 y2 y3 y4 y5; obtain ⟨⟨z0, z1, z2, z3, z4, z5⟩, -⟩ := slot6 (HX.out _ HE3.out).1; obtain ⟨⟨y0, y1, y2, y3, y4, y5⟩, -⟩ := slot6 (HX.out _ HE3.out).2.1))
  have HEd := hid (show Ext w1 w3.drew from HE3.out.drew)
  refine wp_region_late (fun w' : World => w'.cell? ⟨w.heap.size, 0, none⟩ = some (.int .i64 3) ∧ w'.cell? ⟨w.heap.size, 1, none⟩ = some (.int .i64 n) ∧ w'.cell? ⟨w.heap.size, 2, none⟩ = some (.float .f64 f) ∧ w'.cell? ⟨w.heap.size, 3, none⟩ = some (.string s) ∧ w'.cell? ⟨w.heap.size, 4, none⟩ = some (kv) ∧ w'.cell? ⟨w.heap.size, 5, none⟩ = some (lv) ∧ w'.cell? ⟨w.heap.size + 1, 0, none⟩ = some (.int .i64 3) ∧ w'.cell? ⟨w.heap.size + 1, 1, none⟩ = some (.int .i64 n') ∧ w'.cell? ⟨w.heap.size + 1, 2, none⟩ = some (.float .f64 f') ∧ w'.cell? ⟨w.heap.size + 1, 3, none⟩ = some (.string s') ∧ w'.cell? ⟨w.heap.size + 1, 4, none⟩ = some (kv') ∧ w'.cell? ⟨w.heap.size + 1, 5, none⟩ = some (lv')) [] (by kernel_rfl) ?hS15 (fun hHeld => ?_)
  case hS15 => (obtain ⟨⟨z0, z1, z2, z3, z4, z5⟩, -⟩ := slot6 (HX.out _ HEd.out).1; obtain ⟨⟨y0, y1, y2, y3, y4, y5⟩, -⟩ := slot6 (HX.out _ HEd.out).2.1; exact ⟨z0, z1, z2, z3, z4, z5, y0, y1, y2, y3, y4, y5⟩)
  generalize w3.drew = wd at *
  change wpAnyM _ _ _ _ _ _ 6 #[false, false, false, false, false, false] _ _
  refine wpAnyM_take (i := 0) (oi := { dst := some 26, op := Go.Op.load 32 (Go.Operand.tmp 2), type := 32, pos := "order.go:30", after := #[], guard := none }) (v := ?v16) rfl (by kernel_rfl) (fun _ _ _ h => h) (Or.inl ⟨by rfl, ?hy16⟩) (by assumption) ?rest16
  case hy16 => (intro wz hSw; (try dsimp only at hSw); go_simp; try with_reducible rfl)
  (try simp only [Act.put, List.setIfInBounds_toArray, List.set_cons_zero, List.set_cons_succ])
  refine wpAnyM_take (i := 2) (oi := { dst := some 28, op := Go.Op.load 32 (Go.Operand.tmp 3), type := 32, pos := "order.go:30", after := #[], guard := none }) (v := ?v17) rfl (by kernel_rfl) (fun _ _ _ h => h) (Or.inl ⟨by rfl, ?hy17⟩) (by assumption) ?rest17
  case hy17 => (intro wz hSw; (try dsimp only at hSw); go_simp; try with_reducible rfl)
  (try simp only [Act.put, List.setIfInBounds_toArray, List.set_cons_zero, List.set_cons_succ])
  refine wpAnyM_ready (rs := [1]) (by kernel_rfl) (by simp) ?_
  refine AllReadyM.cons (o := { dst := some 27, op := Go.Op.call { callee := Go.Callee.value (Go.Operand.func 151), args := #[Go.Operand.tmp 26], argTypes := #[32] }, type := 30, pos := "order.go:30", after := #[{ on := 0, ground := Go.Ground.data }], guard := none }) rfl (fun K hK => ?_) AllReadyM.nil
  refine step_call _ rfl 151 [.tmp 26] #[32] rfl (by kernel_rfl) [_] rfl (asFloat_flt n f s kv lv _) ?_
  rintro en wf1 ⟨rfl, hE⟩
  refine ⟨_, rfl, ?_⟩
  have HF1 := hid (HEd.out.trans hE)
  clear hE
  refine hK.out _ _ ?hS18 (fun hHeld => ?_)
  case hS18 => (obtain ⟨⟨z0, z1, z2, z3, z4, z5⟩, -⟩ := slot6 (HX.out _ HF1.out).1; obtain ⟨⟨y0, y1, y2, y3, y4, y5⟩, -⟩ := slot6 (HX.out _ HF1.out).2.1; exact ⟨z0, z1, z2, z3, z4, z5, y0, y1, y2, y3, y4, y5⟩)
  clear hK K
  (try simp only [Act.put, List.setIfInBounds_toArray, List.set_cons_zero, List.set_cons_succ])
  refine wpAnyM_ready (rs := [3]) (by kernel_rfl) (by simp) ?_
  refine AllReadyM.cons (o := { dst := some 29, op := Go.Op.call { callee := Go.Callee.value (Go.Operand.func 151), args := #[Go.Operand.tmp 28], argTypes := #[32] }, type := 30, pos := "order.go:30", after := #[{ on := 2, ground := Go.Ground.data }, { on := 1, ground := Go.Ground.chain }], guard := none }) rfl (fun K hK => ?_) AllReadyM.nil
  refine step_call _ rfl 151 [.tmp 28] #[32] rfl (by kernel_rfl) [_] rfl (asFloat_flt n' f' s' kv' lv' _) ?_
  rintro en wf3 ⟨rfl, hE⟩
  refine ⟨_, rfl, ?_⟩
  have HF3 := hid (HF1.out.trans hE)
  clear hE
  refine hK.out _ _ ?hS19 (fun hHeld => ?_)
  case hS19 => (obtain ⟨⟨z0, z1, z2, z3, z4, z5⟩, -⟩ := slot6 (HX.out _ HF3.out).1; obtain ⟨⟨y0, y1, y2, y3, y4, y5⟩, -⟩ := slot6 (HX.out _ HF3.out).2.1; exact ⟨z0, z1, z2, z3, z4, z5, y0, y1, y2, y3, y4, y5⟩)
  clear hK K
  (try simp only [Act.put, List.setIfInBounds_toArray, List.set_cons_zero, List.set_cons_succ])
  refine wpAnyM_take (i := 4) (oi := { dst := some 30, op := Go.Op.binOp Go.BinOp.eql 30 (Go.Operand.tmp 27) (Go.Operand.tmp 29) 30, type := 4, pos := "order.go:30", after := #[{ on := 1, ground := Go.Ground.data }, { on := 3, ground := Go.Ground.data }], guard := none }) (v := ?v20) rfl (by kernel_rfl) (fun _ _ _ h => h) (Or.inl ⟨by rfl, ?hy20⟩) (by assumption) ?rest20
  case hy20 => (intro wz hSw; (try dsimp only at hSw); go_simp; try with_reducible rfl)
  (try simp only [Act.put, List.setIfInBounds_toArray, List.set_cons_zero, List.set_cons_succ])
  refine wpAnyM_take (i := 5) (oi := { dst := some 4, op := Go.Op.assign (Go.Operand.tmp 30), type := 4, pos := "order.go:30", after := #[{ on := 4, ground := Go.Ground.data }, { on := 3, ground := Go.Ground.chain }, { on := 0, ground := Go.Ground.phase }, { on := 1, ground := Go.Ground.phase }, { on := 2, ground := Go.Ground.phase }, { on := 3, ground := Go.Ground.phase }, { on := 4, ground := Go.Ground.phase }], guard := none }) (v := ?v21) rfl (by kernel_rfl) (fun _ _ _ h => h) (Or.inl ⟨by rfl, ?hy21⟩) (by assumption) ?rest21
  case hy21 => (intro wz hSw; (try dsimp only at hSw); go_simp; try with_reducible rfl)
  (try simp only [Act.put, List.setIfInBounds_toArray, List.set_cons_zero, List.set_cons_succ])
  refine wpAnyM_done (by kernel_rfl) ?_ _
  go_wp2_with fail
  go_ret
  exact ⟨rfl, (HX.out _ HF3.out).2.2⟩
set_option maxHeartbeats 8000000 in
theorem eqPl_non (k n : Int) (f : Nat) (s : ByteArray) (ks : List ByteArray) (l : List GV) (k' n' : Int) (f' : Nat) (s' : ByteArray) (ks' : List ByteArray) (l' : List GV) (ka la ka' la' : Option Addr) (kc lc kc' lc' : Nat) (Z0 : Bool) (w : World)
    (h1 : RepStrs Any w (.slice ka ks.length kc) ks) (h2 : RepVals Any w (.slice la l.length lc) l) (h1' : RepStrs Any w (.slice ka' ks'.length kc') ks') (h2' : RepVals Any w (.slice la' l'.length lc') l') (hnum : (numK k && numK k') = false)
    (ih : ∀ (i : Nat) (x : GV), l[i]? = some x → EqPlOK x) (hZ : Z0 = (decide (k = k') && (decide (n = n') && (decide (s = s') && (decide (ks = ks') && eqGs eqPl l l'))))) :
    Calls Try.prog 144 #[.agg #[.int .i64 k, .int .i64 n, .float .f64 f, .string s, .slice ka ks.length kc, .slice la l.length lc], .agg #[.int .i64 k', .int .i64 n', .float .f64 f', .string s', .slice ka' ks'.length kc', .slice la' l'.length lc']] w fun e w' => e = .returned (.bool Z0) ∧ Ext w w' := by
  obtain ⟨_, kb, ko, _, e1, sz1, kat⟩ := h1.at'
  obtain ⟨_, kb', ko', _, e2, sz2, kat'⟩ := h1'.at'
  obtain ⟨_, lb, lo, _, e3, sz3, lat⟩ := h2.at'
  obtain ⟨_, lb', lo', _, e4, sz4, lat'⟩ := h2'.at'
  simp only [Value.slice.injEq, true_and] at e1 e2 e3 e4
  obtain ⟨rfl, rfl⟩ := e1
  obtain ⟨rfl, rfl⟩ := e2
  obtain ⟨rfl, rfl⟩ := e3
  obtain ⟨rfl, rfl⟩ := e4
  have HKA := hid kat
  have HKB := hid kat'
  have HLA := hid lat
  have HLB := hid lat'
  have HZ := hid hZ
  have HIH := hid ih
  obtain ⟨nb1, hz1⟩ : ∃ z, numK k = z := ⟨_, rfl⟩
  obtain ⟨nb2, hz2⟩ : ∃ z, numK k' = z := ⟨_, rfl⟩
  have HN1 := hid (fun W => number_any k n f s (.slice ka ks.length kc) (.slice la l.length lc) W)
  have HN2 := hid (fun W => number_any k' n' f' s' (.slice ka' ks'.length kc') (.slice la' l'.length lc') W)
  rw [hz1] at HN1 hnum
  rw [hz2] at HN2 hnum
  have tk : True := trivial
  have HX := hid (show ∀ W : World, Ext ((w.alloc (.cells #[.int .i64 k, .int .i64 n, .float .f64 f, .string s, .slice ka ks.length kc, .slice la l.length lc] 32)).alloc (.cells #[.int .i64 k', .int .i64 n', .float .f64 f', .string s', .slice ka' ks'.length kc', .slice la' l'.length lc'] 32)) W → W.heap[w.heap.size]? = some (.cells #[.int .i64 k, .int .i64 n, .float .f64 f, .string s, .slice ka ks.length kc, .slice la l.length lc] 32) ∧ W.heap[w.heap.size + 1]? = some (.cells #[.int .i64 k', .int .i64 n', .float .f64 f', .string s', .slice ka' ks'.length kc', .slice la' l'.length lc'] 32) ∧ Ext w W from fun W h => ⟨h.block (first_heap w _ _), h.block (second_heap w _ _), (((Ext.refl w).alloc _).alloc _).trans h⟩)
  clear h1 h2 h1' h2' kat kat' lat lat' hZ ih hz1 hz2
  go_enter Try.func144, Try.ntmps144
  go_upto_region 1 with fail
  have HE0 := hid (Ext.refl ((w.alloc (.cells #[.int .i64 k, .int .i64 n, .float .f64 f, .string s, .slice ka ks.length kc, .slice la l.length lc] 32)).alloc (.cells #[.int .i64 k', .int .i64 n', .float .f64 f', .string s', .slice ka' ks'.length kc', .slice la' l'.length lc'] 32)))
  generalize ((w.alloc (.cells #[.int .i64 k, .int .i64 n, .float .f64 f, .string s, .slice ka ks.length kc, .slice la l.length lc] 32)).alloc (.cells #[.int .i64 k', .int .i64 n', .float .f64 f', .string s', .slice ka' ks'.length kc', .slice la' l'.length lc'] 32)) = w1 at *
  obtain ⟨⟨z0, z1, z2, z3, z4, z5⟩, -⟩ := slot6 (HX.out _ HE0.out).1
  obtain ⟨⟨y0, y1, y2, y3, y4, y5⟩, -⟩ := slot6 (HX.out _ HE0.out).2.1
  have hzz : nb1 = false ∨ (nb1 = true ∧ nb2 = false) := by cases nb1 <;> cases nb2 <;> simp at hnum ⊢
  clear hnum
  go_cut [12] from 7 to 12 (fun s12 wx => s12 = .bool false ∧ Hid (Ext w1 wx))
  case first =>
    rcases hzz with rfl | ⟨rfl, rfl⟩
    · go_wp2_with (go_at_call 150; refine (HN1.out _).mono ?_; rintro e w2 ⟨rfl, hE⟩; have HE2 := hid (HE0.out.trans hE); clear hE)
      go_meet
      case rel => exact ⟨rfl, HE2⟩
    · go_wp2_with (first
        | (go_at_call 150; have _t := tk; refine (HN1.out _).mono ?_; rintro e w2 ⟨rfl, hE⟩; have HE2 := hid (HE0.out.trans hE); clear hE tk _t z0 z1 z2 z3 z4 z5 y0 y1 y2 y3 y4 y5; obtain ⟨⟨y0, y1, y2, y3, y4, y5⟩, -⟩ := slot6 (HX.out _ HE2.out).2.1)
        | (go_at_call 150; refine (HN2.out _).mono ?_; rintro e w3 ⟨rfl, hE⟩; have HE3 := hid (HE2.out.trans hE); clear hE))
      go_meet
      case rel => exact ⟨rfl, HE3⟩
  case rest =>
    obtain ⟨rfl, HE3⟩ := hcut
    rename World => w3
    clear z0 z1 z2 z3 z4 z5 y0 y1 y2 y3 y4 y5 tk HN1 HN2
    obtain ⟨⟨z0, z1, z2, z3, z4, z5⟩, -⟩ := slot6 (HX.out _ HE3.out).1
    obtain ⟨⟨y0, y1, y2, y3, y4, y5⟩, -⟩ := slot6 (HX.out _ HE3.out).2.1
    by_cases hk : k = k'
    case neg =>
      have e1 : (k != k') = true := by simp [hk]
      have RES := hid (show false = Z0 by rw [HZ.out]; rw [decide_eq_false hk]; rfl)
      go_wp2_with fail
      go_ret
      exact ⟨congrArg (fun z => Ending.returned (.bool z)) RES.out, (HX.out _ HE3.out).2.2⟩
    subst hk
    by_cases hn : n = n'
    case neg =>
      have e1 : (n != n') = true := by simp [hn]
      have RES := hid (show false = Z0 by rw [HZ.out]; rw [decide_eq_false hn]; simp)
      go_wp2_with fail
      go_ret
      exact ⟨congrArg (fun z => Ending.returned (.bool z)) RES.out, (HX.out _ HE3.out).2.2⟩
    subst hn
    by_cases hs : s = s'
    case neg =>
      have e1 : (s.toList == s'.toList) = false := by rw [ba_toList_beq, decide_eq_false hs]
      have RES := hid (show false = Z0 by rw [HZ.out]; rw [decide_eq_false hs]; simp)
      go_wp2_with fail
      go_ret
      exact ⟨congrArg (fun z => Ending.returned (.bool z)) RES.out, (HX.out _ HE3.out).2.2⟩
    subst hs
    by_cases hkl : ks.length = ks'.length
    case neg =>
      have e1 : ((ks.length : Int) != (ks'.length : Int)) = true := by simp; omega
      have RES := hid (show false = Z0 by rw [HZ.out]; rw [decide_eq_false (show ¬ ks = ks' from fun e => hkl (by rw [e]))]; simp)
      go_wp2_with fail
      go_ret
      exact ⟨congrArg (fun z => Ending.returned (.bool z)) RES.out, (HX.out _ HE3.out).2.2⟩
    by_cases hll : l.length = l'.length
    case neg =>
      have e1 : ((ks.length : Int) != (ks'.length : Int)) = false := by simp; omega
      have e2 : ((l.length : Int) != (l'.length : Int)) = true := by simp; omega
      have RES := hid (show false = Z0 by rw [HZ.out]; rw [eqGs_len hll]; simp)
      go_wp2_with fail
      go_ret
      exact ⟨congrArg (fun z => Ending.returned (.bool z)) RES.out, (HX.out _ HE3.out).2.2⟩
    have HKL := hid hkl
    have HLL := hid hll
    have e1 : ((ks.length : Int) != (ks'.length : Int)) = false := by simp; omega
    have e2 : ((l.length : Int) != (l'.length : Int)) = false := by simp; omega
    clear hkl hll
    go_wp2_with fail
    clear e1 e2 z0 z1 z2 z3 z4 z5 y0 y1 y2 y3 y4 y5
    go_loopw [69] (fun i wr => ∃ j : Nat, i = .int .i64 j ∧ j ≤ ks.length ∧ Hid (ks.take j = ks'.take j) ∧ Hid (Ext w1 wr)) (fun i _ => ks.length - (intOf i).toNat)
    case atStart => exact ⟨0, rfl, Nat.zero_le _, hid rfl, HE3⟩
    case round =>
      obtain ⟨j, rfl, hj, HP, HE⟩ := hrel
      by_cases hlt : j < ks.length
      · obtain ⟨x, hx⟩ : ∃ x, ks[j]? = some x := ⟨_, List.getElem?_eq_getElem hlt⟩
        obtain ⟨x', hx'⟩ : ∃ x, ks'[j]? = some x := ⟨_, List.getElem?_eq_getElem (by have := HKL.out; omega)⟩
        obtain ⟨rfl, c1, -⟩ := HKA.out j x hx
        obtain ⟨rfl, c2, -⟩ := HKB.out j x' hx'
        have K12 := hid (show ∀ W : World, Ext w1 W → (fun w' : World => w'.cell? ⟨w.heap.size, 4, none⟩ = some (.slice (some ⟨kb, ko, none⟩) ks.length kc) ∧ w'.cell? ⟨w.heap.size + 1, 4, none⟩ = some (.slice (some ⟨kb', ko', none⟩) ks'.length kc') ∧ w'.cell? ⟨kb, ko + j, none⟩ = some (.string x) ∧ w'.cell? ⟨kb', ko' + j, none⟩ = some (.string x')) W from fun W h => by
          obtain ⟨⟨-, -, -, -, z4, -⟩, -⟩ := slot6 (HX.out _ h).1
          obtain ⟨⟨-, -, -, -, y4, -⟩, -⟩ := slot6 (HX.out _ h).2.1
          exact ⟨z4, y4, (HX.out _ h).2.2.cellS c1, (HX.out _ h).2.2.cellS c2⟩)
        have HSN := hid (show ks.take (j + 1) = ks.take j ++ [x] ∧ ks'.take (j + 1) = ks'.take j ++ [x'] from ⟨take_snoc' hx, take_snoc' hx'⟩)
        have HXX := hid (And.intro hx hx')
        have HEd := hid (show Ext w1 wr.drew from HE.out.drew)
        have p0 : (0 : Int) ≤ (j : Int) := by omega
        have p1 : (j : Int) < (ks.length : Int) := by omega
        have p2 : (j : Int) < (ks'.length : Int) := by have := HKL.out; omega
        clear hx hx' c1 c2
        go_upto_region 12 with fail
        by_cases he : x = x'
        · have e1 : (x.toList == x'.toList) = true := by rw [ba_toList_beq, decide_eq_true he]
          have HEE := hid he
          clear he
          refine wp_region_late (fun w' : World => w'.cell? ⟨w.heap.size, 4, none⟩ = some (.slice (some ⟨kb, ko, none⟩) ks.length kc) ∧ w'.cell? ⟨w.heap.size + 1, 4, none⟩ = some (.slice (some ⟨kb', ko', none⟩) ks'.length kc') ∧ w'.cell? ⟨kb, ko + j, none⟩ = some (.string x) ∧ w'.cell? ⟨kb', ko' + j, none⟩ = some (.string x')) [] (by kernel_rfl) ?hS22 (fun hHeld => ?_)
          case hS22 => (exact K12.out _ HEd.out)
          generalize wr.drew = wd at *
          change wpAnyM _ _ _ _ _ _ 11 #[false, false, false, false, false, false, false, false, false, false, false] _ _
          refine wpAnyM_take (i := 0) (oi := { dst := some 72, op := Go.Op.fieldAddr 32 (Go.Operand.tmp 2) 4, type := 0, pos := "order.go:39", after := #[], guard := none }) (v := ?v23) rfl (by kernel_rfl) (fun _ _ _ h => h) (Or.inl ⟨by rfl, ?hy23⟩) (by assumption) ?rest23
          case hy23 => (intro wz hSw; (try dsimp only at hSw); go_simp; try with_reducible rfl)
          (try simp only [Act.put, List.setIfInBounds_toArray, List.set_cons_zero, List.set_cons_succ])
          refine wpAnyM_take (i := 1) (oi := { dst := some 73, op := Go.Op.load 26 (Go.Operand.tmp 72), type := 26, pos := "order.go:39", after := #[{ on := 0, ground := Go.Ground.data }], guard := none }) (v := ?v24) rfl (by kernel_rfl) (fun _ _ _ h => h) (Or.inl ⟨by rfl, ?hy24⟩) (by assumption) ?rest24
          case hy24 => (intro wz hSw; (try dsimp only at hSw); go_simp; try with_reducible rfl)
          (try simp only [Act.put, List.setIfInBounds_toArray, List.set_cons_zero, List.set_cons_succ])
          refine wpAnyM_take (i := 2) (oi := { dst := some 74, op := Go.Op.move (Go.Operand.tmp 5), type := 3, pos := "order.go:39", after := #[], guard := none }) (v := ?v25) rfl (by kernel_rfl) (fun _ _ _ h => h) (Or.inl ⟨by rfl, ?hy25⟩) (by assumption) ?rest25
          case hy25 => (intro wz hSw; (try dsimp only at hSw); go_simp; try with_reducible rfl)
          (try simp only [Act.put, List.setIfInBounds_toArray, List.set_cons_zero, List.set_cons_succ])
          refine wpAnyM_take (i := 3) (oi := { dst := some 75, op := Go.Op.indexAddr 26 (Go.Operand.tmp 73) (Go.Operand.tmp 74), type := 0, pos := "order.go:39", after := #[{ on := 1, ground := Go.Ground.data }, { on := 2, ground := Go.Ground.data }], guard := none }) (v := ?v26) rfl (by kernel_rfl) (fun _ _ _ h => h) (Or.inl ⟨by rfl, ?hy26⟩) (by assumption) ?rest26
          case hy26 => (intro wz hSw; (try dsimp only at hSw); go_simp; try with_reducible rfl)
          (try simp only [Act.put, List.setIfInBounds_toArray, List.set_cons_zero, List.set_cons_succ])
          refine wpAnyM_take (i := 4) (oi := { dst := some 76, op := Go.Op.load 9 (Go.Operand.tmp 75), type := 9, pos := "order.go:39", after := #[{ on := 3, ground := Go.Ground.data }], guard := none }) (v := ?v27) rfl (by kernel_rfl) (fun _ _ _ h => h) (Or.inl ⟨by rfl, ?hy27⟩) (by assumption) ?rest27
          case hy27 => (intro wz hSw; (try dsimp only at hSw); go_simp; try with_reducible rfl)
          (try simp only [Act.put, List.setIfInBounds_toArray, List.set_cons_zero, List.set_cons_succ])
          refine wpAnyM_take (i := 5) (oi := { dst := some 77, op := Go.Op.fieldAddr 32 (Go.Operand.tmp 3) 4, type := 0, pos := "order.go:39", after := #[], guard := none }) (v := ?v28) rfl (by kernel_rfl) (fun _ _ _ h => h) (Or.inl ⟨by rfl, ?hy28⟩) (by assumption) ?rest28
          case hy28 => (intro wz hSw; (try dsimp only at hSw); go_simp; try with_reducible rfl)
          (try simp only [Act.put, List.setIfInBounds_toArray, List.set_cons_zero, List.set_cons_succ])
          refine wpAnyM_take (i := 6) (oi := { dst := some 78, op := Go.Op.load 26 (Go.Operand.tmp 77), type := 26, pos := "order.go:39", after := #[{ on := 5, ground := Go.Ground.data }], guard := none }) (v := ?v29) rfl (by kernel_rfl) (fun _ _ _ h => h) (Or.inl ⟨by rfl, ?hy29⟩) (by assumption) ?rest29
          case hy29 => (intro wz hSw; (try dsimp only at hSw); go_simp; try with_reducible rfl)
          (try simp only [Act.put, List.setIfInBounds_toArray, List.set_cons_zero, List.set_cons_succ])
          refine wpAnyM_take (i := 7) (oi := { dst := some 79, op := Go.Op.move (Go.Operand.tmp 5), type := 3, pos := "order.go:39", after := #[], guard := none }) (v := ?v30) rfl (by kernel_rfl) (fun _ _ _ h => h) (Or.inl ⟨by rfl, ?hy30⟩) (by assumption) ?rest30
          case hy30 => (intro wz hSw; (try dsimp only at hSw); go_simp; try with_reducible rfl)
          (try simp only [Act.put, List.setIfInBounds_toArray, List.set_cons_zero, List.set_cons_succ])
          refine wpAnyM_take (i := 8) (oi := { dst := some 80, op := Go.Op.indexAddr 26 (Go.Operand.tmp 78) (Go.Operand.tmp 79), type := 0, pos := "order.go:39", after := #[{ on := 6, ground := Go.Ground.data }, { on := 7, ground := Go.Ground.data }], guard := none }) (v := ?v31) rfl (by kernel_rfl) (fun _ _ _ h => h) (Or.inl ⟨by rfl, ?hy31⟩) (by assumption) ?rest31
          case hy31 => (intro wz hSw; (try dsimp only at hSw); go_simp; try with_reducible rfl)
          (try simp only [Act.put, List.setIfInBounds_toArray, List.set_cons_zero, List.set_cons_succ])
          refine wpAnyM_take (i := 9) (oi := { dst := some 81, op := Go.Op.load 9 (Go.Operand.tmp 80), type := 9, pos := "order.go:39", after := #[{ on := 8, ground := Go.Ground.data }], guard := none }) (v := ?v32) rfl (by kernel_rfl) (fun _ _ _ h => h) (Or.inl ⟨by rfl, ?hy32⟩) (by assumption) ?rest32
          case hy32 => (intro wz hSw; (try dsimp only at hSw); go_simp; try with_reducible rfl)
          (try simp only [Act.put, List.setIfInBounds_toArray, List.set_cons_zero, List.set_cons_succ])
          refine wpAnyM_take (i := 10) (oi := { dst := some 82, op := Go.Op.binOp Go.BinOp.neq 9 (Go.Operand.tmp 76) (Go.Operand.tmp 81) 9, type := 4, pos := "order.go:39", after := #[{ on := 4, ground := Go.Ground.data }, { on := 9, ground := Go.Ground.data }], guard := none }) (v := ?v33) rfl (by kernel_rfl) (fun _ _ _ h => h) (Or.inl ⟨by rfl, ?hy33⟩) (by assumption) ?rest33
          case hy33 => (intro wz hSw; (try dsimp only at hSw); go_simp; try with_reducible rfl)
          (try simp only [Act.put, List.setIfInBounds_toArray, List.set_cons_zero, List.set_cons_succ])
          refine wpAnyM_done (by kernel_rfl) ?_ _
          go_wp2_with fail
          exact ⟨⟨j + 1, by go_num, by omega, hid (by rw [HSN.out.1, HSN.out.2, HP.out, HEE.out]), HEd⟩, by simp [intOf]; omega⟩
        · have e1 : (x.toList == x'.toList) = false := by rw [ba_toList_beq, decide_eq_false he]
          have RES := hid (show false = Z0 by rw [HZ.out]; rw [decide_eq_false (show ¬ ks = ks' from fun e => he (by have h1 := HXX.out.1; rw [e, HXX.out.2] at h1; exact (Option.some.inj h1).symm))]; simp)
          clear he
          refine wp_region_late (fun w' : World => w'.cell? ⟨w.heap.size, 4, none⟩ = some (.slice (some ⟨kb, ko, none⟩) ks.length kc) ∧ w'.cell? ⟨w.heap.size + 1, 4, none⟩ = some (.slice (some ⟨kb', ko', none⟩) ks'.length kc') ∧ w'.cell? ⟨kb, ko + j, none⟩ = some (.string x) ∧ w'.cell? ⟨kb', ko' + j, none⟩ = some (.string x')) [] (by kernel_rfl) ?hS34 (fun hHeld => ?_)
          case hS34 => (exact K12.out _ HEd.out)
          generalize wr.drew = wd at *
          change wpAnyM _ _ _ _ _ _ 11 #[false, false, false, false, false, false, false, false, false, false, false] _ _
          refine wpAnyM_take (i := 0) (oi := { dst := some 72, op := Go.Op.fieldAddr 32 (Go.Operand.tmp 2) 4, type := 0, pos := "order.go:39", after := #[], guard := none }) (v := ?v35) rfl (by kernel_rfl) (fun _ _ _ h => h) (Or.inl ⟨by rfl, ?hy35⟩) (by assumption) ?rest35
          case hy35 => (intro wz hSw; (try dsimp only at hSw); go_simp; try with_reducible rfl)
          (try simp only [Act.put, List.setIfInBounds_toArray, List.set_cons_zero, List.set_cons_succ])
          refine wpAnyM_take (i := 1) (oi := { dst := some 73, op := Go.Op.load 26 (Go.Operand.tmp 72), type := 26, pos := "order.go:39", after := #[{ on := 0, ground := Go.Ground.data }], guard := none }) (v := ?v36) rfl (by kernel_rfl) (fun _ _ _ h => h) (Or.inl ⟨by rfl, ?hy36⟩) (by assumption) ?rest36
          case hy36 => (intro wz hSw; (try dsimp only at hSw); go_simp; try with_reducible rfl)
          (try simp only [Act.put, List.setIfInBounds_toArray, List.set_cons_zero, List.set_cons_succ])
          refine wpAnyM_take (i := 2) (oi := { dst := some 74, op := Go.Op.move (Go.Operand.tmp 5), type := 3, pos := "order.go:39", after := #[], guard := none }) (v := ?v37) rfl (by kernel_rfl) (fun _ _ _ h => h) (Or.inl ⟨by rfl, ?hy37⟩) (by assumption) ?rest37
          case hy37 => (intro wz hSw; (try dsimp only at hSw); go_simp; try with_reducible rfl)
          (try simp only [Act.put, List.setIfInBounds_toArray, List.set_cons_zero, List.set_cons_succ])
          refine wpAnyM_take (i := 3) (oi := { dst := some 75, op := Go.Op.indexAddr 26 (Go.Operand.tmp 73) (Go.Operand.tmp 74), type := 0, pos := "order.go:39", after := #[{ on := 1, ground := Go.Ground.data }, { on := 2, ground := Go.Ground.data }], guard := none }) (v := ?v38) rfl (by kernel_rfl) (fun _ _ _ h => h) (Or.inl ⟨by rfl, ?hy38⟩) (by assumption) ?rest38
          case hy38 => (intro wz hSw; (try dsimp only at hSw); go_simp; try with_reducible rfl)
          (try simp only [Act.put, List.setIfInBounds_toArray, List.set_cons_zero, List.set_cons_succ])
          refine wpAnyM_take (i := 4) (oi := { dst := some 76, op := Go.Op.load 9 (Go.Operand.tmp 75), type := 9, pos := "order.go:39", after := #[{ on := 3, ground := Go.Ground.data }], guard := none }) (v := ?v39) rfl (by kernel_rfl) (fun _ _ _ h => h) (Or.inl ⟨by rfl, ?hy39⟩) (by assumption) ?rest39
          case hy39 => (intro wz hSw; (try dsimp only at hSw); go_simp; try with_reducible rfl)
          (try simp only [Act.put, List.setIfInBounds_toArray, List.set_cons_zero, List.set_cons_succ])
          refine wpAnyM_take (i := 5) (oi := { dst := some 77, op := Go.Op.fieldAddr 32 (Go.Operand.tmp 3) 4, type := 0, pos := "order.go:39", after := #[], guard := none }) (v := ?v40) rfl (by kernel_rfl) (fun _ _ _ h => h) (Or.inl ⟨by rfl, ?hy40⟩) (by assumption) ?rest40
          case hy40 => (intro wz hSw; (try dsimp only at hSw); go_simp; try with_reducible rfl)
          (try simp only [Act.put, List.setIfInBounds_toArray, List.set_cons_zero, List.set_cons_succ])
          refine wpAnyM_take (i := 6) (oi := { dst := some 78, op := Go.Op.load 26 (Go.Operand.tmp 77), type := 26, pos := "order.go:39", after := #[{ on := 5, ground := Go.Ground.data }], guard := none }) (v := ?v41) rfl (by kernel_rfl) (fun _ _ _ h => h) (Or.inl ⟨by rfl, ?hy41⟩) (by assumption) ?rest41
          case hy41 => (intro wz hSw; (try dsimp only at hSw); go_simp; try with_reducible rfl)
          (try simp only [Act.put, List.setIfInBounds_toArray, List.set_cons_zero, List.set_cons_succ])
          refine wpAnyM_take (i := 7) (oi := { dst := some 79, op := Go.Op.move (Go.Operand.tmp 5), type := 3, pos := "order.go:39", after := #[], guard := none }) (v := ?v42) rfl (by kernel_rfl) (fun _ _ _ h => h) (Or.inl ⟨by rfl, ?hy42⟩) (by assumption) ?rest42
          case hy42 => (intro wz hSw; (try dsimp only at hSw); go_simp; try with_reducible rfl)
          (try simp only [Act.put, List.setIfInBounds_toArray, List.set_cons_zero, List.set_cons_succ])
          refine wpAnyM_take (i := 8) (oi := { dst := some 80, op := Go.Op.indexAddr 26 (Go.Operand.tmp 78) (Go.Operand.tmp 79), type := 0, pos := "order.go:39", after := #[{ on := 6, ground := Go.Ground.data }, { on := 7, ground := Go.Ground.data }], guard := none }) (v := ?v43) rfl (by kernel_rfl) (fun _ _ _ h => h) (Or.inl ⟨by rfl, ?hy43⟩) (by assumption) ?rest43
          case hy43 => (intro wz hSw; (try dsimp only at hSw); go_simp; try with_reducible rfl)
          (try simp only [Act.put, List.setIfInBounds_toArray, List.set_cons_zero, List.set_cons_succ])
          refine wpAnyM_take (i := 9) (oi := { dst := some 81, op := Go.Op.load 9 (Go.Operand.tmp 80), type := 9, pos := "order.go:39", after := #[{ on := 8, ground := Go.Ground.data }], guard := none }) (v := ?v44) rfl (by kernel_rfl) (fun _ _ _ h => h) (Or.inl ⟨by rfl, ?hy44⟩) (by assumption) ?rest44
          case hy44 => (intro wz hSw; (try dsimp only at hSw); go_simp; try with_reducible rfl)
          (try simp only [Act.put, List.setIfInBounds_toArray, List.set_cons_zero, List.set_cons_succ])
          refine wpAnyM_take (i := 10) (oi := { dst := some 82, op := Go.Op.binOp Go.BinOp.neq 9 (Go.Operand.tmp 76) (Go.Operand.tmp 81) 9, type := 4, pos := "order.go:39", after := #[{ on := 4, ground := Go.Ground.data }, { on := 9, ground := Go.Ground.data }], guard := none }) (v := ?v45) rfl (by kernel_rfl) (fun _ _ _ h => h) (Or.inl ⟨by rfl, ?hy45⟩) (by assumption) ?rest45
          case hy45 => (intro wz hSw; (try dsimp only at hSw); go_simp; try with_reducible rfl)
          (try simp only [Act.put, List.setIfInBounds_toArray, List.set_cons_zero, List.set_cons_succ])
          refine wpAnyM_done (by kernel_rfl) ?_ _
          go_wp2_with fail
          go_ret
          exact ⟨congrArg (fun z => Ending.returned (.bool z)) RES.out, (HX.out _ HEd.out).2.2⟩
      · have HKS := hid (show ks = ks' by have h := HP.out; rw [List.take_of_length_le (by omega), List.take_of_length_le (by have := HKL.out; omega)] at h; exact h)
        have HE9 := hid HE.out
        clear HE HP
        obtain ⟨⟨z0, z1, z2, z3, z4, z5⟩, -⟩ := slot6 (HX.out _ HE9.out).1
        generalize wr = wq at *
        go_wp2_with fail
        clear z0 z1 z2 z3 z4 z5
        go_loopw [87] (fun i wr => ∃ j : Nat, i = .int .i64 j ∧ j ≤ l.length ∧ Hid (eqGs eqPl (l.drop j) (l'.drop j) = eqGs eqPl l l') ∧ Hid (Ext w1 wr)) (fun i _ => l.length - (intOf i).toNat)
        case atStart => exact ⟨0, rfl, Nat.zero_le _, hid rfl, HE9⟩
        case round =>
          clear hj hlt
          obtain ⟨j2, rfl, hj, HP, HE⟩ := hrel
          by_cases hlt : j2 < l.length
          · obtain ⟨g, hg⟩ : ∃ g, l[j2]? = some g := ⟨_, List.getElem?_eq_getElem hlt⟩
            obtain ⟨g', hg'⟩ : ∃ g, l'[j2]? = some g := ⟨_, List.getElem?_eq_getElem (by have := HLL.out; omega)⟩
            obtain ⟨rfl, r1, r2, r3, r4, r5, r6, r7, r8, r9, r10, c1, hR1⟩ := HLA.out j2 g hg
            obtain ⟨rfl, m1, m2, m3, m4, m5, m6, m7, m8, m9, m10, c2, hR2⟩ := HLB.out j2 g' hg'
            have hst := eqGs_step (z := eqPl) hg hg'
            rw [HP.out] at hst
            obtain ⟨b, hb⟩ : ∃ b, eqPl g g' = b := ⟨_, rfl⟩
            have HEQ := hid (fun (W : World) (E : Ext w W) => HIH.out j2 g hg g' W _ _ (hR1.ext E) (hR2.ext E))
            rw [hb] at HEQ hst
            have HST := hid hst
            have K18 := hid (show ∀ W : World, Ext w1 W → (fun w' : World => w'.cell? ⟨w.heap.size, 5, none⟩ = some (.slice (some ⟨lb, lo, none⟩) l.length lc) ∧ w'.cell? ⟨w.heap.size + 1, 5, none⟩ = some (.slice (some ⟨lb', lo', none⟩) l'.length lc') ∧ w'.cell? ⟨lb, lo + j2 * 6, none⟩ = some (.int .i64 r1) ∧ w'.cell? ⟨lb, lo + j2 * 6 + 1, none⟩ = some (.int .i64 r2) ∧ w'.cell? ⟨lb, lo + j2 * 6 + 2, none⟩ = some (.float .f64 r3) ∧ w'.cell? ⟨lb, lo + j2 * 6 + 3, none⟩ = some (.string r4) ∧ w'.cell? ⟨lb, lo + j2 * 6 + 4, none⟩ = some (.slice r5 r6 r7) ∧ w'.cell? ⟨lb, lo + j2 * 6 + 5, none⟩ = some (.slice r8 r9 r10) ∧ w'.cell? ⟨lb', lo' + j2 * 6, none⟩ = some (.int .i64 m1) ∧ w'.cell? ⟨lb', lo' + j2 * 6 + 1, none⟩ = some (.int .i64 m2) ∧ w'.cell? ⟨lb', lo' + j2 * 6 + 2, none⟩ = some (.float .f64 m3) ∧ w'.cell? ⟨lb', lo' + j2 * 6 + 3, none⟩ = some (.string m4) ∧ w'.cell? ⟨lb', lo' + j2 * 6 + 4, none⟩ = some (.slice m5 m6 m7) ∧ w'.cell? ⟨lb', lo' + j2 * 6 + 5, none⟩ = some (.slice m8 m9 m10)) W from fun W h => by
              obtain ⟨⟨-, -, -, -, -, z5⟩, -⟩ := slot6 (HX.out _ h).1
              obtain ⟨⟨-, -, -, -, -, y5⟩, -⟩ := slot6 (HX.out _ h).2.1
              obtain ⟨b0, b1, b2, b3, b4, b5⟩ := cells6 (cellsAt_ext (HX.out _ h).2.2 c1)
              obtain ⟨d0, d1, d2, d3, d4, d5⟩ := cells6 (cellsAt_ext (HX.out _ h).2.2 c2)
              exact ⟨z5, y5, b0, b1, b2, b3, b4, b5, d0, d1, d2, d3, d4, d5⟩)
            have HEd := hid (show Ext w1 wr.drew from HE.out.drew)
            have p0 : (0 : Int) ≤ (j2 : Int) := by omega
            have p1 : (j2 : Int) < (l.length : Int) := by omega
            have p2 : (j2 : Int) < (l'.length : Int) := by have := HLL.out; omega
            clear hg hg' c1 c2 hR1 hR2 hst hb
            go_upto_region 18 with fail
            cases b with
            | true =>
              refine wp_region_late (fun w' : World => w'.cell? ⟨w.heap.size, 5, none⟩ = some (.slice (some ⟨lb, lo, none⟩) l.length lc) ∧ w'.cell? ⟨w.heap.size + 1, 5, none⟩ = some (.slice (some ⟨lb', lo', none⟩) l'.length lc') ∧ w'.cell? ⟨lb, lo + j2 * 6, none⟩ = some (.int .i64 r1) ∧ w'.cell? ⟨lb, lo + j2 * 6 + 1, none⟩ = some (.int .i64 r2) ∧ w'.cell? ⟨lb, lo + j2 * 6 + 2, none⟩ = some (.float .f64 r3) ∧ w'.cell? ⟨lb, lo + j2 * 6 + 3, none⟩ = some (.string r4) ∧ w'.cell? ⟨lb, lo + j2 * 6 + 4, none⟩ = some (.slice r5 r6 r7) ∧ w'.cell? ⟨lb, lo + j2 * 6 + 5, none⟩ = some (.slice r8 r9 r10) ∧ w'.cell? ⟨lb', lo' + j2 * 6, none⟩ = some (.int .i64 m1) ∧ w'.cell? ⟨lb', lo' + j2 * 6 + 1, none⟩ = some (.int .i64 m2) ∧ w'.cell? ⟨lb', lo' + j2 * 6 + 2, none⟩ = some (.float .f64 m3) ∧ w'.cell? ⟨lb', lo' + j2 * 6 + 3, none⟩ = some (.string m4) ∧ w'.cell? ⟨lb', lo' + j2 * 6 + 4, none⟩ = some (.slice m5 m6 m7) ∧ w'.cell? ⟨lb', lo' + j2 * 6 + 5, none⟩ = some (.slice m8 m9 m10)) [] (by kernel_rfl) ?hS46 (fun hHeld => ?_)
              case hS46 => (exact K18.out _ HEd.out)
              generalize wr.drew = wd at *
              change wpAnyM _ _ _ _ _ _ 12 #[false, false, false, false, false, false, false, false, false, false, false, false] _ _
              refine wpAnyM_take (i := 0) (oi := { dst := some 90, op := Go.Op.fieldAddr 32 (Go.Operand.tmp 2) 5, type := 0, pos := "order.go:44", after := #[], guard := none }) (v := ?v47) rfl (by kernel_rfl) (fun _ _ _ h => h) (Or.inl ⟨by rfl, ?hy47⟩) (by assumption) ?rest47
              case hy47 => (intro wz hSw; (try dsimp only at hSw); go_simp; try with_reducible rfl)
              (try simp only [Act.put, List.setIfInBounds_toArray, List.set_cons_zero, List.set_cons_succ])
              refine wpAnyM_take (i := 1) (oi := { dst := some 91, op := Go.Op.load 27 (Go.Operand.tmp 90), type := 27, pos := "order.go:44", after := #[{ on := 0, ground := Go.Ground.data }], guard := none }) (v := ?v48) rfl (by kernel_rfl) (fun _ _ _ h => h) (Or.inl ⟨by rfl, ?hy48⟩) (by assumption) ?rest48
              case hy48 => (intro wz hSw; (try dsimp only at hSw); go_simp; try with_reducible rfl)
              (try simp only [Act.put, List.setIfInBounds_toArray, List.set_cons_zero, List.set_cons_succ])
              refine wpAnyM_take (i := 2) (oi := { dst := some 92, op := Go.Op.move (Go.Operand.tmp 6), type := 3, pos := "order.go:44", after := #[], guard := none }) (v := ?v49) rfl (by kernel_rfl) (fun _ _ _ h => h) (Or.inl ⟨by rfl, ?hy49⟩) (by assumption) ?rest49
              case hy49 => (intro wz hSw; (try dsimp only at hSw); go_simp; try with_reducible rfl)
              (try simp only [Act.put, List.setIfInBounds_toArray, List.set_cons_zero, List.set_cons_succ])
              refine wpAnyM_take (i := 3) (oi := { dst := some 93, op := Go.Op.indexAddr 27 (Go.Operand.tmp 91) (Go.Operand.tmp 92), type := 0, pos := "order.go:44", after := #[{ on := 1, ground := Go.Ground.data }, { on := 2, ground := Go.Ground.data }], guard := none }) (v := ?v50) rfl (by kernel_rfl) (fun _ _ _ h => h) (Or.inl ⟨by rfl, ?hy50⟩) (by assumption) ?rest50
              case hy50 => (intro wz hSw; (try dsimp only at hSw); go_simp; try with_reducible rfl)
              (try simp only [Act.put, List.setIfInBounds_toArray, List.set_cons_zero, List.set_cons_succ])
              refine wpAnyM_take (i := 4) (oi := { dst := some 94, op := Go.Op.load 32 (Go.Operand.tmp 93), type := 32, pos := "order.go:44", after := #[{ on := 3, ground := Go.Ground.data }], guard := none }) (v := ?v51) rfl (by kernel_rfl) (fun _ _ _ h => h) (Or.inl ⟨by rfl, ?hy51⟩) (by assumption) ?rest51
              case hy51 => (intro wz hSw; (try dsimp only at hSw); go_simp; try with_reducible rfl)
              (try simp only [Act.put, List.setIfInBounds_toArray, List.set_cons_zero, List.set_cons_succ])
              refine wpAnyM_take (i := 5) (oi := { dst := some 95, op := Go.Op.fieldAddr 32 (Go.Operand.tmp 3) 5, type := 0, pos := "order.go:44", after := #[], guard := none }) (v := ?v52) rfl (by kernel_rfl) (fun _ _ _ h => h) (Or.inl ⟨by rfl, ?hy52⟩) (by assumption) ?rest52
              case hy52 => (intro wz hSw; (try dsimp only at hSw); go_simp; try with_reducible rfl)
              (try simp only [Act.put, List.setIfInBounds_toArray, List.set_cons_zero, List.set_cons_succ])
              refine wpAnyM_take (i := 6) (oi := { dst := some 96, op := Go.Op.load 27 (Go.Operand.tmp 95), type := 27, pos := "order.go:44", after := #[{ on := 5, ground := Go.Ground.data }], guard := none }) (v := ?v53) rfl (by kernel_rfl) (fun _ _ _ h => h) (Or.inl ⟨by rfl, ?hy53⟩) (by assumption) ?rest53
              case hy53 => (intro wz hSw; (try dsimp only at hSw); go_simp; try with_reducible rfl)
              (try simp only [Act.put, List.setIfInBounds_toArray, List.set_cons_zero, List.set_cons_succ])
              refine wpAnyM_take (i := 7) (oi := { dst := some 97, op := Go.Op.move (Go.Operand.tmp 6), type := 3, pos := "order.go:44", after := #[], guard := none }) (v := ?v54) rfl (by kernel_rfl) (fun _ _ _ h => h) (Or.inl ⟨by rfl, ?hy54⟩) (by assumption) ?rest54
              case hy54 => (intro wz hSw; (try dsimp only at hSw); go_simp; try with_reducible rfl)
              (try simp only [Act.put, List.setIfInBounds_toArray, List.set_cons_zero, List.set_cons_succ])
              refine wpAnyM_take (i := 8) (oi := { dst := some 98, op := Go.Op.indexAddr 27 (Go.Operand.tmp 96) (Go.Operand.tmp 97), type := 0, pos := "order.go:44", after := #[{ on := 6, ground := Go.Ground.data }, { on := 7, ground := Go.Ground.data }], guard := none }) (v := ?v55) rfl (by kernel_rfl) (fun _ _ _ h => h) (Or.inl ⟨by rfl, ?hy55⟩) (by assumption) ?rest55
              case hy55 => (intro wz hSw; (try dsimp only at hSw); go_simp; try with_reducible rfl)
              (try simp only [Act.put, List.setIfInBounds_toArray, List.set_cons_zero, List.set_cons_succ])
              refine wpAnyM_take (i := 9) (oi := { dst := some 99, op := Go.Op.load 32 (Go.Operand.tmp 98), type := 32, pos := "order.go:44", after := #[{ on := 8, ground := Go.Ground.data }], guard := none }) (v := ?v56) rfl (by kernel_rfl) (fun _ _ _ h => h) (Or.inl ⟨by rfl, ?hy56⟩) (by assumption) ?rest56
              case hy56 => (intro wz hSw; (try dsimp only at hSw); go_simp; try with_reducible rfl)
              (try simp only [Act.put, List.setIfInBounds_toArray, List.set_cons_zero, List.set_cons_succ])
              refine wpAnyM_ready (rs := [10]) (by kernel_rfl) (by simp) ?_
              refine AllReadyM.cons (o := { dst := some 100, op := Go.Op.call { callee := Go.Callee.value (Go.Operand.func 144), args := #[Go.Operand.tmp 94, Go.Operand.tmp 99], argTypes := #[32, 32] }, type := 4, pos := "order.go:44", after := #[{ on := 4, ground := Go.Ground.data }, { on := 9, ground := Go.Ground.data }], guard := none }) rfl (fun K hK => ?_) AllReadyM.nil
              refine step_call _ rfl 144 [.tmp 94, .tmp 99] #[32, 32] rfl (by kernel_rfl) [_, _] rfl (HEQ.out wd (HX.out _ HEd.out).2.2) ?_
              rintro en wf ⟨rfl, hE⟩
              refine ⟨_, rfl, ?_⟩
              have HF := hid (HEd.out.trans hE)
              clear hE
              refine hK.out _ _ ?hS57 (fun hHeld => ?_)
              case hS57 => (exact K18.out _ HF.out)
              clear hK K
              (try simp only [Act.put, List.setIfInBounds_toArray, List.set_cons_zero, List.set_cons_succ])
              refine wpAnyM_take (i := 11) (oi := { dst := some 101, op := Go.Op.unOp Go.UnOp.not 4 (Go.Operand.tmp 100), type := 4, pos := "order.go:44", after := #[{ on := 10, ground := Go.Ground.data }], guard := none }) (v := ?v58) rfl (by kernel_rfl) (fun _ _ _ h => h) (Or.inl ⟨by rfl, ?hy58⟩) (by assumption) ?rest58
              case hy58 => (intro wz hSw; (try dsimp only at hSw); go_simp; try with_reducible rfl)
              (try simp only [Act.put, List.setIfInBounds_toArray, List.set_cons_zero, List.set_cons_succ])
              refine wpAnyM_done (by kernel_rfl) ?_ _
              go_wp2_with fail
              exact ⟨⟨j2 + 1, by go_num, by omega, hid (by have h := HST.out; simpa using h.symm), HF⟩, by simp [intOf]; omega⟩
            | false =>
              refine wp_region_late (fun w' : World => w'.cell? ⟨w.heap.size, 5, none⟩ = some (.slice (some ⟨lb, lo, none⟩) l.length lc) ∧ w'.cell? ⟨w.heap.size + 1, 5, none⟩ = some (.slice (some ⟨lb', lo', none⟩) l'.length lc') ∧ w'.cell? ⟨lb, lo + j2 * 6, none⟩ = some (.int .i64 r1) ∧ w'.cell? ⟨lb, lo + j2 * 6 + 1, none⟩ = some (.int .i64 r2) ∧ w'.cell? ⟨lb, lo + j2 * 6 + 2, none⟩ = some (.float .f64 r3) ∧ w'.cell? ⟨lb, lo + j2 * 6 + 3, none⟩ = some (.string r4) ∧ w'.cell? ⟨lb, lo + j2 * 6 + 4, none⟩ = some (.slice r5 r6 r7) ∧ w'.cell? ⟨lb, lo + j2 * 6 + 5, none⟩ = some (.slice r8 r9 r10) ∧ w'.cell? ⟨lb', lo' + j2 * 6, none⟩ = some (.int .i64 m1) ∧ w'.cell? ⟨lb', lo' + j2 * 6 + 1, none⟩ = some (.int .i64 m2) ∧ w'.cell? ⟨lb', lo' + j2 * 6 + 2, none⟩ = some (.float .f64 m3) ∧ w'.cell? ⟨lb', lo' + j2 * 6 + 3, none⟩ = some (.string m4) ∧ w'.cell? ⟨lb', lo' + j2 * 6 + 4, none⟩ = some (.slice m5 m6 m7) ∧ w'.cell? ⟨lb', lo' + j2 * 6 + 5, none⟩ = some (.slice m8 m9 m10)) [] (by kernel_rfl) ?hS59 (fun hHeld => ?_)
              case hS59 => (exact K18.out _ HEd.out)
              generalize wr.drew = wd at *
              change wpAnyM _ _ _ _ _ _ 12 #[false, false, false, false, false, false, false, false, false, false, false, false] _ _
              refine wpAnyM_take (i := 0) (oi := { dst := some 90, op := Go.Op.fieldAddr 32 (Go.Operand.tmp 2) 5, type := 0, pos := "order.go:44", after := #[], guard := none }) (v := ?v60) rfl (by kernel_rfl) (fun _ _ _ h => h) (Or.inl ⟨by rfl, ?hy60⟩) (by assumption) ?rest60
              case hy60 => (intro wz hSw; (try dsimp only at hSw); go_simp; try with_reducible rfl)
              (try simp only [Act.put, List.setIfInBounds_toArray, List.set_cons_zero, List.set_cons_succ])
              refine wpAnyM_take (i := 1) (oi := { dst := some 91, op := Go.Op.load 27 (Go.Operand.tmp 90), type := 27, pos := "order.go:44", after := #[{ on := 0, ground := Go.Ground.data }], guard := none }) (v := ?v61) rfl (by kernel_rfl) (fun _ _ _ h => h) (Or.inl ⟨by rfl, ?hy61⟩) (by assumption) ?rest61
              case hy61 => (intro wz hSw; (try dsimp only at hSw); go_simp; try with_reducible rfl)
              (try simp only [Act.put, List.setIfInBounds_toArray, List.set_cons_zero, List.set_cons_succ])
              refine wpAnyM_take (i := 2) (oi := { dst := some 92, op := Go.Op.move (Go.Operand.tmp 6), type := 3, pos := "order.go:44", after := #[], guard := none }) (v := ?v62) rfl (by kernel_rfl) (fun _ _ _ h => h) (Or.inl ⟨by rfl, ?hy62⟩) (by assumption) ?rest62
              case hy62 => (intro wz hSw; (try dsimp only at hSw); go_simp; try with_reducible rfl)
              (try simp only [Act.put, List.setIfInBounds_toArray, List.set_cons_zero, List.set_cons_succ])
              refine wpAnyM_take (i := 3) (oi := { dst := some 93, op := Go.Op.indexAddr 27 (Go.Operand.tmp 91) (Go.Operand.tmp 92), type := 0, pos := "order.go:44", after := #[{ on := 1, ground := Go.Ground.data }, { on := 2, ground := Go.Ground.data }], guard := none }) (v := ?v63) rfl (by kernel_rfl) (fun _ _ _ h => h) (Or.inl ⟨by rfl, ?hy63⟩) (by assumption) ?rest63
              case hy63 => (intro wz hSw; (try dsimp only at hSw); go_simp; try with_reducible rfl)
              (try simp only [Act.put, List.setIfInBounds_toArray, List.set_cons_zero, List.set_cons_succ])
              refine wpAnyM_take (i := 4) (oi := { dst := some 94, op := Go.Op.load 32 (Go.Operand.tmp 93), type := 32, pos := "order.go:44", after := #[{ on := 3, ground := Go.Ground.data }], guard := none }) (v := ?v64) rfl (by kernel_rfl) (fun _ _ _ h => h) (Or.inl ⟨by rfl, ?hy64⟩) (by assumption) ?rest64
              case hy64 => (intro wz hSw; (try dsimp only at hSw); go_simp; try with_reducible rfl)
              (try simp only [Act.put, List.setIfInBounds_toArray, List.set_cons_zero, List.set_cons_succ])
              refine wpAnyM_take (i := 5) (oi := { dst := some 95, op := Go.Op.fieldAddr 32 (Go.Operand.tmp 3) 5, type := 0, pos := "order.go:44", after := #[], guard := none }) (v := ?v65) rfl (by kernel_rfl) (fun _ _ _ h => h) (Or.inl ⟨by rfl, ?hy65⟩) (by assumption) ?rest65
              case hy65 => (intro wz hSw; (try dsimp only at hSw); go_simp; try with_reducible rfl)
              (try simp only [Act.put, List.setIfInBounds_toArray, List.set_cons_zero, List.set_cons_succ])
              refine wpAnyM_take (i := 6) (oi := { dst := some 96, op := Go.Op.load 27 (Go.Operand.tmp 95), type := 27, pos := "order.go:44", after := #[{ on := 5, ground := Go.Ground.data }], guard := none }) (v := ?v66) rfl (by kernel_rfl) (fun _ _ _ h => h) (Or.inl ⟨by rfl, ?hy66⟩) (by assumption) ?rest66
              case hy66 => (intro wz hSw; (try dsimp only at hSw); go_simp; try with_reducible rfl)
              (try simp only [Act.put, List.setIfInBounds_toArray, List.set_cons_zero, List.set_cons_succ])
              refine wpAnyM_take (i := 7) (oi := { dst := some 97, op := Go.Op.move (Go.Operand.tmp 6), type := 3, pos := "order.go:44", after := #[], guard := none }) (v := ?v67) rfl (by kernel_rfl) (fun _ _ _ h => h) (Or.inl ⟨by rfl, ?hy67⟩) (by assumption) ?rest67
              case hy67 => (intro wz hSw; (try dsimp only at hSw); go_simp; try with_reducible rfl)
              (try simp only [Act.put, List.setIfInBounds_toArray, List.set_cons_zero, List.set_cons_succ])
              refine wpAnyM_take (i := 8) (oi := { dst := some 98, op := Go.Op.indexAddr 27 (Go.Operand.tmp 96) (Go.Operand.tmp 97), type := 0, pos := "order.go:44", after := #[{ on := 6, ground := Go.Ground.data }, { on := 7, ground := Go.Ground.data }], guard := none }) (v := ?v68) rfl (by kernel_rfl) (fun _ _ _ h => h) (Or.inl ⟨by rfl, ?hy68⟩) (by assumption) ?rest68
              case hy68 => (intro wz hSw; (try dsimp only at hSw); go_simp; try with_reducible rfl)
              (try simp only [Act.put, List.setIfInBounds_toArray, List.set_cons_zero, List.set_cons_succ])
              refine wpAnyM_take (i := 9) (oi := { dst := some 99, op := Go.Op.load 32 (Go.Operand.tmp 98), type := 32, pos := "order.go:44", after := #[{ on := 8, ground := Go.Ground.data }], guard := none }) (v := ?v69) rfl (by kernel_rfl) (fun _ _ _ h => h) (Or.inl ⟨by rfl, ?hy69⟩) (by assumption) ?rest69
              case hy69 => (intro wz hSw; (try dsimp only at hSw); go_simp; try with_reducible rfl)
              (try simp only [Act.put, List.setIfInBounds_toArray, List.set_cons_zero, List.set_cons_succ])
              refine wpAnyM_ready (rs := [10]) (by kernel_rfl) (by simp) ?_
              refine AllReadyM.cons (o := { dst := some 100, op := Go.Op.call { callee := Go.Callee.value (Go.Operand.func 144), args := #[Go.Operand.tmp 94, Go.Operand.tmp 99], argTypes := #[32, 32] }, type := 4, pos := "order.go:44", after := #[{ on := 4, ground := Go.Ground.data }, { on := 9, ground := Go.Ground.data }], guard := none }) rfl (fun K hK => ?_) AllReadyM.nil
              refine step_call _ rfl 144 [.tmp 94, .tmp 99] #[32, 32] rfl (by kernel_rfl) [_, _] rfl (HEQ.out wd (HX.out _ HEd.out).2.2) ?_
              rintro en wf ⟨rfl, hE⟩
              refine ⟨_, rfl, ?_⟩
              have HF := hid (HEd.out.trans hE)
              clear hE
              refine hK.out _ _ ?hS70 (fun hHeld => ?_)
              case hS70 => (exact K18.out _ HF.out)
              clear hK K
              (try simp only [Act.put, List.setIfInBounds_toArray, List.set_cons_zero, List.set_cons_succ])
              refine wpAnyM_take (i := 11) (oi := { dst := some 101, op := Go.Op.unOp Go.UnOp.not 4 (Go.Operand.tmp 100), type := 4, pos := "order.go:44", after := #[{ on := 10, ground := Go.Ground.data }], guard := none }) (v := ?v71) rfl (by kernel_rfl) (fun _ _ _ h => h) (Or.inl ⟨by rfl, ?hy71⟩) (by assumption) ?rest71
              case hy71 => (intro wz hSw; (try dsimp only at hSw); go_simp; try with_reducible rfl)
              (try simp only [Act.put, List.setIfInBounds_toArray, List.set_cons_zero, List.set_cons_succ])
              refine wpAnyM_done (by kernel_rfl) ?_ _
              go_wp2_with fail
              go_ret
              exact ⟨congrArg (fun z => Ending.returned (.bool z)) (show false = Z0 by rw [HZ.out, HST.out]; simp), (HX.out _ HF.out).2.2⟩
          · have RES := hid (show true = Z0 by
              have h := HP.out
              rw [List.drop_eq_nil_of_le (by omega), List.drop_eq_nil_of_le (by have := HLL.out; omega)] at h
              rw [HZ.out, ← h, HKS.out]
              simp [eqGs])
            go_wp2_with fail
            go_ret
            exact ⟨congrArg (fun z => Ending.returned (.bool z)) RES.out, (HX.out _ HE.out).2.2⟩
theorem eqPl_of (a : GV) (ih : ∀ (i : Nat) (x : GV), a.l[i]? = some x → EqPlOK x) : EqPlOK a := by
  intro b w ca cb hA hB
  obtain ⟨a1, b1, c1, a2, b2, c2, rfl, h1, h2, -⟩ := hA.inv
  obtain ⟨a1', b1', c1', a2', b2', c2', rfl, h1', h2', -⟩ := hB.inv
  have e := eqPl_def a b
  by_cases hn : (numK a.kind && numK b.kind) = true
  · rw [if_pos hn] at e
    rw [Bool.and_eq_true] at hn
    have two : ∀ {k : Int}, numK k = true → k = 2 ∨ k = 3 := fun h => by unfold numK at h; simpa using h
    rw [e]
    rcases two hn.1 with hk | hk <;> rcases two hn.2 with hk' | hk' <;> rw [hk, hk']
    · exact eqPl_22 _ _ _ _ _ _ _ _ _ _ w
    · exact eqPl_23 _ _ _ _ _ _ _ _ _ _ w
    · exact eqPl_32 _ _ _ _ _ _ _ _ _ _ w
    · exact eqPl_33 _ _ _ _ _ _ _ _ _ _ w
  · rw [if_neg hn] at e
    obtain ⟨_, _, _, _, e1, -, -⟩ := h1.at'
    obtain ⟨_, _, _, _, e2, -, -⟩ := h2.at'
    obtain ⟨_, _, _, _, e3, -, -⟩ := h1'.at'
    obtain ⟨_, _, _, _, e4, -, -⟩ := h2'.at'
    simp only [Value.slice.injEq] at e1 e2 e3 e4
    obtain ⟨-, rfl, -⟩ := e1
    obtain ⟨-, rfl, -⟩ := e2
    obtain ⟨-, rfl, -⟩ := e3
    obtain ⟨-, rfl, -⟩ := e4
    exact eqPl_non _ _ _ _ _ _ _ _ _ _ _ _ _ _ _ _ _ _ _ _ _ w h1 h2 h1' h2' (by simpa using hn) ih e
theorem eqPl_ok : ∀ (N : Nat) (g : GV), SizeOf.sizeOf g ≤ N → EqPlOK g := by
  intro N
  induction N with
  | zero => intro g h; cases g; simp at h
  | succ N ih => exact fun g h => eqPl_of g fun i x hx => ih x (by have := GV.size_l hx; omega)
theorem eqPl_any (g : GV) : EqPlOK g := eqPl_ok _ g (Nat.le_refl _)
end Go.Proofs.Ytempfaefopfobaa
end

/- EqPl: how the reference holds two values in plain form equal, in plain Lean; it is how the package holds the two trees equal. -/
section
namespace Go.Proofs.Ytempfaefopfobaa
open Go.ChangeShapes Go.WideShapes Go.ChangeAt Go.RowKit
set_option linter.unusedVariables false
set_option linter.unusedSimpArgs false

theorem eqGs_map (l1 l2 : List Tree) (h : ∀ a ∈ l1, ∀ b ∈ l2, eqPl (fromT a) (fromT b) = eqT a b) : eqGs eqPl (l1.map fromT) (l2.map fromT) = eqLs eqT l1 l2 := by
  induction l1 generalizing l2 with
  | nil => cases l2 <;> rfl
  | cons a x ih =>
    cases l2 with
    | nil => rfl
    | cons b y =>
      simp only [List.map_cons, eqGs, eqLs]
      rw [h a (by simp) b (by simp), ih y fun a' ha b' hb => h a' (by simp [ha]) b' (by simp [hb])]
theorem eqLs_get {z : Tree → Tree → Bool} : ∀ {l1 l2 : List Tree}, eqLs z l1 l2 = true ↔ l1.length = l2.length ∧ ∀ (i : Nat) a b, l1[i]? = some a → l2[i]? = some b → z a b = true
  | [], [] => by simp [eqLs]
  | [], _ :: _ => by simp [eqLs]
  | _ :: _, [] => by simp [eqLs]
  | a :: x, b :: y => by
    simp only [eqLs, Bool.and_eq_true]
    rw [eqLs_get (l1 := x) (l2 := y)]
    constructor
    · rintro ⟨h1, h2, h3⟩
      refine ⟨by simpa using h2, fun i c d hc hd => ?_⟩
      cases i with
      | zero => simp at hc hd; subst hc hd; exact h1
      | succ i => exact h3 i c d (by simpa using hc) (by simpa using hd)
    · rintro ⟨h1, h2⟩
      exact ⟨h2 0 a b rfl rfl, by simpa using h1, fun i c d hc hd => h2 (i + 1) c d (by simpa using hc) (by simpa using hd)⟩
theorem nodup_permB : ∀ {a b : List ByteArray}, a.Nodup → (∀ i ∈ a, i ∈ b) → b.length ≤ a.length → a.Perm b := by
  intro a
  induction a with
  | nil => intro b _ _ hl; simp at hl; subst hl; exact List.Perm.nil
  | cons x a ih =>
    intro b h hb hl
    rw [List.nodup_cons] at h
    have hx : x ∈ b := hb x (by simp)
    have hsub : ∀ i ∈ a, i ∈ b.erase x := by
      intro i hi
      refine (List.mem_erase_of_ne ?_).2 (hb i (by simp [hi]))
      intro e; subst e; exact h.1 hi
    have h0 : 0 < b.length := List.length_pos_of_mem hx
    have h1 := ih h.2 hsub (by rw [List.length_erase_of_mem hx]; simp at hl; omega)
    exact (List.Perm.cons x h1).trans (List.perm_cons_erase hx).symm
theorem mem_len_perm {a b : List ByteArray} (hb : b.Nodup) (ha : a.Nodup) (hl : a.length = b.length) (h : ∀ x ∈ b, x ∈ a) : a.Perm b :=
  (nodup_permB hb h (by omega)).symm
theorem eqMs_srt (m1 m2 : List (ByteArray × Tree)) (h1 : (m1.map (·.1)).Nodup) (h2 : (m2.map (·.1)).Nodup) :
    eqMs eqT m1 m2 = (decide (sortN (m1.map (·.1)) = sortN (m2.map (·.1))) && eqLs eqT ((srt m1).map (·.2)) ((srt m2).map (·.2))) := by
  rw [Bool.eq_iff_iff, Bool.and_eq_true, decide_eq_true_iff, eqLs_get]
  unfold eqMs
  rw [Bool.and_eq_true, decide_eq_true_iff, List.all_eq_true]
  have look : ∀ {m : List (ByteArray × Tree)} {q : ByteArray × Tree}, (m.map (·.1)).Nodup → q ∈ m → lookKV m q.1 = some q.2 := by
    intro m q hn hq
    obtain ⟨t, ht, hm⟩ := lookKV_some (List.mem_map_of_mem (f := (·.1)) hq)
    rw [ht]
    induction m with
    | nil => cases hq
    | cons p m ih =>
      rw [List.map_cons, List.nodup_cons] at hn
      rcases List.mem_cons.1 hq with rfl | hq
      · simp [lookKV] at ht; rw [ht]
      · have hne : p.1 ≠ q.1 := fun e => hn.1 (e ▸ List.mem_map_of_mem (f := (·.1)) hq)
        rw [lookKV, if_neg hne] at ht
        exact ih hn.2 hq ht (lookKV_in ht)
  constructor
  · rintro ⟨hl, hall⟩
    have hsub : ∀ x ∈ m2.map (·.1), x ∈ m1.map (·.1) := by
      intro x hx
      obtain ⟨q, hq, rfl⟩ := List.mem_map.1 hx
      have := hall q hq
      unfold eqOne at this
      cases hk : lookKV m1 q.1 with
      | none => rw [hk] at this; cases this
      | some t => exact List.mem_map_of_mem (f := (·.1)) (lookKV_in hk)
    have hp := mem_len_perm h2 h1 (by simpa using hl) hsub
    have hs : sortN (m1.map (·.1)) = sortN (m2.map (·.1)) := sortN_eq h2 (sortN_sorted _ h1) ((sortN_perm _).trans hp)
    refine ⟨hs, by simp [srt_length, hl], fun i a b ha hb => ?_⟩
    rw [List.getElem?_map] at ha hb
    obtain ⟨p, hp1, rfl⟩ := Option.map_eq_some_iff.1 ha
    obtain ⟨q, hq1, rfl⟩ := Option.map_eq_some_iff.1 hb
    have e : p.1 = q.1 := by
      have e1 : ((srt m1).map (·.1))[i]? = some p.1 := by rw [List.getElem?_map, hp1]; rfl
      have e2 : ((srt m2).map (·.1))[i]? = some q.1 := by rw [List.getElem?_map, hq1]; rfl
      rw [srt_keys] at e1 e2
      rw [hs, e2] at e1
      exact (Option.some.inj e1).symm
    have k1 := srt_look (List.mem_of_getElem? hp1)
    have k2 := lookKV_in (srt_look (List.mem_of_getElem? hq1))
    have := hall _ k2
    unfold eqOne at this
    rw [← e, k1] at this
    exact this
  · rintro ⟨hs, hlen, hall⟩
    have hp : (m1.map (·.1)).Perm (m2.map (·.1)) := (sortN_perm _).symm.trans (hs ▸ sortN_perm _)
    refine ⟨by simpa using hp.length_eq, fun q hq => ?_⟩
    have hq1 := look h2 hq
    obtain ⟨i, hi⟩ := List.mem_iff_getElem?.1 ((sortN_perm _).mem_iff.2 (List.mem_map_of_mem (f := (·.1)) hq))
    have e2 : (srt m2)[i]? = some (q.1, q.2) := by unfold srt; rw [List.getElem?_map, hi]; simp [hq1]
    have hi1 := hi
    rw [← hs] at hi1
    obtain ⟨a, ha, _⟩ := lookKV_some ((sortN_perm _).mem_iff.1 (List.mem_of_getElem? hi1))
    have e1 : (srt m1)[i]? = some (q.1, a) := by unfold srt; rw [List.getElem?_map, hi1]; simp [ha]
    have := hall i a q.2 (by rw [List.getElem?_map, e1]; rfl) (by rw [List.getElem?_map, e2]; rfl)
    unfold eqOne
    rw [ha]; exact this
theorem numK_of (t : Tree) : numK (fromT t).kind = (match t with | .int _ => true | .flt _ => true | _ => false) := by cases t <;> rfl
theorem eqPl_tree : ∀ (N : Nat) (t1 t2 : Tree), SizeOf.sizeOf t1 ≤ N → WfT t1 → WfT t2 → eqPl (fromT t1) (fromT t2) = eqT t1 t2
  | 0, t1, _, h, _, _ => by have := t1.size_pos; omega
  | N + 1, t1, t2, h, w1, w2 => by
    rw [eqPl_def]
    cases w1 <;> cases w2 <;> (first | (obtain ⟨n, e1, e2⟩ := eqT_succ _ _; rw [e2]; first | rfl | (simp [numK, fromT, GV.kind, GV.n, GV.f, GV.s, GV.keys, GV.l, eqF, zeroG]; done)) | skip)
    case bool.bool a b =>
      obtain ⟨n, e1, e2⟩ := eqT_succ (.bool a) (.bool b)
      rw [e2]
      show (if (false && false) = true then _ else decide ((1 : Int) = 1) && (decide ((if a then (1 : Int) else 0) = if b then 1 else 0) && (decide (ByteArray.empty = ByteArray.empty) && (decide (([] : List ByteArray) = []) && true)))) = (a == b)
      cases a <;> cases b <;> simp
    case str.str a b =>
      obtain ⟨n, e1, e2⟩ := eqT_succ (.str a) (.str b)
      rw [e2]
      show (if (false && false) = true then _ else decide ((4 : Int) = 4) && (decide ((0 : Int) = 0) && (decide (a = b) && (decide (([] : List ByteArray) = []) && true)))) = (a.toList == b.toList)
      rw [ba_toList_beq]
      simp
    case list.list l1 h1 l2 h2 =>
      rw [eqT_list]
      show (if (false && false) = true then _ else decide ((5 : Int) = 5) && (decide ((0 : Int) = 0) && (decide (ByteArray.empty = ByteArray.empty) && (decide (([] : List ByteArray) = []) && eqGs eqPl (fromTs l1) (fromTs l2))))) = _
      rw [fromTs_eq, fromTs_eq, eqGs_map l1 l2 fun a ha b hb => eqPl_tree N a b (by have := Tree.mem_list ha; omega) (h1 a ha) (h2 b hb)]
      simp
    case map.map m1 n1 h1 m2 n2 h2 =>
      rw [eqT_map, eqMs_srt m1 m2 n1 n2]
      show (if (false && false) = true then _ else decide ((6 : Int) = 6) && (decide ((0 : Int) = 0) && (decide (ByteArray.empty = ByteArray.empty) && (decide (sortN (m1.map (·.1)) = sortN (m2.map (·.1))) && eqGs eqPl ((sortN (m1.map (·.1))).map (lookG (fromTm m1))) ((sortN (m2.map (·.1))).map (lookG (fromTm m2))))))) = _
      rw [srt_vals, srt_vals, show (srt m1).map (fun p => fromT p.2) = ((srt m1).map (·.2)).map fromT by rw [List.map_map]; rfl, show (srt m2).map (fun p => fromT p.2) = ((srt m2).map (·.2)).map fromT by rw [List.map_map]; rfl]
      rw [eqGs_map _ _ fun a ha b hb => by
        obtain ⟨p, hp, rfl⟩ := List.mem_map.1 ha
        obtain ⟨q, hq, rfl⟩ := List.mem_map.1 hb
        have hp' := srt_mem hp
        exact eqPl_tree N p.2 q.2 (by have := Tree.size_map (k := p.1) (t := p.2) hp'; omega) (h1 p hp') (h2 q (srt_mem hq))]
      simp
theorem eqPl_eqT (a b : GV) : eqPl (cleanG a) (cleanG b) = eqT (plainT a) (plainT b) := by
  rw [clean_eq, clean_eq]
  exact eqPl_tree _ _ _ (Nat.le_refl _) (wfT a) (wfT b)
end Go.Proofs.Ytempfaefopfobaa
end

/- SpecEqu: spec.EqualValues, EqualKeys, EqualElems, HasPrefix, EqualPaths. -/
section
set_option maxRecDepth 100000
namespace Go.Proofs.Ytempfaefopfobaa
open Go.ChangeShapes Go.WideShapes Go.ChangeAt Go.RowKit
set_option linter.unusedVariables false
set_option linter.unusedSimpArgs false
theorem step_callW {P : Program} {ops : Array Oper} {o : Oper} {a : Act} {K : Act → World → Prop} {Q : Exit → Act → World → Prop} {E : Prop} (w : World) (hgd : Region.wanted o (yielded ops a.tmps) = true) (f : FuncId) (xs : List Operand) (tys : Array TypeId)
    (ho : o.op = .call { callee := .value (.func f), args := xs.toArray, argTypes := tys }) (hf : (P.funcs[f]?).map (fun fn => (fn.name == "runtime.NumGoroutine", fn.body.isSome)) = some (false, true))
    (vs : List Value) (hvs : xs.map a.eval = vs) {post : Ending → World → Prop} (hc : Calls P f vs.toArray w post)
    (h : ∀ e w', post e w' → ∃ v, e = .returned v ∧ K (a.put o.dst v) w') : if Region.wanted o (yielded ops a.tmps) = true then Oper.wp P o a w K Q else E := by
  have := step_call (E := E) (ops := ops) (o := { o with guard := none }) (K := K) (Q := Q) (a := a) w rfl f xs tys ho hf vs hvs hc h
  rw [if_pos (by simp [Region.wanted])] at this
  rw [if_pos hgd]
  exact this
set_option maxHeartbeats 2000000 in
theorem specEqV (ga gb : GV) (w : World) (ca cb : List Value) (hA : RepGV Any w ga ca) (hB : RepGV Any w gb cb) : Calls Try.prog 133 #[.agg ca.toArray, .agg cb.toArray] w fun e w' => e = .returned (.bool (eqT (plainT ga) (plainT gb))) ∧ Ext w w' := by
  rw [← eqPl_eqT]
  have HA := hid hA
  have HB := hid hB
  obtain ⟨p1, p2, p3, p4, p5, p6, p7, p8, p9, p10, rfl⟩ := hA.form
  obtain ⟨q1, q2, q3, q4, q5, q6, q7, q8, q9, q10, rfl⟩ := hB.form
  clear hA hB
  have HX := hid (show ∀ W : World, Ext ((w.alloc (.cells #[.int .i64 p1, .int .i64 p2, .float .f64 p3, .string p4, .slice p5 p6 p7, .slice p8 p9 p10] 32)).alloc (.cells #[.int .i64 q1, .int .i64 q2, .float .f64 q3, .string q4, .slice q5 q6 q7, .slice q8 q9 q10] 32)) W → W.heap[w.heap.size]? = some (.cells #[.int .i64 p1, .int .i64 p2, .float .f64 p3, .string p4, .slice p5 p6 p7, .slice p8 p9 p10] 32) ∧ W.heap[w.heap.size + 1]? = some (.cells #[.int .i64 q1, .int .i64 q2, .float .f64 q3, .string q4, .slice q5 q6 q7, .slice q8 q9 q10] 32) ∧ Ext w W from fun W h => ⟨h.block (first_heap w _ _), h.block (second_heap w _ _), (((Ext.refl w).alloc _).alloc _).trans h⟩)
  go_enter Try.func133, Try.ntmps133
  go_upto_region 1 with fail
  have HEd := hid (show Ext ((w.alloc (.cells #[.int .i64 p1, .int .i64 p2, .float .f64 p3, .string p4, .slice p5 p6 p7, .slice p8 p9 p10] 32)).alloc (.cells #[.int .i64 q1, .int .i64 q2, .float .f64 q3, .string q4, .slice q5 q6 q7, .slice q8 q9 q10] 32)) ((w.alloc (.cells #[.int .i64 p1, .int .i64 p2, .float .f64 p3, .string p4, .slice p5 p6 p7, .slice p8 p9 p10] 32)).alloc (.cells #[.int .i64 q1, .int .i64 q2, .float .f64 q3, .string q4, .slice q5 q6 q7, .slice q8 q9 q10] 32)).drew from (Ext.refl _).drew)
  generalize ((w.alloc (.cells #[.int .i64 p1, .int .i64 p2, .float .f64 p3, .string p4, .slice p5 p6 p7, .slice p8 p9 p10] 32)).alloc (.cells #[.int .i64 q1, .int .i64 q2, .float .f64 q3, .string q4, .slice q5 q6 q7, .slice q8 q9 q10] 32)) = w1 at *
  refine wp_region_late (fun w' : World => w'.cell? ⟨w.heap.size, 0, none⟩ = some (.int .i64 p1) ∧ w'.cell? ⟨w.heap.size, 1, none⟩ = some (.int .i64 p2) ∧ w'.cell? ⟨w.heap.size, 2, none⟩ = some (.float .f64 p3) ∧ w'.cell? ⟨w.heap.size, 3, none⟩ = some (.string p4) ∧ w'.cell? ⟨w.heap.size, 4, none⟩ = some (.slice p5 p6 p7) ∧ w'.cell? ⟨w.heap.size, 5, none⟩ = some (.slice p8 p9 p10) ∧ w'.cell? ⟨w.heap.size + 1, 0, none⟩ = some (.int .i64 q1) ∧ w'.cell? ⟨w.heap.size + 1, 1, none⟩ = some (.int .i64 q2) ∧ w'.cell? ⟨w.heap.size + 1, 2, none⟩ = some (.float .f64 q3) ∧ w'.cell? ⟨w.heap.size + 1, 3, none⟩ = some (.string q4) ∧ w'.cell? ⟨w.heap.size + 1, 4, none⟩ = some (.slice q5 q6 q7) ∧ w'.cell? ⟨w.heap.size + 1, 5, none⟩ = some (.slice q8 q9 q10)) [] (by kernel_rfl) ?hS1 (fun hHeld => ?_)
  case hS1 => (obtain ⟨⟨z0, z1, z2, z3, z4, z5⟩, -⟩ := slot6 (HX.out _ HEd.out).1; obtain ⟨⟨y0, y1, y2, y3, y4, y5⟩, -⟩ := slot6 (HX.out _ HEd.out).2.1; exact ⟨z0, z1, z2, z3, z4, z5, y0, y1, y2, y3, y4, y5⟩)
  generalize w1.drew = wd at *
  change wpAnyM _ _ _ _ _ _ 6 #[false, false, false, false, false, false] _ _
  refine wpAnyM_take (i := 0) (oi := { dst := some 5, op := Go.Op.load 32 (Go.Operand.tmp 2), type := 32, pos := "order.go:21", after := #[], guard := none }) (v := ?v2) rfl (by kernel_rfl) (fun _ _ _ h => h) (Or.inl ⟨by rfl, ?hy2⟩) (by assumption) ?rest2
  case hy2 => (intro wz hSw; (try dsimp only at hSw); go_simp; try with_reducible rfl)
  (try simp only [Act.put, List.setIfInBounds_toArray, List.set_cons_zero, List.set_cons_succ])
  refine wpAnyM_take (i := 2) (oi := { dst := some 7, op := Go.Op.load 32 (Go.Operand.tmp 3), type := 32, pos := "order.go:21", after := #[], guard := none }) (v := ?v3) rfl (by kernel_rfl) (fun _ _ _ h => h) (Or.inl ⟨by rfl, ?hy3⟩) (by assumption) ?rest3
  case hy3 => (intro wz hSw; (try dsimp only at hSw); go_simp; try with_reducible rfl)
  (try simp only [Act.put, List.setIfInBounds_toArray, List.set_cons_zero, List.set_cons_succ])
  refine wpAnyM_ready (rs := [1]) (by kernel_rfl) (by simp) ?_
  refine AllReadyM.cons (o := { dst := some 6, op := Go.Op.call { callee := Go.Callee.value (Go.Operand.func 32), args := #[Go.Operand.tmp 5], argTypes := #[32] }, type := 32, pos := "order.go:21", after := #[{ on := 0, ground := Go.Ground.data }], guard := none }) rfl (fun K hK => ?_) AllReadyM.nil
  refine step_call _ rfl 32 [.tmp 5] #[32] rfl (by kernel_rfl) [_] rfl (clean_any ga _ _ (HA.out.ext (HX.out _ HEd.out).2.2)) ?_
  rintro en w2 ⟨cs, rfl, hT, hE⟩
  obtain ⟨r1, r2, r3, r4, r5, r6, r7, r8, r9, r10, rfl⟩ := hT.form
  refine ⟨_, rfl, ?_⟩
  have HT1 := hid (hT.weak (S' := Any) (fun _ _ _ => trivial))
  have HF1 := hid (HEd.out.trans hE)
  clear hT hE
  refine hK.out _ _ ?hS4 (fun hHeld => ?_)
  case hS4 => (obtain ⟨⟨z0, z1, z2, z3, z4, z5⟩, -⟩ := slot6 (HX.out _ HF1.out).1; obtain ⟨⟨y0, y1, y2, y3, y4, y5⟩, -⟩ := slot6 (HX.out _ HF1.out).2.1; exact ⟨z0, z1, z2, z3, z4, z5, y0, y1, y2, y3, y4, y5⟩)
  clear hK K
  (try simp only [Act.put, List.setIfInBounds_toArray, List.set_cons_zero, List.set_cons_succ])
  refine wpAnyM_ready (rs := [3]) (by kernel_rfl) (by simp) ?_
  refine AllReadyM.cons (o := { dst := some 8, op := Go.Op.call { callee := Go.Callee.value (Go.Operand.func 32), args := #[Go.Operand.tmp 7], argTypes := #[32] }, type := 32, pos := "order.go:21", after := #[{ on := 2, ground := Go.Ground.data }, { on := 1, ground := Go.Ground.chain }], guard := none }) rfl (fun K hK => ?_) AllReadyM.nil
  refine step_call _ rfl 32 [.tmp 7] #[32] rfl (by kernel_rfl) [_] rfl (clean_any gb _ _ (HB.out.ext (HX.out _ HF1.out).2.2)) ?_
  rintro en w3 ⟨cs, rfl, hT, hE⟩
  obtain ⟨m1, m2, m3, m4, m5, m6, m7, m8, m9, m10, rfl⟩ := hT.form
  refine ⟨_, rfl, ?_⟩
  have HT2 := hid (hT.weak (S' := Any) (fun _ _ _ => trivial))
  have HT1' := hid (HT1.out.ext hE)
  have HF3 := hid (HF1.out.trans hE)
  clear hT hE
  refine hK.out _ _ ?hS5 (fun hHeld => ?_)
  case hS5 => (obtain ⟨⟨z0, z1, z2, z3, z4, z5⟩, -⟩ := slot6 (HX.out _ HF3.out).1; obtain ⟨⟨y0, y1, y2, y3, y4, y5⟩, -⟩ := slot6 (HX.out _ HF3.out).2.1; exact ⟨z0, z1, z2, z3, z4, z5, y0, y1, y2, y3, y4, y5⟩)
  clear hK K
  (try simp only [Act.put, List.setIfInBounds_toArray, List.set_cons_zero, List.set_cons_succ])
  refine wpAnyM_ready (rs := [4]) (by kernel_rfl) (by simp) ?_
  refine AllReadyM.cons (o := { dst := some 9, op := Go.Op.call { callee := Go.Callee.value (Go.Operand.func 144), args := #[Go.Operand.tmp 6, Go.Operand.tmp 8], argTypes := #[32, 32] }, type := 4, pos := "order.go:21", after := #[{ on := 1, ground := Go.Ground.data }, { on := 3, ground := Go.Ground.data }, { on := 3, ground := Go.Ground.chain }], guard := none }) rfl (fun K hK => ?_) AllReadyM.nil
  refine step_call _ rfl 144 [.tmp 6, .tmp 8] #[32, 32] rfl (by kernel_rfl) [_, _] rfl (eqPl_any (cleanG ga) (cleanG gb) _ _ _ HT1'.out HT2.out) ?_
  rintro en w4 ⟨rfl, hE⟩
  refine ⟨_, rfl, ?_⟩
  have HF4 := hid (HF3.out.trans hE)
  clear hE
  refine hK.out _ _ ?hS6 (fun hHeld => ?_)
  case hS6 => (obtain ⟨⟨z0, z1, z2, z3, z4, z5⟩, -⟩ := slot6 (HX.out _ HF4.out).1; obtain ⟨⟨y0, y1, y2, y3, y4, y5⟩, -⟩ := slot6 (HX.out _ HF4.out).2.1; exact ⟨z0, z1, z2, z3, z4, z5, y0, y1, y2, y3, y4, y5⟩)
  clear hK K
  (try simp only [Act.put, List.setIfInBounds_toArray, List.set_cons_zero, List.set_cons_succ])
  refine wpAnyM_take (i := 5) (oi := { dst := some 4, op := Go.Op.assign (Go.Operand.tmp 9), type := 4, pos := "order.go:21", after := #[{ on := 4, ground := Go.Ground.data }, { on := 4, ground := Go.Ground.chain }, { on := 0, ground := Go.Ground.phase }, { on := 1, ground := Go.Ground.phase }, { on := 2, ground := Go.Ground.phase }, { on := 3, ground := Go.Ground.phase }, { on := 4, ground := Go.Ground.phase }], guard := none }) (v := ?v7) rfl (by kernel_rfl) (fun _ _ _ h => h) (Or.inl ⟨by rfl, ?hy7⟩) (by assumption) ?rest7
  case hy7 => (intro wz hSw; (try dsimp only at hSw); go_simp; try with_reducible rfl)
  (try simp only [Act.put, List.setIfInBounds_toArray, List.set_cons_zero, List.set_cons_succ])
  refine wpAnyM_done (by kernel_rfl) ?_ _
  go_wp2_with fail
  go_ret
  exact ⟨rfl, (HX.out _ HF4.out).2.2⟩
theorem keyT_get {e : GE} {j : Nat} {s : ByteArray} {g : GV} (h1 : e.keys[j]? = some s) (h2 : e.l[j]? = some g) : (keyT e)[j]? = some (s, plainT g) := by
  unfold keyT
  rw [List.getElem?_zip_eq_some]
  exact ⟨h1, by rw [plainTs_eq, List.getElem?_map, h2]; rfl⟩
set_option maxHeartbeats 8000000 in
theorem specEqK (ea eb : GE) (w : World) (ca cb : List Value) (hA : RepGE Any w ea ca) (hB : RepGE Any w eb cb) : Calls Try.prog 132 #[.agg ca.toArray, .agg cb.toArray] w fun e w' => e = .returned (.bool (eqFs eqT (keyT ea) (keyT eb))) ∧ Ext w w' := by
  obtain ⟨xa, xc, xb, xd, v0, v1, v2, v3, v4, v5, rfl, -, -, -, hk1, hl1, hv1⟩ := hA
  obtain ⟨p1, p2, p3, p4, p5, p6, p7, p8, p9, p10, e1⟩ := hv1.form
  simp only [List.cons.injEq, and_true] at e1
  obtain ⟨rfl, rfl, rfl, rfl, rfl, rfl⟩ := e1
  obtain ⟨ya, yc, yb, yd, v0, v1, v2, v3, v4, v5, rfl, -, -, -, hk2, hl2, hv2⟩ := hB
  obtain ⟨q1, q2, q3, q4, q5, q6, q7, q8, q9, q10, e1⟩ := hv2.form
  simp only [List.cons.injEq, and_true] at e1
  obtain ⟨rfl, rfl, rfl, rfl, rfl, rfl⟩ := e1
  obtain ⟨_, kb, ko, _, e1, sz1, kat⟩ := hk1.at'
  obtain ⟨_, kb', ko', _, e2, sz2, kat'⟩ := hk2.at'
  obtain ⟨_, lb, lo, _, e3, sz3, lat⟩ := hl1.at'
  obtain ⟨_, lb', lo', _, e4, sz4, lat'⟩ := hl2.at'
  simp only [Value.slice.injEq, true_and] at e1 e2 e3 e4
  obtain ⟨rfl, rfl⟩ := e1
  obtain ⟨rfl, rfl⟩ := e2
  obtain ⟨rfl, rfl⟩ := e3
  obtain ⟨rfl, rfl⟩ := e4
  have HKA := hid kat
  have HKB := hid kat'
  have HLA := hid lat
  have HLB := hid lat'
  obtain ⟨m1, hm1⟩ : ∃ m, m = min ea.keys.length ea.l.length := ⟨_, rfl⟩
  obtain ⟨m2, hm2⟩ : ∃ m, m = min eb.keys.length eb.l.length := ⟨_, rfl⟩
  have HL1 := hid (show (keyT ea).length = m1 by unfold keyT; rw [List.length_zip, plainTs_length]; omega)
  have HL2 := hid (show (keyT eb).length = m2 by unfold keyT; rw [List.length_zip, plainTs_length]; omega)
  have hma : (if ea.l.length < ea.keys.length then (ea.l.length : Int) else (ea.keys.length : Int)) = (m1 : Int) := by split <;> omega
  have hmb : (if eb.l.length < eb.keys.length then (eb.l.length : Int) else (eb.keys.length : Int)) = (m2 : Int) := by split <;> omega
  have h1a : m1 ≤ ea.keys.length := by omega
  have h1b : m1 ≤ ea.l.length := by omega
  have h2a : m2 ≤ eb.keys.length := by omega
  have h2b : m2 ≤ eb.l.length := by omega
  have HX := hid (show ∀ W : World, Ext ((w.alloc (.cells #[.int .i64 ea.kind, .string ea.s, .slice xa ea.keys.length xc, .slice xb ea.l.length xd, .int .i64 p1, .int .i64 p2, .float .f64 p3, .string p4, .slice p5 p6 p7, .slice p8 p9 p10, .int .i64 ea.n] 34)).alloc (.cells #[.int .i64 eb.kind, .string eb.s, .slice ya eb.keys.length yc, .slice yb eb.l.length yd, .int .i64 q1, .int .i64 q2, .float .f64 q3, .string q4, .slice q5 q6 q7, .slice q8 q9 q10, .int .i64 eb.n] 34)) W → W.heap[w.heap.size]? = some (.cells #[.int .i64 ea.kind, .string ea.s, .slice xa ea.keys.length xc, .slice xb ea.l.length xd, .int .i64 p1, .int .i64 p2, .float .f64 p3, .string p4, .slice p5 p6 p7, .slice p8 p9 p10, .int .i64 ea.n] 34) ∧ W.heap[w.heap.size + 1]? = some (.cells #[.int .i64 eb.kind, .string eb.s, .slice ya eb.keys.length yc, .slice yb eb.l.length yd, .int .i64 q1, .int .i64 q2, .float .f64 q3, .string q4, .slice q5 q6 q7, .slice q8 q9 q10, .int .i64 eb.n] 34) ∧ Ext w W from fun W h => ⟨h.block (first_heap w _ _), h.block (second_heap w _ _), (((Ext.refl w).alloc _).alloc _).trans h⟩)
  clear hv1 hv2 hk1 hk2 hl1 hl2 kat kat' lat lat' hm1 hm2
  go_enter Try.func132, Try.ntmps132
  go_upto_region 1 with fail
  have HEd := hid (show Ext ((w.alloc (.cells #[.int .i64 ea.kind, .string ea.s, .slice xa ea.keys.length xc, .slice xb ea.l.length xd, .int .i64 p1, .int .i64 p2, .float .f64 p3, .string p4, .slice p5 p6 p7, .slice p8 p9 p10, .int .i64 ea.n] 34)).alloc (.cells #[.int .i64 eb.kind, .string eb.s, .slice ya eb.keys.length yc, .slice yb eb.l.length yd, .int .i64 q1, .int .i64 q2, .float .f64 q3, .string q4, .slice q5 q6 q7, .slice q8 q9 q10, .int .i64 eb.n] 34)) ((w.alloc (.cells #[.int .i64 ea.kind, .string ea.s, .slice xa ea.keys.length xc, .slice xb ea.l.length xd, .int .i64 p1, .int .i64 p2, .float .f64 p3, .string p4, .slice p5 p6 p7, .slice p8 p9 p10, .int .i64 ea.n] 34)).alloc (.cells #[.int .i64 eb.kind, .string eb.s, .slice ya eb.keys.length yc, .slice yb eb.l.length yd, .int .i64 q1, .int .i64 q2, .float .f64 q3, .string q4, .slice q5 q6 q7, .slice q8 q9 q10, .int .i64 eb.n] 34)).drew from (Ext.refl _).drew)
  generalize ((w.alloc (.cells #[.int .i64 ea.kind, .string ea.s, .slice xa ea.keys.length xc, .slice xb ea.l.length xd, .int .i64 p1, .int .i64 p2, .float .f64 p3, .string p4, .slice p5 p6 p7, .slice p8 p9 p10, .int .i64 ea.n] 34)).alloc (.cells #[.int .i64 eb.kind, .string eb.s, .slice ya eb.keys.length yc, .slice yb eb.l.length yd, .int .i64 q1, .int .i64 q2, .float .f64 q3, .string q4, .slice q5 q6 q7, .slice q8 q9 q10, .int .i64 eb.n] 34)) = w1 at *
  refine wp_region_late (fun w' : World => w'.cell? ⟨w.heap.size, 0, none⟩ = some (.int .i64 ea.kind) ∧ w'.cell? ⟨w.heap.size, 1, none⟩ = some (.string ea.s) ∧ w'.cell? ⟨w.heap.size, 2, none⟩ = some (.slice xa ea.keys.length xc) ∧ w'.cell? ⟨w.heap.size, 3, none⟩ = some (.slice xb ea.l.length xd) ∧ w'.cell? ⟨w.heap.size, 4, none⟩ = some (.int .i64 p1) ∧ w'.cell? ⟨w.heap.size, 5, none⟩ = some (.int .i64 p2) ∧ w'.cell? ⟨w.heap.size, 6, none⟩ = some (.float .f64 p3) ∧ w'.cell? ⟨w.heap.size, 7, none⟩ = some (.string p4) ∧ w'.cell? ⟨w.heap.size, 8, none⟩ = some (.slice p5 p6 p7) ∧ w'.cell? ⟨w.heap.size, 9, none⟩ = some (.slice p8 p9 p10) ∧ w'.cell? ⟨w.heap.size, 10, none⟩ = some (.int .i64 ea.n) ∧ w'.cell? ⟨w.heap.size + 1, 0, none⟩ = some (.int .i64 eb.kind) ∧ w'.cell? ⟨w.heap.size + 1, 1, none⟩ = some (.string eb.s) ∧ w'.cell? ⟨w.heap.size + 1, 2, none⟩ = some (.slice ya eb.keys.length yc) ∧ w'.cell? ⟨w.heap.size + 1, 3, none⟩ = some (.slice yb eb.l.length yd) ∧ w'.cell? ⟨w.heap.size + 1, 4, none⟩ = some (.int .i64 q1) ∧ w'.cell? ⟨w.heap.size + 1, 5, none⟩ = some (.int .i64 q2) ∧ w'.cell? ⟨w.heap.size + 1, 6, none⟩ = some (.float .f64 q3) ∧ w'.cell? ⟨w.heap.size + 1, 7, none⟩ = some (.string q4) ∧ w'.cell? ⟨w.heap.size + 1, 8, none⟩ = some (.slice q5 q6 q7) ∧ w'.cell? ⟨w.heap.size + 1, 9, none⟩ = some (.slice q8 q9 q10) ∧ w'.cell? ⟨w.heap.size + 1, 10, none⟩ = some (.int .i64 eb.n)) [] (by kernel_rfl) ?hS8 (fun hHeld => ?_)
  case hS8 => (obtain ⟨⟨z0, z1, z2, z3, z4, z5, z6, z7, z8, z9, z10⟩, -⟩ := slot11 (HX.out _ HEd.out).1; obtain ⟨⟨y0, y1, y2, y3, y4, y5, y6, y7, y8, y9, y10⟩, -⟩ := slot11 (HX.out _ HEd.out).2.1; exact ⟨z0, z1, z2, z3, z4, z5, z6, z7, z8, z9, z10, y0, y1, y2, y3, y4, y5, y6, y7, y8, y9, y10⟩)
  generalize w1.drew = wd at *
  change wpAnyM _ _ _ _ _ _ 16 #[false, false, false, false, false, false, false, false, false, false, false, false, false, false, false, false] _ _
  refine wpAnyM_take (i := 0) (oi := { dst := some 8, op := Go.Op.fieldAddr 34 (Go.Operand.tmp 2) 2, type := 0, pos := "path.go:88", after := #[], guard := none }) (v := ?v9) rfl (by kernel_rfl) (fun _ _ _ h => h) (Or.inl ⟨by rfl, ?hy9⟩) (by assumption) ?rest9
  case hy9 => (intro wz hSw; (try dsimp only at hSw); go_simp; try with_reducible rfl)
  (try simp only [Act.put, List.setIfInBounds_toArray, List.set_cons_zero, List.set_cons_succ])
  refine wpAnyM_take (i := 1) (oi := { dst := some 9, op := Go.Op.load 26 (Go.Operand.tmp 8), type := 26, pos := "path.go:88", after := #[{ on := 0, ground := Go.Ground.data }], guard := none }) (v := ?v10) rfl (by kernel_rfl) (fun _ _ _ h => h) (Or.inl ⟨by rfl, ?hy10⟩) (by assumption) ?rest10
  case hy10 => (intro wz hSw; (try dsimp only at hSw); go_simp; try with_reducible rfl)
  (try simp only [Act.put, List.setIfInBounds_toArray, List.set_cons_zero, List.set_cons_succ])
  refine wpAnyM_take (i := 2) (oi := { dst := some 10, op := Go.Op.call { callee := Go.Callee.builtin Go.Builtin.len, args := #[Go.Operand.tmp 9], argTypes := #[26] }, type := 3, pos := "path.go:88", after := #[{ on := 1, ground := Go.Ground.data }], guard := none }) (v := ?v11) rfl (by kernel_rfl) (fun _ _ _ h => h) (Or.inl ⟨by rfl, ?hy11⟩) (by assumption) ?rest11
  case hy11 => (intro wz hSw; (try dsimp only at hSw); go_simp; try with_reducible rfl)
  (try simp only [Act.put, List.setIfInBounds_toArray, List.set_cons_zero, List.set_cons_succ])
  refine wpAnyM_take (i := 3) (oi := { dst := some 11, op := Go.Op.fieldAddr 34 (Go.Operand.tmp 2) 3, type := 0, pos := "path.go:88", after := #[], guard := none }) (v := ?v12) rfl (by kernel_rfl) (fun _ _ _ h => h) (Or.inl ⟨by rfl, ?hy12⟩) (by assumption) ?rest12
  case hy12 => (intro wz hSw; (try dsimp only at hSw); go_simp; try with_reducible rfl)
  (try simp only [Act.put, List.setIfInBounds_toArray, List.set_cons_zero, List.set_cons_succ])
  refine wpAnyM_take (i := 4) (oi := { dst := some 12, op := Go.Op.load 27 (Go.Operand.tmp 11), type := 27, pos := "path.go:88", after := #[{ on := 3, ground := Go.Ground.data }], guard := none }) (v := ?v13) rfl (by kernel_rfl) (fun _ _ _ h => h) (Or.inl ⟨by rfl, ?hy13⟩) (by assumption) ?rest13
  case hy13 => (intro wz hSw; (try dsimp only at hSw); go_simp; try with_reducible rfl)
  (try simp only [Act.put, List.setIfInBounds_toArray, List.set_cons_zero, List.set_cons_succ])
  refine wpAnyM_take (i := 5) (oi := { dst := some 13, op := Go.Op.call { callee := Go.Callee.builtin Go.Builtin.len, args := #[Go.Operand.tmp 12], argTypes := #[27] }, type := 3, pos := "path.go:88", after := #[{ on := 4, ground := Go.Ground.data }], guard := none }) (v := ?v14) rfl (by kernel_rfl) (fun _ _ _ h => h) (Or.inl ⟨by rfl, ?hy14⟩) (by assumption) ?rest14
  case hy14 => (intro wz hSw; (try dsimp only at hSw); go_simp; try with_reducible rfl)
  (try simp only [Act.put, List.setIfInBounds_toArray, List.set_cons_zero, List.set_cons_succ])
  refine wpAnyM_take (i := 6) (oi := { dst := some 14, op := Go.Op.call { callee := Go.Callee.builtin Go.Builtin.min, args := #[Go.Operand.tmp 10, Go.Operand.tmp 13], argTypes := #[3, 3] }, type := 3, pos := "path.go:88", after := #[{ on := 2, ground := Go.Ground.data }, { on := 5, ground := Go.Ground.data }], guard := none }) (v := ?v15) rfl (by kernel_rfl) (fun _ _ _ h => h) (Or.inl ⟨by rfl, ?hy15⟩) (by assumption) ?rest15
  case hy15 => (intro wz hSw; (try dsimp only at hSw); go_simp; try with_reducible rfl)
  (try simp only [Act.put, List.setIfInBounds_toArray, List.set_cons_zero, List.set_cons_succ])
  refine wpAnyM_take (i := 7) (oi := { dst := some 15, op := Go.Op.fieldAddr 34 (Go.Operand.tmp 3) 2, type := 0, pos := "path.go:88", after := #[], guard := none }) (v := ?v16) rfl (by kernel_rfl) (fun _ _ _ h => h) (Or.inl ⟨by rfl, ?hy16⟩) (by assumption) ?rest16
  case hy16 => (intro wz hSw; (try dsimp only at hSw); go_simp; try with_reducible rfl)
  (try simp only [Act.put, List.setIfInBounds_toArray, List.set_cons_zero, List.set_cons_succ])
  refine wpAnyM_take (i := 8) (oi := { dst := some 16, op := Go.Op.load 26 (Go.Operand.tmp 15), type := 26, pos := "path.go:88", after := #[{ on := 7, ground := Go.Ground.data }], guard := none }) (v := ?v17) rfl (by kernel_rfl) (fun _ _ _ h => h) (Or.inl ⟨by rfl, ?hy17⟩) (by assumption) ?rest17
  case hy17 => (intro wz hSw; (try dsimp only at hSw); go_simp; try with_reducible rfl)
  (try simp only [Act.put, List.setIfInBounds_toArray, List.set_cons_zero, List.set_cons_succ])
  refine wpAnyM_take (i := 9) (oi := { dst := some 17, op := Go.Op.call { callee := Go.Callee.builtin Go.Builtin.len, args := #[Go.Operand.tmp 16], argTypes := #[26] }, type := 3, pos := "path.go:88", after := #[{ on := 8, ground := Go.Ground.data }], guard := none }) (v := ?v18) rfl (by kernel_rfl) (fun _ _ _ h => h) (Or.inl ⟨by rfl, ?hy18⟩) (by assumption) ?rest18
  case hy18 => (intro wz hSw; (try dsimp only at hSw); go_simp; try with_reducible rfl)
  (try simp only [Act.put, List.setIfInBounds_toArray, List.set_cons_zero, List.set_cons_succ])
  refine wpAnyM_take (i := 10) (oi := { dst := some 18, op := Go.Op.fieldAddr 34 (Go.Operand.tmp 3) 3, type := 0, pos := "path.go:88", after := #[], guard := none }) (v := ?v19) rfl (by kernel_rfl) (fun _ _ _ h => h) (Or.inl ⟨by rfl, ?hy19⟩) (by assumption) ?rest19
  case hy19 => (intro wz hSw; (try dsimp only at hSw); go_simp; try with_reducible rfl)
  (try simp only [Act.put, List.setIfInBounds_toArray, List.set_cons_zero, List.set_cons_succ])
  refine wpAnyM_take (i := 11) (oi := { dst := some 19, op := Go.Op.load 27 (Go.Operand.tmp 18), type := 27, pos := "path.go:88", after := #[{ on := 10, ground := Go.Ground.data }], guard := none }) (v := ?v20) rfl (by kernel_rfl) (fun _ _ _ h => h) (Or.inl ⟨by rfl, ?hy20⟩) (by assumption) ?rest20
  case hy20 => (intro wz hSw; (try dsimp only at hSw); go_simp; try with_reducible rfl)
  (try simp only [Act.put, List.setIfInBounds_toArray, List.set_cons_zero, List.set_cons_succ])
  refine wpAnyM_take (i := 12) (oi := { dst := some 20, op := Go.Op.call { callee := Go.Callee.builtin Go.Builtin.len, args := #[Go.Operand.tmp 19], argTypes := #[27] }, type := 3, pos := "path.go:88", after := #[{ on := 11, ground := Go.Ground.data }], guard := none }) (v := ?v21) rfl (by kernel_rfl) (fun _ _ _ h => h) (Or.inl ⟨by rfl, ?hy21⟩) (by assumption) ?rest21
  case hy21 => (intro wz hSw; (try dsimp only at hSw); go_simp; try with_reducible rfl)
  (try simp only [Act.put, List.setIfInBounds_toArray, List.set_cons_zero, List.set_cons_succ])
  refine wpAnyM_take (i := 13) (oi := { dst := some 21, op := Go.Op.call { callee := Go.Callee.builtin Go.Builtin.min, args := #[Go.Operand.tmp 17, Go.Operand.tmp 20], argTypes := #[3, 3] }, type := 3, pos := "path.go:88", after := #[{ on := 9, ground := Go.Ground.data }, { on := 12, ground := Go.Ground.data }], guard := none }) (v := ?v22) rfl (by kernel_rfl) (fun _ _ _ h => h) (Or.inl ⟨by rfl, ?hy22⟩) (by assumption) ?rest22
  case hy22 => (intro wz hSw; (try dsimp only at hSw); go_simp; try with_reducible rfl)
  (try simp only [Act.put, List.setIfInBounds_toArray, List.set_cons_zero, List.set_cons_succ])
  refine wpAnyM_take (i := 14) (oi := { dst := some 5, op := Go.Op.assign (Go.Operand.tmp 14), type := 3, pos := "path.go:88", after := #[{ on := 6, ground := Go.Ground.data }, { on := 0, ground := Go.Ground.phase }, { on := 1, ground := Go.Ground.phase }, { on := 2, ground := Go.Ground.phase }, { on := 3, ground := Go.Ground.phase }, { on := 4, ground := Go.Ground.phase }, { on := 5, ground := Go.Ground.phase }, { on := 6, ground := Go.Ground.phase }, { on := 7, ground := Go.Ground.textOnly Go.Departure.lateStores }, { on := 8, ground := Go.Ground.textOnly Go.Departure.lateStores }, { on := 9, ground := Go.Ground.textOnly Go.Departure.lateStoresUnsure }, { on := 10, ground := Go.Ground.textOnly Go.Departure.lateStores }, { on := 11, ground := Go.Ground.textOnly Go.Departure.lateStores }, { on := 12, ground := Go.Ground.textOnly Go.Departure.lateStoresUnsure }, { on := 13, ground := Go.Ground.textOnly Go.Departure.lateStoresUnsure }], guard := none }) (v := ?v23) rfl (by kernel_rfl) (fun _ _ _ h => h) (Or.inl ⟨by rfl, ?hy23⟩) (by assumption) ?rest23
  case hy23 => (intro wz hSw; (try dsimp only at hSw); go_simp; try with_reducible rfl)
  (try simp only [Act.put, List.setIfInBounds_toArray, List.set_cons_zero, List.set_cons_succ])
  refine wpAnyM_take (i := 15) (oi := { dst := some 6, op := Go.Op.assign (Go.Operand.tmp 21), type := 3, pos := "path.go:88", after := #[{ on := 13, ground := Go.Ground.data }, { on := 14, ground := Go.Ground.chain }, { on := 0, ground := Go.Ground.phase }, { on := 1, ground := Go.Ground.phase }, { on := 2, ground := Go.Ground.phase }, { on := 3, ground := Go.Ground.phase }, { on := 4, ground := Go.Ground.phase }, { on := 5, ground := Go.Ground.phase }, { on := 6, ground := Go.Ground.phase }, { on := 7, ground := Go.Ground.phase }, { on := 8, ground := Go.Ground.phase }, { on := 9, ground := Go.Ground.phase }, { on := 10, ground := Go.Ground.phase }, { on := 11, ground := Go.Ground.phase }, { on := 12, ground := Go.Ground.phase }, { on := 13, ground := Go.Ground.phase }, { on := 14, ground := Go.Ground.phase }], guard := none }) (v := ?v24) rfl (by kernel_rfl) (fun _ _ _ h => h) (Or.inl ⟨by rfl, ?hy24⟩) (by assumption) ?rest24
  case hy24 => (intro wz hSw; (try dsimp only at hSw); go_simp; try with_reducible rfl)
  (try simp only [Act.put, List.setIfInBounds_toArray, List.set_cons_zero, List.set_cons_succ])
  refine wpAnyM_done (by kernel_rfl) ?_ _
  clear hma hmb
  by_cases hmm : m1 = m2
  case neg =>
    have e1 : ((m1 : Int) != (m2 : Int)) = true := by simp; omega
    have RES := hid (show false = eqFs eqT (keyT ea) (keyT eb) by rw [eqFs_len (by rw [HL1.out, HL2.out]; exact hmm)])
    go_wp2_with fail
    go_ret
    exact ⟨congrArg (fun z => Ending.returned (.bool z)) RES.out, (HX.out _ HEd.out).2.2⟩
  subst hmm
  go_wp2_with fail
  go_loopw [7] (fun i wr => ∃ j : Nat, i = .int .i64 j ∧ j ≤ m1 ∧ Hid (eqFs eqT ((keyT ea).drop j) ((keyT eb).drop j) = eqFs eqT (keyT ea) (keyT eb)) ∧ Hid (Ext w1 wr)) (fun i _ => m1 - (intOf i).toNat)
  case atStart => exact ⟨0, rfl, Nat.zero_le _, hid rfl, HEd⟩
  case round =>
    clear HEd
    obtain ⟨j, rfl, hj, HP, HE⟩ := hrel
    by_cases hlt : j < m1
    · obtain ⟨u, hu⟩ : ∃ x, ea.keys[j]? = some x := ⟨_, List.getElem?_eq_getElem (by omega)⟩
      obtain ⟨u', hu'⟩ : ∃ x, eb.keys[j]? = some x := ⟨_, List.getElem?_eq_getElem (by omega)⟩
      obtain ⟨g, hg⟩ : ∃ x, ea.l[j]? = some x := ⟨_, List.getElem?_eq_getElem (by omega)⟩
      obtain ⟨g', hg'⟩ : ∃ x, eb.l[j]? = some x := ⟨_, List.getElem?_eq_getElem (by omega)⟩
      obtain ⟨rfl, c1, -⟩ := HKA.out j u hu
      obtain ⟨rfl, c2, -⟩ := HKB.out j u' hu'
      obtain ⟨rfl, r1, r2, r3, r4, r5, r6, r7, r8, r9, r10, c3, hR1⟩ := HLA.out j g hg
      obtain ⟨rfl, t1, t2, t3, t4, t5, t6, t7, t8, t9, t10, c4, hR2⟩ := HLB.out j g' hg'
      have hst := eqFs_step (z := eqT) (keyT_get hu hg) (keyT_get hu' hg')
      rw [HP.out] at hst
      obtain ⟨b, hb⟩ : ∃ b, eqT (plainT g) (plainT g') = b := ⟨_, rfl⟩
      have HEQ := hid (fun (W : World) (E : Ext w W) => specEqV g g' W _ _ (hR1.ext E) (hR2.ext E))
      rw [hb] at HEQ
      simp only [hb] at hst
      have HST := hid hst
      have K7 := hid (show ∀ W : World, Ext w1 W → (fun w' : World => w'.cell? ⟨w.heap.size, 2, none⟩ = some (.slice (some ⟨kb, ko, none⟩) ea.keys.length xc) ∧ w'.cell? ⟨w.heap.size + 1, 2, none⟩ = some (.slice (some ⟨kb', ko', none⟩) eb.keys.length yc) ∧ w'.cell? ⟨w.heap.size, 3, none⟩ = some (.slice (some ⟨lb, lo, none⟩) ea.l.length xd) ∧ w'.cell? ⟨w.heap.size + 1, 3, none⟩ = some (.slice (some ⟨lb', lo', none⟩) eb.l.length yd) ∧ w'.cell? ⟨kb, ko + j, none⟩ = some (.string u) ∧ w'.cell? ⟨kb', ko' + j, none⟩ = some (.string u') ∧ w'.cell? ⟨lb, lo + j * 6, none⟩ = some (.int .i64 r1) ∧ w'.cell? ⟨lb, lo + j * 6 + 1, none⟩ = some (.int .i64 r2) ∧ w'.cell? ⟨lb, lo + j * 6 + 2, none⟩ = some (.float .f64 r3) ∧ w'.cell? ⟨lb, lo + j * 6 + 3, none⟩ = some (.string r4) ∧ w'.cell? ⟨lb, lo + j * 6 + 4, none⟩ = some (.slice r5 r6 r7) ∧ w'.cell? ⟨lb, lo + j * 6 + 5, none⟩ = some (.slice r8 r9 r10) ∧ w'.cell? ⟨lb', lo' + j * 6, none⟩ = some (.int .i64 t1) ∧ w'.cell? ⟨lb', lo' + j * 6 + 1, none⟩ = some (.int .i64 t2) ∧ w'.cell? ⟨lb', lo' + j * 6 + 2, none⟩ = some (.float .f64 t3) ∧ w'.cell? ⟨lb', lo' + j * 6 + 3, none⟩ = some (.string t4) ∧ w'.cell? ⟨lb', lo' + j * 6 + 4, none⟩ = some (.slice t5 t6 t7) ∧ w'.cell? ⟨lb', lo' + j * 6 + 5, none⟩ = some (.slice t8 t9 t10)) W from fun W h => by
        obtain ⟨⟨-, -, z2, z3, -⟩, -⟩ := slot11 (HX.out _ h).1
        obtain ⟨⟨-, -, y2, y3, -⟩, -⟩ := slot11 (HX.out _ h).2.1
        obtain ⟨b0, b1, b2, b3, b4, b5⟩ := cells6 (cellsAt_ext (HX.out _ h).2.2 c3)
        obtain ⟨d0, d1, d2, d3, d4, d5⟩ := cells6 (cellsAt_ext (HX.out _ h).2.2 c4)
        exact ⟨z2, y2, z3, y3, (HX.out _ h).2.2.cellS c1, (HX.out _ h).2.2.cellS c2, b0, b1, b2, b3, b4, b5, d0, d1, d2, d3, d4, d5⟩)
      have HEd := hid (show Ext w1 wr.drew from HE.out.drew)
      have p0 : (0 : Int) ≤ (j : Int) := by omega
      have p1 : (j : Int) < (ea.keys.length : Int) := by omega
      have p2 : (j : Int) < (eb.keys.length : Int) := by omega
      have p3 : (j : Int) < (ea.l.length : Int) := by omega
      have p4 : (j : Int) < (eb.l.length : Int) := by omega
      clear hu hu' hg hg' c1 c2 c3 c4 hR1 hR2 hst hb
      go_upto_region 7 with fail
      by_cases he : u = u'
      · have e1 : (u.toList == u'.toList) = true := by rw [ba_toList_beq, decide_eq_true he]
        have HEE := hid he
        clear he
        cases b with
        | true =>
          refine wp_region_late (fun w' : World => w'.cell? ⟨w.heap.size, 2, none⟩ = some (.slice (some ⟨kb, ko, none⟩) ea.keys.length xc) ∧ w'.cell? ⟨w.heap.size + 1, 2, none⟩ = some (.slice (some ⟨kb', ko', none⟩) eb.keys.length yc) ∧ w'.cell? ⟨w.heap.size, 3, none⟩ = some (.slice (some ⟨lb, lo, none⟩) ea.l.length xd) ∧ w'.cell? ⟨w.heap.size + 1, 3, none⟩ = some (.slice (some ⟨lb', lo', none⟩) eb.l.length yd) ∧ w'.cell? ⟨kb, ko + j, none⟩ = some (.string u) ∧ w'.cell? ⟨kb', ko' + j, none⟩ = some (.string u') ∧ w'.cell? ⟨lb, lo + j * 6, none⟩ = some (.int .i64 r1) ∧ w'.cell? ⟨lb, lo + j * 6 + 1, none⟩ = some (.int .i64 r2) ∧ w'.cell? ⟨lb, lo + j * 6 + 2, none⟩ = some (.float .f64 r3) ∧ w'.cell? ⟨lb, lo + j * 6 + 3, none⟩ = some (.string r4) ∧ w'.cell? ⟨lb, lo + j * 6 + 4, none⟩ = some (.slice r5 r6 r7) ∧ w'.cell? ⟨lb, lo + j * 6 + 5, none⟩ = some (.slice r8 r9 r10) ∧ w'.cell? ⟨lb', lo' + j * 6, none⟩ = some (.int .i64 t1) ∧ w'.cell? ⟨lb', lo' + j * 6 + 1, none⟩ = some (.int .i64 t2) ∧ w'.cell? ⟨lb', lo' + j * 6 + 2, none⟩ = some (.float .f64 t3) ∧ w'.cell? ⟨lb', lo' + j * 6 + 3, none⟩ = some (.string t4) ∧ w'.cell? ⟨lb', lo' + j * 6 + 4, none⟩ = some (.slice t5 t6 t7) ∧ w'.cell? ⟨lb', lo' + j * 6 + 5, none⟩ = some (.slice t8 t9 t10)) [] (by kernel_rfl) ?hS25 (fun hHeld => ?_)
          case hS25 => (exact K7.out _ HEd.out)
          generalize wr.drew = wd7 at *
          change wpAnyM _ _ _ _ _ _ 25 #[false, false, false, false, false, false, false, false, false, false, false, false, false, false, false, false, false, false, false, false, false, false, false, false, false] _ _
          refine wpAnyM_take (i := 0) (oi := { dst := some 30, op := Go.Op.fieldAddr 34 (Go.Operand.tmp 2) 2, type := 0, pos := "path.go:93", after := #[], guard := none }) (v := ?v26) rfl (by kernel_rfl) (fun _ _ _ h => h) (Or.inl ⟨by rfl, ?hy26⟩) (by assumption) ?rest26
          case hy26 => (intro wz hSw; (try dsimp only at hSw); go_simp; try with_reducible rfl)
          (try simp only [Act.put, List.setIfInBounds_toArray, List.set_cons_zero, List.set_cons_succ])
          refine wpAnyM_take (i := 1) (oi := { dst := some 31, op := Go.Op.load 26 (Go.Operand.tmp 30), type := 26, pos := "path.go:93", after := #[{ on := 0, ground := Go.Ground.data }], guard := none }) (v := ?v27) rfl (by kernel_rfl) (fun _ _ _ h => h) (Or.inl ⟨by rfl, ?hy27⟩) (by assumption) ?rest27
          case hy27 => (intro wz hSw; (try dsimp only at hSw); go_simp; try with_reducible rfl)
          (try simp only [Act.put, List.setIfInBounds_toArray, List.set_cons_zero, List.set_cons_succ])
          refine wpAnyM_take (i := 2) (oi := { dst := some 32, op := Go.Op.move (Go.Operand.tmp 7), type := 3, pos := "path.go:93", after := #[], guard := none }) (v := ?v28) rfl (by kernel_rfl) (fun _ _ _ h => h) (Or.inl ⟨by rfl, ?hy28⟩) (by assumption) ?rest28
          case hy28 => (intro wz hSw; (try dsimp only at hSw); go_simp; try with_reducible rfl)
          (try simp only [Act.put, List.setIfInBounds_toArray, List.set_cons_zero, List.set_cons_succ])
          refine wpAnyM_take (i := 3) (oi := { dst := some 33, op := Go.Op.indexAddr 26 (Go.Operand.tmp 31) (Go.Operand.tmp 32), type := 0, pos := "path.go:93", after := #[{ on := 1, ground := Go.Ground.data }, { on := 2, ground := Go.Ground.data }], guard := none }) (v := ?v29) rfl (by kernel_rfl) (fun _ _ _ h => h) (Or.inl ⟨by rfl, ?hy29⟩) (by assumption) ?rest29
          case hy29 => (intro wz hSw; (try dsimp only at hSw); go_simp; try with_reducible rfl)
          (try simp only [Act.put, List.setIfInBounds_toArray, List.set_cons_zero, List.set_cons_succ])
          refine wpAnyM_take (i := 4) (oi := { dst := some 34, op := Go.Op.load 9 (Go.Operand.tmp 33), type := 9, pos := "path.go:93", after := #[{ on := 3, ground := Go.Ground.data }], guard := none }) (v := ?v30) rfl (by kernel_rfl) (fun _ _ _ h => h) (Or.inl ⟨by rfl, ?hy30⟩) (by assumption) ?rest30
          case hy30 => (intro wz hSw; (try dsimp only at hSw); go_simp; try with_reducible rfl)
          (try simp only [Act.put, List.setIfInBounds_toArray, List.set_cons_zero, List.set_cons_succ])
          refine wpAnyM_take (i := 5) (oi := { dst := some 35, op := Go.Op.fieldAddr 34 (Go.Operand.tmp 3) 2, type := 0, pos := "path.go:93", after := #[], guard := none }) (v := ?v31) rfl (by kernel_rfl) (fun _ _ _ h => h) (Or.inl ⟨by rfl, ?hy31⟩) (by assumption) ?rest31
          case hy31 => (intro wz hSw; (try dsimp only at hSw); go_simp; try with_reducible rfl)
          (try simp only [Act.put, List.setIfInBounds_toArray, List.set_cons_zero, List.set_cons_succ])
          refine wpAnyM_take (i := 6) (oi := { dst := some 36, op := Go.Op.load 26 (Go.Operand.tmp 35), type := 26, pos := "path.go:93", after := #[{ on := 5, ground := Go.Ground.data }], guard := none }) (v := ?v32) rfl (by kernel_rfl) (fun _ _ _ h => h) (Or.inl ⟨by rfl, ?hy32⟩) (by assumption) ?rest32
          case hy32 => (intro wz hSw; (try dsimp only at hSw); go_simp; try with_reducible rfl)
          (try simp only [Act.put, List.setIfInBounds_toArray, List.set_cons_zero, List.set_cons_succ])
          refine wpAnyM_take (i := 7) (oi := { dst := some 37, op := Go.Op.move (Go.Operand.tmp 7), type := 3, pos := "path.go:93", after := #[], guard := none }) (v := ?v33) rfl (by kernel_rfl) (fun _ _ _ h => h) (Or.inl ⟨by rfl, ?hy33⟩) (by assumption) ?rest33
          case hy33 => (intro wz hSw; (try dsimp only at hSw); go_simp; try with_reducible rfl)
          (try simp only [Act.put, List.setIfInBounds_toArray, List.set_cons_zero, List.set_cons_succ])
          refine wpAnyM_take (i := 8) (oi := { dst := some 38, op := Go.Op.indexAddr 26 (Go.Operand.tmp 36) (Go.Operand.tmp 37), type := 0, pos := "path.go:93", after := #[{ on := 6, ground := Go.Ground.data }, { on := 7, ground := Go.Ground.data }], guard := none }) (v := ?v34) rfl (by kernel_rfl) (fun _ _ _ h => h) (Or.inl ⟨by rfl, ?hy34⟩) (by assumption) ?rest34
          case hy34 => (intro wz hSw; (try dsimp only at hSw); go_simp; try with_reducible rfl)
          (try simp only [Act.put, List.setIfInBounds_toArray, List.set_cons_zero, List.set_cons_succ])
          refine wpAnyM_take (i := 9) (oi := { dst := some 39, op := Go.Op.load 9 (Go.Operand.tmp 38), type := 9, pos := "path.go:93", after := #[{ on := 8, ground := Go.Ground.data }], guard := none }) (v := ?v35) rfl (by kernel_rfl) (fun _ _ _ h => h) (Or.inl ⟨by rfl, ?hy35⟩) (by assumption) ?rest35
          case hy35 => (intro wz hSw; (try dsimp only at hSw); go_simp; try with_reducible rfl)
          (try simp only [Act.put, List.setIfInBounds_toArray, List.set_cons_zero, List.set_cons_succ])
          refine wpAnyM_take (i := 10) (oi := { dst := some 40, op := Go.Op.binOp Go.BinOp.neq 9 (Go.Operand.tmp 34) (Go.Operand.tmp 39) 9, type := 4, pos := "path.go:93", after := #[{ on := 4, ground := Go.Ground.data }, { on := 9, ground := Go.Ground.data }], guard := none }) (v := ?v36) rfl (by kernel_rfl) (fun _ _ _ h => h) (Or.inl ⟨by rfl, ?hy36⟩) (by assumption) ?rest36
          case hy36 => (intro wz hSw; (try dsimp only at hSw); go_simp; try with_reducible rfl)
          (try simp only [Act.put, List.setIfInBounds_toArray, List.set_cons_zero, List.set_cons_succ])
          refine wpAnyM_take (i := 11) (oi := { dst := some 41, op := Go.Op.move (Go.Operand.tmp 40), type := 4, pos := "path.go:93", after := #[{ on := 10, ground := Go.Ground.data }], guard := none }) (v := ?v37) rfl (by kernel_rfl) (fun _ _ _ h => h) (Or.inl ⟨by rfl, ?hy37⟩) (by assumption) ?rest37
          case hy37 => (intro wz hSw; (try dsimp only at hSw); go_simp; try with_reducible rfl)
          (try simp only [Act.put, List.setIfInBounds_toArray, List.set_cons_zero, List.set_cons_succ])
          refine wpAnyM_take (i := 12) (oi := { dst := some 42, op := Go.Op.fieldAddr 34 (Go.Operand.tmp 2) 3, type := 0, pos := "path.go:93", after := #[{ on := 11, ground := Go.Ground.guard }], guard := some (11, false) }) (v := ?v38) rfl (by kernel_rfl) (fun _ _ _ h => h) (Or.inl ⟨by rfl, ?hy38⟩) (by assumption) ?rest38
          case hy38 => (intro wz hSw; (try dsimp only at hSw); go_simp; try with_reducible rfl)
          (try simp only [Act.put, List.setIfInBounds_toArray, List.set_cons_zero, List.set_cons_succ])
          refine wpAnyM_take (i := 13) (oi := { dst := some 43, op := Go.Op.load 27 (Go.Operand.tmp 42), type := 27, pos := "path.go:93", after := #[{ on := 12, ground := Go.Ground.data }, { on := 11, ground := Go.Ground.guard }], guard := some (11, false) }) (v := ?v39) rfl (by kernel_rfl) (fun _ _ _ h => h) (Or.inl ⟨by rfl, ?hy39⟩) (by assumption) ?rest39
          case hy39 => (intro wz hSw; (try dsimp only at hSw); go_simp; try with_reducible rfl)
          (try simp only [Act.put, List.setIfInBounds_toArray, List.set_cons_zero, List.set_cons_succ])
          refine wpAnyM_take (i := 14) (oi := { dst := some 44, op := Go.Op.move (Go.Operand.tmp 7), type := 3, pos := "path.go:93", after := #[{ on := 11, ground := Go.Ground.guard }], guard := some (11, false) }) (v := ?v40) rfl (by kernel_rfl) (fun _ _ _ h => h) (Or.inl ⟨by rfl, ?hy40⟩) (by assumption) ?rest40
          case hy40 => (intro wz hSw; (try dsimp only at hSw); go_simp; try with_reducible rfl)
          (try simp only [Act.put, List.setIfInBounds_toArray, List.set_cons_zero, List.set_cons_succ])
          refine wpAnyM_take (i := 15) (oi := { dst := some 45, op := Go.Op.indexAddr 27 (Go.Operand.tmp 43) (Go.Operand.tmp 44), type := 0, pos := "path.go:93", after := #[{ on := 13, ground := Go.Ground.data }, { on := 14, ground := Go.Ground.data }, { on := 11, ground := Go.Ground.guard }], guard := some (11, false) }) (v := ?v41) rfl (by kernel_rfl) (fun _ _ _ h => h) (Or.inl ⟨by rfl, ?hy41⟩) (by assumption) ?rest41
          case hy41 => (intro wz hSw; (try dsimp only at hSw); go_simp; try with_reducible rfl)
          (try simp only [Act.put, List.setIfInBounds_toArray, List.set_cons_zero, List.set_cons_succ])
          refine wpAnyM_take (i := 16) (oi := { dst := some 46, op := Go.Op.load 32 (Go.Operand.tmp 45), type := 32, pos := "path.go:93", after := #[{ on := 15, ground := Go.Ground.data }, { on := 11, ground := Go.Ground.guard }], guard := some (11, false) }) (v := ?v42) rfl (by kernel_rfl) (fun _ _ _ h => h) (Or.inl ⟨by rfl, ?hy42⟩) (by assumption) ?rest42
          case hy42 => (intro wz hSw; (try dsimp only at hSw); go_simp; try with_reducible rfl)
          (try simp only [Act.put, List.setIfInBounds_toArray, List.set_cons_zero, List.set_cons_succ])
          refine wpAnyM_take (i := 17) (oi := { dst := some 47, op := Go.Op.fieldAddr 34 (Go.Operand.tmp 3) 3, type := 0, pos := "path.go:93", after := #[{ on := 11, ground := Go.Ground.guard }], guard := some (11, false) }) (v := ?v43) rfl (by kernel_rfl) (fun _ _ _ h => h) (Or.inl ⟨by rfl, ?hy43⟩) (by assumption) ?rest43
          case hy43 => (intro wz hSw; (try dsimp only at hSw); go_simp; try with_reducible rfl)
          (try simp only [Act.put, List.setIfInBounds_toArray, List.set_cons_zero, List.set_cons_succ])
          refine wpAnyM_take (i := 18) (oi := { dst := some 48, op := Go.Op.load 27 (Go.Operand.tmp 47), type := 27, pos := "path.go:93", after := #[{ on := 17, ground := Go.Ground.data }, { on := 11, ground := Go.Ground.guard }], guard := some (11, false) }) (v := ?v44) rfl (by kernel_rfl) (fun _ _ _ h => h) (Or.inl ⟨by rfl, ?hy44⟩) (by assumption) ?rest44
          case hy44 => (intro wz hSw; (try dsimp only at hSw); go_simp; try with_reducible rfl)
          (try simp only [Act.put, List.setIfInBounds_toArray, List.set_cons_zero, List.set_cons_succ])
          refine wpAnyM_take (i := 19) (oi := { dst := some 49, op := Go.Op.move (Go.Operand.tmp 7), type := 3, pos := "path.go:93", after := #[{ on := 11, ground := Go.Ground.guard }], guard := some (11, false) }) (v := ?v45) rfl (by kernel_rfl) (fun _ _ _ h => h) (Or.inl ⟨by rfl, ?hy45⟩) (by assumption) ?rest45
          case hy45 => (intro wz hSw; (try dsimp only at hSw); go_simp; try with_reducible rfl)
          (try simp only [Act.put, List.setIfInBounds_toArray, List.set_cons_zero, List.set_cons_succ])
          refine wpAnyM_take (i := 20) (oi := { dst := some 50, op := Go.Op.indexAddr 27 (Go.Operand.tmp 48) (Go.Operand.tmp 49), type := 0, pos := "path.go:93", after := #[{ on := 18, ground := Go.Ground.data }, { on := 19, ground := Go.Ground.data }, { on := 11, ground := Go.Ground.guard }], guard := some (11, false) }) (v := ?v46) rfl (by kernel_rfl) (fun _ _ _ h => h) (Or.inl ⟨by rfl, ?hy46⟩) (by assumption) ?rest46
          case hy46 => (intro wz hSw; (try dsimp only at hSw); go_simp; try with_reducible rfl)
          (try simp only [Act.put, List.setIfInBounds_toArray, List.set_cons_zero, List.set_cons_succ])
          refine wpAnyM_take (i := 21) (oi := { dst := some 51, op := Go.Op.load 32 (Go.Operand.tmp 50), type := 32, pos := "path.go:93", after := #[{ on := 20, ground := Go.Ground.data }, { on := 11, ground := Go.Ground.guard }], guard := some (11, false) }) (v := ?v47) rfl (by kernel_rfl) (fun _ _ _ h => h) (Or.inl ⟨by rfl, ?hy47⟩) (by assumption) ?rest47
          case hy47 => (intro wz hSw; (try dsimp only at hSw); go_simp; try with_reducible rfl)
          (try simp only [Act.put, List.setIfInBounds_toArray, List.set_cons_zero, List.set_cons_succ])
          refine wpAnyM_ready (rs := [22]) (by kernel_rfl) (by simp) ?_
          refine AllReadyM.cons (o := { dst := some 52, op := Go.Op.call { callee := Go.Callee.value (Go.Operand.func 133), args := #[Go.Operand.tmp 46, Go.Operand.tmp 51], argTypes := #[32, 32] }, type := 4, pos := "path.go:93", after := #[{ on := 16, ground := Go.Ground.data }, { on := 21, ground := Go.Ground.data }, { on := 11, ground := Go.Ground.chain }, { on := 11, ground := Go.Ground.guard }], guard := some (11, false) }) rfl (fun K hK => ?_) AllReadyM.nil
          refine step_callW _ (by rfl) 133 [.tmp 46, .tmp 51] #[32, 32] rfl (by kernel_rfl) [_, _] rfl (HEQ.out _ (HX.out _ HEd.out).2.2) ?_
          rintro en wf ⟨rfl, hE⟩
          refine ⟨_, rfl, ?_⟩
          have HF := hid (HEd.out.trans hE)
          clear hE
          refine hK.out _ _ ?hS48 (fun hHeld => ?_)
          case hS48 => (exact K7.out _ HF.out)
          clear hK K
          (try simp only [Act.put, List.setIfInBounds_toArray, List.set_cons_zero, List.set_cons_succ])
          refine wpAnyM_take (i := 23) (oi := { dst := some 53, op := Go.Op.unOp Go.UnOp.not 4 (Go.Operand.tmp 52), type := 4, pos := "path.go:93", after := #[{ on := 22, ground := Go.Ground.data }, { on := 11, ground := Go.Ground.guard }], guard := some (11, false) }) (v := ?v49) rfl (by kernel_rfl) (fun _ _ _ h => h) (Or.inl ⟨by rfl, ?hy49⟩) (by assumption) ?rest49
          case hy49 => (intro wz hSw; (try dsimp only at hSw); go_simp; try with_reducible rfl)
          (try simp only [Act.put, List.setIfInBounds_toArray, List.set_cons_zero, List.set_cons_succ])
          refine wpAnyM_take (i := 24) (oi := { dst := some 54, op := Go.Op.pick (Go.Operand.tmp 41) (Go.Operand.const (Go.Value.bool true)) (Go.Operand.tmp 53), type := 4, pos := "path.go:93", after := #[{ on := 11, ground := Go.Ground.data }, { on := 23, ground := Go.Ground.data }], guard := none }) (v := ?v50) rfl (by kernel_rfl) (fun _ _ _ h => h) (Or.inl ⟨by rfl, ?hy50⟩) (by assumption) ?rest50
          case hy50 => (intro wz hSw; (try dsimp only at hSw); go_simp; try with_reducible rfl)
          (try simp only [Act.put, List.setIfInBounds_toArray, List.set_cons_zero, List.set_cons_succ])
          refine wpAnyM_done (by kernel_rfl) ?_ _
          go_wp2_with fail
          exact ⟨⟨j + 1, by go_num, by omega, hid (by have h := HST.out; rw [decide_eq_true HEE.out] at h; simpa using h.symm), HF⟩, by simp [intOf]; omega⟩
        | false =>
          refine wp_region_late (fun w' : World => w'.cell? ⟨w.heap.size, 2, none⟩ = some (.slice (some ⟨kb, ko, none⟩) ea.keys.length xc) ∧ w'.cell? ⟨w.heap.size + 1, 2, none⟩ = some (.slice (some ⟨kb', ko', none⟩) eb.keys.length yc) ∧ w'.cell? ⟨w.heap.size, 3, none⟩ = some (.slice (some ⟨lb, lo, none⟩) ea.l.length xd) ∧ w'.cell? ⟨w.heap.size + 1, 3, none⟩ = some (.slice (some ⟨lb', lo', none⟩) eb.l.length yd) ∧ w'.cell? ⟨kb, ko + j, none⟩ = some (.string u) ∧ w'.cell? ⟨kb', ko' + j, none⟩ = some (.string u') ∧ w'.cell? ⟨lb, lo + j * 6, none⟩ = some (.int .i64 r1) ∧ w'.cell? ⟨lb, lo + j * 6 + 1, none⟩ = some (.int .i64 r2) ∧ w'.cell? ⟨lb, lo + j * 6 + 2, none⟩ = some (.float .f64 r3) ∧ w'.cell? ⟨lb, lo + j * 6 + 3, none⟩ = some (.string r4) ∧ w'.cell? ⟨lb, lo + j * 6 + 4, none⟩ = some (.slice r5 r6 r7) ∧ w'.cell? ⟨lb, lo + j * 6 + 5, none⟩ = some (.slice r8 r9 r10) ∧ w'.cell? ⟨lb', lo' + j * 6, none⟩ = some (.int .i64 t1) ∧ w'.cell? ⟨lb', lo' + j * 6 + 1, none⟩ = some (.int .i64 t2) ∧ w'.cell? ⟨lb', lo' + j * 6 + 2, none⟩ = some (.float .f64 t3) ∧ w'.cell? ⟨lb', lo' + j * 6 + 3, none⟩ = some (.string t4) ∧ w'.cell? ⟨lb', lo' + j * 6 + 4, none⟩ = some (.slice t5 t6 t7) ∧ w'.cell? ⟨lb', lo' + j * 6 + 5, none⟩ = some (.slice t8 t9 t10)) [] (by kernel_rfl) ?hS51 (fun hHeld => ?_)
          case hS51 => (exact K7.out _ HEd.out)
          generalize wr.drew = wd7 at *
          change wpAnyM _ _ _ _ _ _ 25 #[false, false, false, false, false, false, false, false, false, false, false, false, false, false, false, false, false, false, false, false, false, false, false, false, false] _ _
          refine wpAnyM_take (i := 0) (oi := { dst := some 30, op := Go.Op.fieldAddr 34 (Go.Operand.tmp 2) 2, type := 0, pos := "path.go:93", after := #[], guard := none }) (v := ?v52) rfl (by kernel_rfl) (fun _ _ _ h => h) (Or.inl ⟨by rfl, ?hy52⟩) (by assumption) ?rest52
          case hy52 => (intro wz hSw; (try dsimp only at hSw); go_simp; try with_reducible rfl)
          (try simp only [Act.put, List.setIfInBounds_toArray, List.set_cons_zero, List.set_cons_succ])
          refine wpAnyM_take (i := 1) (oi := { dst := some 31, op := Go.Op.load 26 (Go.Operand.tmp 30), type := 26, pos := "path.go:93", after := #[{ on := 0, ground := Go.Ground.data }], guard := none }) (v := ?v53) rfl (by kernel_rfl) (fun _ _ _ h => h) (Or.inl ⟨by rfl, ?hy53⟩) (by assumption) ?rest53
          case hy53 => (intro wz hSw; (try dsimp only at hSw); go_simp; try with_reducible rfl)
          (try simp only [Act.put, List.setIfInBounds_toArray, List.set_cons_zero, List.set_cons_succ])
          refine wpAnyM_take (i := 2) (oi := { dst := some 32, op := Go.Op.move (Go.Operand.tmp 7), type := 3, pos := "path.go:93", after := #[], guard := none }) (v := ?v54) rfl (by kernel_rfl) (fun _ _ _ h => h) (Or.inl ⟨by rfl, ?hy54⟩) (by assumption) ?rest54
          case hy54 => (intro wz hSw; (try dsimp only at hSw); go_simp; try with_reducible rfl)
          (try simp only [Act.put, List.setIfInBounds_toArray, List.set_cons_zero, List.set_cons_succ])
          refine wpAnyM_take (i := 3) (oi := { dst := some 33, op := Go.Op.indexAddr 26 (Go.Operand.tmp 31) (Go.Operand.tmp 32), type := 0, pos := "path.go:93", after := #[{ on := 1, ground := Go.Ground.data }, { on := 2, ground := Go.Ground.data }], guard := none }) (v := ?v55) rfl (by kernel_rfl) (fun _ _ _ h => h) (Or.inl ⟨by rfl, ?hy55⟩) (by assumption) ?rest55
          case hy55 => (intro wz hSw; (try dsimp only at hSw); go_simp; try with_reducible rfl)
          (try simp only [Act.put, List.setIfInBounds_toArray, List.set_cons_zero, List.set_cons_succ])
          refine wpAnyM_take (i := 4) (oi := { dst := some 34, op := Go.Op.load 9 (Go.Operand.tmp 33), type := 9, pos := "path.go:93", after := #[{ on := 3, ground := Go.Ground.data }], guard := none }) (v := ?v56) rfl (by kernel_rfl) (fun _ _ _ h => h) (Or.inl ⟨by rfl, ?hy56⟩) (by assumption) ?rest56
          case hy56 => (intro wz hSw; (try dsimp only at hSw); go_simp; try with_reducible rfl)
          (try simp only [Act.put, List.setIfInBounds_toArray, List.set_cons_zero, List.set_cons_succ])
          refine wpAnyM_take (i := 5) (oi := { dst := some 35, op := Go.Op.fieldAddr 34 (Go.Operand.tmp 3) 2, type := 0, pos := "path.go:93", after := #[], guard := none }) (v := ?v57) rfl (by kernel_rfl) (fun _ _ _ h => h) (Or.inl ⟨by rfl, ?hy57⟩) (by assumption) ?rest57
          case hy57 => (intro wz hSw; (try dsimp only at hSw); go_simp; try with_reducible rfl)
          (try simp only [Act.put, List.setIfInBounds_toArray, List.set_cons_zero, List.set_cons_succ])
          refine wpAnyM_take (i := 6) (oi := { dst := some 36, op := Go.Op.load 26 (Go.Operand.tmp 35), type := 26, pos := "path.go:93", after := #[{ on := 5, ground := Go.Ground.data }], guard := none }) (v := ?v58) rfl (by kernel_rfl) (fun _ _ _ h => h) (Or.inl ⟨by rfl, ?hy58⟩) (by assumption) ?rest58
          case hy58 => (intro wz hSw; (try dsimp only at hSw); go_simp; try with_reducible rfl)
          (try simp only [Act.put, List.setIfInBounds_toArray, List.set_cons_zero, List.set_cons_succ])
          refine wpAnyM_take (i := 7) (oi := { dst := some 37, op := Go.Op.move (Go.Operand.tmp 7), type := 3, pos := "path.go:93", after := #[], guard := none }) (v := ?v59) rfl (by kernel_rfl) (fun _ _ _ h => h) (Or.inl ⟨by rfl, ?hy59⟩) (by assumption) ?rest59
          case hy59 => (intro wz hSw; (try dsimp only at hSw); go_simp; try with_reducible rfl)
          (try simp only [Act.put, List.setIfInBounds_toArray, List.set_cons_zero, List.set_cons_succ])
          refine wpAnyM_take (i := 8) (oi := { dst := some 38, op := Go.Op.indexAddr 26 (Go.Operand.tmp 36) (Go.Operand.tmp 37), type := 0, pos := "path.go:93", after := #[{ on := 6, ground := Go.Ground.data }, { on := 7, ground := Go.Ground.data }], guard := none }) (v := ?v60) rfl (by kernel_rfl) (fun _ _ _ h => h) (Or.inl ⟨by rfl, ?hy60⟩) (by assumption) ?rest60
          case hy60 => (intro wz hSw; (try dsimp only at hSw); go_simp; try with_reducible rfl)
          (try simp only [Act.put, List.setIfInBounds_toArray, List.set_cons_zero, List.set_cons_succ])
          refine wpAnyM_take (i := 9) (oi := { dst := some 39, op := Go.Op.load 9 (Go.Operand.tmp 38), type := 9, pos := "path.go:93", after := #[{ on := 8, ground := Go.Ground.data }], guard := none }) (v := ?v61) rfl (by kernel_rfl) (fun _ _ _ h => h) (Or.inl ⟨by rfl, ?hy61⟩) (by assumption) ?rest61
          case hy61 => (intro wz hSw; (try dsimp only at hSw); go_simp; try with_reducible rfl)
          (try simp only [Act.put, List.setIfInBounds_toArray, List.set_cons_zero, List.set_cons_succ])
          refine wpAnyM_take (i := 10) (oi := { dst := some 40, op := Go.Op.binOp Go.BinOp.neq 9 (Go.Operand.tmp 34) (Go.Operand.tmp 39) 9, type := 4, pos := "path.go:93", after := #[{ on := 4, ground := Go.Ground.data }, { on := 9, ground := Go.Ground.data }], guard := none }) (v := ?v62) rfl (by kernel_rfl) (fun _ _ _ h => h) (Or.inl ⟨by rfl, ?hy62⟩) (by assumption) ?rest62
          case hy62 => (intro wz hSw; (try dsimp only at hSw); go_simp; try with_reducible rfl)
          (try simp only [Act.put, List.setIfInBounds_toArray, List.set_cons_zero, List.set_cons_succ])
          refine wpAnyM_take (i := 11) (oi := { dst := some 41, op := Go.Op.move (Go.Operand.tmp 40), type := 4, pos := "path.go:93", after := #[{ on := 10, ground := Go.Ground.data }], guard := none }) (v := ?v63) rfl (by kernel_rfl) (fun _ _ _ h => h) (Or.inl ⟨by rfl, ?hy63⟩) (by assumption) ?rest63
          case hy63 => (intro wz hSw; (try dsimp only at hSw); go_simp; try with_reducible rfl)
          (try simp only [Act.put, List.setIfInBounds_toArray, List.set_cons_zero, List.set_cons_succ])
          refine wpAnyM_take (i := 12) (oi := { dst := some 42, op := Go.Op.fieldAddr 34 (Go.Operand.tmp 2) 3, type := 0, pos := "path.go:93", after := #[{ on := 11, ground := Go.Ground.guard }], guard := some (11, false) }) (v := ?v64) rfl (by kernel_rfl) (fun _ _ _ h => h) (Or.inl ⟨by rfl, ?hy64⟩) (by assumption) ?rest64
          case hy64 => (intro wz hSw; (try dsimp only at hSw); go_simp; try with_reducible rfl)
          (try simp only [Act.put, List.setIfInBounds_toArray, List.set_cons_zero, List.set_cons_succ])
          refine wpAnyM_take (i := 13) (oi := { dst := some 43, op := Go.Op.load 27 (Go.Operand.tmp 42), type := 27, pos := "path.go:93", after := #[{ on := 12, ground := Go.Ground.data }, { on := 11, ground := Go.Ground.guard }], guard := some (11, false) }) (v := ?v65) rfl (by kernel_rfl) (fun _ _ _ h => h) (Or.inl ⟨by rfl, ?hy65⟩) (by assumption) ?rest65
          case hy65 => (intro wz hSw; (try dsimp only at hSw); go_simp; try with_reducible rfl)
          (try simp only [Act.put, List.setIfInBounds_toArray, List.set_cons_zero, List.set_cons_succ])
          refine wpAnyM_take (i := 14) (oi := { dst := some 44, op := Go.Op.move (Go.Operand.tmp 7), type := 3, pos := "path.go:93", after := #[{ on := 11, ground := Go.Ground.guard }], guard := some (11, false) }) (v := ?v66) rfl (by kernel_rfl) (fun _ _ _ h => h) (Or.inl ⟨by rfl, ?hy66⟩) (by assumption) ?rest66
          case hy66 => (intro wz hSw; (try dsimp only at hSw); go_simp; try with_reducible rfl)
          (try simp only [Act.put, List.setIfInBounds_toArray, List.set_cons_zero, List.set_cons_succ])
          refine wpAnyM_take (i := 15) (oi := { dst := some 45, op := Go.Op.indexAddr 27 (Go.Operand.tmp 43) (Go.Operand.tmp 44), type := 0, pos := "path.go:93", after := #[{ on := 13, ground := Go.Ground.data }, { on := 14, ground := Go.Ground.data }, { on := 11, ground := Go.Ground.guard }], guard := some (11, false) }) (v := ?v67) rfl (by kernel_rfl) (fun _ _ _ h => h) (Or.inl ⟨by rfl, ?hy67⟩) (by assumption) ?rest67
          case hy67 => (intro wz hSw; (try dsimp only at hSw); go_simp; try with_reducible rfl)
          (try simp only [Act.put, List.setIfInBounds_toArray, List.set_cons_zero, List.set_cons_succ])
          refine wpAnyM_take (i := 16) (oi := { dst := some 46, op := Go.Op.load 32 (Go.Operand.tmp 45), type := 32, pos := "path.go:93", after := #[{ on := 15, ground := Go.Ground.data }, { on := 11, ground := Go.Ground.guard }], guard := some (11, false) }) (v := ?v68) rfl (by kernel_rfl) (fun _ _ _ h => h) (Or.inl ⟨by rfl, ?hy68⟩) (by assumption) ?rest68
          case hy68 => (intro wz hSw; (try dsimp only at hSw); go_simp; try with_reducible rfl)
          (try simp only [Act.put, List.setIfInBounds_toArray, List.set_cons_zero, List.set_cons_succ])
          refine wpAnyM_take (i := 17) (oi := { dst := some 47, op := Go.Op.fieldAddr 34 (Go.Operand.tmp 3) 3, type := 0, pos := "path.go:93", after := #[{ on := 11, ground := Go.Ground.guard }], guard := some (11, false) }) (v := ?v69) rfl (by kernel_rfl) (fun _ _ _ h => h) (Or.inl ⟨by rfl, ?hy69⟩) (by assumption) ?rest69
          case hy69 => (intro wz hSw; (try dsimp only at hSw); go_simp; try with_reducible rfl)
          (try simp only [Act.put, List.setIfInBounds_toArray, List.set_cons_zero, List.set_cons_succ])
          refine wpAnyM_take (i := 18) (oi := { dst := some 48, op := Go.Op.load 27 (Go.Operand.tmp 47), type := 27, pos := "path.go:93", after := #[{ on := 17, ground := Go.Ground.data }, { on := 11, ground := Go.Ground.guard }], guard := some (11, false) }) (v := ?v70) rfl (by kernel_rfl) (fun _ _ _ h => h) (Or.inl ⟨by rfl, ?hy70⟩) (by assumption) ?rest70
          case hy70 => (intro wz hSw; (try dsimp only at hSw); go_simp; try with_reducible rfl)
          (try simp only [Act.put, List.setIfInBounds_toArray, List.set_cons_zero, List.set_cons_succ])
          refine wpAnyM_take (i := 19) (oi := { dst := some 49, op := Go.Op.move (Go.Operand.tmp 7), type := 3, pos := "path.go:93", after := #[{ on := 11, ground := Go.Ground.guard }], guard := some (11, false) }) (v := ?v71) rfl (by kernel_rfl) (fun _ _ _ h => h) (Or.inl ⟨by rfl, ?hy71⟩) (by assumption) ?rest71
          case hy71 => (intro wz hSw; (try dsimp only at hSw); go_simp; try with_reducible rfl)
          (try simp only [Act.put, List.setIfInBounds_toArray, List.set_cons_zero, List.set_cons_succ])
          refine wpAnyM_take (i := 20) (oi := { dst := some 50, op := Go.Op.indexAddr 27 (Go.Operand.tmp 48) (Go.Operand.tmp 49), type := 0, pos := "path.go:93", after := #[{ on := 18, ground := Go.Ground.data }, { on := 19, ground := Go.Ground.data }, { on := 11, ground := Go.Ground.guard }], guard := some (11, false) }) (v := ?v72) rfl (by kernel_rfl) (fun _ _ _ h => h) (Or.inl ⟨by rfl, ?hy72⟩) (by assumption) ?rest72
          case hy72 => (intro wz hSw; (try dsimp only at hSw); go_simp; try with_reducible rfl)
          (try simp only [Act.put, List.setIfInBounds_toArray, List.set_cons_zero, List.set_cons_succ])
          refine wpAnyM_take (i := 21) (oi := { dst := some 51, op := Go.Op.load 32 (Go.Operand.tmp 50), type := 32, pos := "path.go:93", after := #[{ on := 20, ground := Go.Ground.data }, { on := 11, ground := Go.Ground.guard }], guard := some (11, false) }) (v := ?v73) rfl (by kernel_rfl) (fun _ _ _ h => h) (Or.inl ⟨by rfl, ?hy73⟩) (by assumption) ?rest73
          case hy73 => (intro wz hSw; (try dsimp only at hSw); go_simp; try with_reducible rfl)
          (try simp only [Act.put, List.setIfInBounds_toArray, List.set_cons_zero, List.set_cons_succ])
          refine wpAnyM_ready (rs := [22]) (by kernel_rfl) (by simp) ?_
          refine AllReadyM.cons (o := { dst := some 52, op := Go.Op.call { callee := Go.Callee.value (Go.Operand.func 133), args := #[Go.Operand.tmp 46, Go.Operand.tmp 51], argTypes := #[32, 32] }, type := 4, pos := "path.go:93", after := #[{ on := 16, ground := Go.Ground.data }, { on := 21, ground := Go.Ground.data }, { on := 11, ground := Go.Ground.chain }, { on := 11, ground := Go.Ground.guard }], guard := some (11, false) }) rfl (fun K hK => ?_) AllReadyM.nil
          refine step_callW _ (by rfl) 133 [.tmp 46, .tmp 51] #[32, 32] rfl (by kernel_rfl) [_, _] rfl (HEQ.out _ (HX.out _ HEd.out).2.2) ?_
          rintro en wf ⟨rfl, hE⟩
          refine ⟨_, rfl, ?_⟩
          have HF := hid (HEd.out.trans hE)
          clear hE
          refine hK.out _ _ ?hS74 (fun hHeld => ?_)
          case hS74 => (exact K7.out _ HF.out)
          clear hK K
          (try simp only [Act.put, List.setIfInBounds_toArray, List.set_cons_zero, List.set_cons_succ])
          refine wpAnyM_take (i := 23) (oi := { dst := some 53, op := Go.Op.unOp Go.UnOp.not 4 (Go.Operand.tmp 52), type := 4, pos := "path.go:93", after := #[{ on := 22, ground := Go.Ground.data }, { on := 11, ground := Go.Ground.guard }], guard := some (11, false) }) (v := ?v75) rfl (by kernel_rfl) (fun _ _ _ h => h) (Or.inl ⟨by rfl, ?hy75⟩) (by assumption) ?rest75
          case hy75 => (intro wz hSw; (try dsimp only at hSw); go_simp; try with_reducible rfl)
          (try simp only [Act.put, List.setIfInBounds_toArray, List.set_cons_zero, List.set_cons_succ])
          refine wpAnyM_take (i := 24) (oi := { dst := some 54, op := Go.Op.pick (Go.Operand.tmp 41) (Go.Operand.const (Go.Value.bool true)) (Go.Operand.tmp 53), type := 4, pos := "path.go:93", after := #[{ on := 11, ground := Go.Ground.data }, { on := 23, ground := Go.Ground.data }], guard := none }) (v := ?v76) rfl (by kernel_rfl) (fun _ _ _ h => h) (Or.inl ⟨by rfl, ?hy76⟩) (by assumption) ?rest76
          case hy76 => (intro wz hSw; (try dsimp only at hSw); go_simp; try with_reducible rfl)
          (try simp only [Act.put, List.setIfInBounds_toArray, List.set_cons_zero, List.set_cons_succ])
          refine wpAnyM_done (by kernel_rfl) ?_ _
          go_wp2_with fail
          go_ret
          exact ⟨congrArg (fun z => Ending.returned (.bool z)) (show false = eqFs eqT (keyT ea) (keyT eb) by rw [HST.out]; simp), (HX.out _ HF.out).2.2⟩
      · have e1 : (u.toList == u'.toList) = false := by rw [ba_toList_beq, decide_eq_false he]
        have RES := hid (show false = eqFs eqT (keyT ea) (keyT eb) by rw [HST.out, decide_eq_false he]; simp)
        clear he
        refine wp_region_late (fun w' : World => w'.cell? ⟨w.heap.size, 2, none⟩ = some (.slice (some ⟨kb, ko, none⟩) ea.keys.length xc) ∧ w'.cell? ⟨w.heap.size + 1, 2, none⟩ = some (.slice (some ⟨kb', ko', none⟩) eb.keys.length yc) ∧ w'.cell? ⟨w.heap.size, 3, none⟩ = some (.slice (some ⟨lb, lo, none⟩) ea.l.length xd) ∧ w'.cell? ⟨w.heap.size + 1, 3, none⟩ = some (.slice (some ⟨lb', lo', none⟩) eb.l.length yd) ∧ w'.cell? ⟨kb, ko + j, none⟩ = some (.string u) ∧ w'.cell? ⟨kb', ko' + j, none⟩ = some (.string u') ∧ w'.cell? ⟨lb, lo + j * 6, none⟩ = some (.int .i64 r1) ∧ w'.cell? ⟨lb, lo + j * 6 + 1, none⟩ = some (.int .i64 r2) ∧ w'.cell? ⟨lb, lo + j * 6 + 2, none⟩ = some (.float .f64 r3) ∧ w'.cell? ⟨lb, lo + j * 6 + 3, none⟩ = some (.string r4) ∧ w'.cell? ⟨lb, lo + j * 6 + 4, none⟩ = some (.slice r5 r6 r7) ∧ w'.cell? ⟨lb, lo + j * 6 + 5, none⟩ = some (.slice r8 r9 r10) ∧ w'.cell? ⟨lb', lo' + j * 6, none⟩ = some (.int .i64 t1) ∧ w'.cell? ⟨lb', lo' + j * 6 + 1, none⟩ = some (.int .i64 t2) ∧ w'.cell? ⟨lb', lo' + j * 6 + 2, none⟩ = some (.float .f64 t3) ∧ w'.cell? ⟨lb', lo' + j * 6 + 3, none⟩ = some (.string t4) ∧ w'.cell? ⟨lb', lo' + j * 6 + 4, none⟩ = some (.slice t5 t6 t7) ∧ w'.cell? ⟨lb', lo' + j * 6 + 5, none⟩ = some (.slice t8 t9 t10)) [] (by kernel_rfl) ?hS77 (fun hHeld => ?_)
        case hS77 => (exact K7.out _ HEd.out)
        generalize wr.drew = wd7 at *
        change wpAnyM _ _ _ _ _ _ 25 #[false, false, false, false, false, false, false, false, false, false, false, false, false, false, false, false, false, false, false, false, false, false, false, false, false] _ _
        refine wpAnyM_take (i := 0) (oi := { dst := some 30, op := Go.Op.fieldAddr 34 (Go.Operand.tmp 2) 2, type := 0, pos := "path.go:93", after := #[], guard := none }) (v := ?v78) rfl (by kernel_rfl) (fun _ _ _ h => h) (Or.inl ⟨by rfl, ?hy78⟩) (by assumption) ?rest78
        case hy78 => (intro wz hSw; (try dsimp only at hSw); go_simp; try with_reducible rfl)
        (try simp only [Act.put, List.setIfInBounds_toArray, List.set_cons_zero, List.set_cons_succ])
        refine wpAnyM_take (i := 1) (oi := { dst := some 31, op := Go.Op.load 26 (Go.Operand.tmp 30), type := 26, pos := "path.go:93", after := #[{ on := 0, ground := Go.Ground.data }], guard := none }) (v := ?v79) rfl (by kernel_rfl) (fun _ _ _ h => h) (Or.inl ⟨by rfl, ?hy79⟩) (by assumption) ?rest79
        case hy79 => (intro wz hSw; (try dsimp only at hSw); go_simp; try with_reducible rfl)
        (try simp only [Act.put, List.setIfInBounds_toArray, List.set_cons_zero, List.set_cons_succ])
        refine wpAnyM_take (i := 2) (oi := { dst := some 32, op := Go.Op.move (Go.Operand.tmp 7), type := 3, pos := "path.go:93", after := #[], guard := none }) (v := ?v80) rfl (by kernel_rfl) (fun _ _ _ h => h) (Or.inl ⟨by rfl, ?hy80⟩) (by assumption) ?rest80
        case hy80 => (intro wz hSw; (try dsimp only at hSw); go_simp; try with_reducible rfl)
        (try simp only [Act.put, List.setIfInBounds_toArray, List.set_cons_zero, List.set_cons_succ])
        refine wpAnyM_take (i := 3) (oi := { dst := some 33, op := Go.Op.indexAddr 26 (Go.Operand.tmp 31) (Go.Operand.tmp 32), type := 0, pos := "path.go:93", after := #[{ on := 1, ground := Go.Ground.data }, { on := 2, ground := Go.Ground.data }], guard := none }) (v := ?v81) rfl (by kernel_rfl) (fun _ _ _ h => h) (Or.inl ⟨by rfl, ?hy81⟩) (by assumption) ?rest81
        case hy81 => (intro wz hSw; (try dsimp only at hSw); go_simp; try with_reducible rfl)
        (try simp only [Act.put, List.setIfInBounds_toArray, List.set_cons_zero, List.set_cons_succ])
        refine wpAnyM_take (i := 4) (oi := { dst := some 34, op := Go.Op.load 9 (Go.Operand.tmp 33), type := 9, pos := "path.go:93", after := #[{ on := 3, ground := Go.Ground.data }], guard := none }) (v := ?v82) rfl (by kernel_rfl) (fun _ _ _ h => h) (Or.inl ⟨by rfl, ?hy82⟩) (by assumption) ?rest82
        case hy82 => (intro wz hSw; (try dsimp only at hSw); go_simp; try with_reducible rfl)
        (try simp only [Act.put, List.setIfInBounds_toArray, List.set_cons_zero, List.set_cons_succ])
        refine wpAnyM_take (i := 5) (oi := { dst := some 35, op := Go.Op.fieldAddr 34 (Go.Operand.tmp 3) 2, type := 0, pos := "path.go:93", after := #[], guard := none }) (v := ?v83) rfl (by kernel_rfl) (fun _ _ _ h => h) (Or.inl ⟨by rfl, ?hy83⟩) (by assumption) ?rest83
        case hy83 => (intro wz hSw; (try dsimp only at hSw); go_simp; try with_reducible rfl)
        (try simp only [Act.put, List.setIfInBounds_toArray, List.set_cons_zero, List.set_cons_succ])
        refine wpAnyM_take (i := 6) (oi := { dst := some 36, op := Go.Op.load 26 (Go.Operand.tmp 35), type := 26, pos := "path.go:93", after := #[{ on := 5, ground := Go.Ground.data }], guard := none }) (v := ?v84) rfl (by kernel_rfl) (fun _ _ _ h => h) (Or.inl ⟨by rfl, ?hy84⟩) (by assumption) ?rest84
        case hy84 => (intro wz hSw; (try dsimp only at hSw); go_simp; try with_reducible rfl)
        (try simp only [Act.put, List.setIfInBounds_toArray, List.set_cons_zero, List.set_cons_succ])
        refine wpAnyM_take (i := 7) (oi := { dst := some 37, op := Go.Op.move (Go.Operand.tmp 7), type := 3, pos := "path.go:93", after := #[], guard := none }) (v := ?v85) rfl (by kernel_rfl) (fun _ _ _ h => h) (Or.inl ⟨by rfl, ?hy85⟩) (by assumption) ?rest85
        case hy85 => (intro wz hSw; (try dsimp only at hSw); go_simp; try with_reducible rfl)
        (try simp only [Act.put, List.setIfInBounds_toArray, List.set_cons_zero, List.set_cons_succ])
        refine wpAnyM_take (i := 8) (oi := { dst := some 38, op := Go.Op.indexAddr 26 (Go.Operand.tmp 36) (Go.Operand.tmp 37), type := 0, pos := "path.go:93", after := #[{ on := 6, ground := Go.Ground.data }, { on := 7, ground := Go.Ground.data }], guard := none }) (v := ?v86) rfl (by kernel_rfl) (fun _ _ _ h => h) (Or.inl ⟨by rfl, ?hy86⟩) (by assumption) ?rest86
        case hy86 => (intro wz hSw; (try dsimp only at hSw); go_simp; try with_reducible rfl)
        (try simp only [Act.put, List.setIfInBounds_toArray, List.set_cons_zero, List.set_cons_succ])
        refine wpAnyM_take (i := 9) (oi := { dst := some 39, op := Go.Op.load 9 (Go.Operand.tmp 38), type := 9, pos := "path.go:93", after := #[{ on := 8, ground := Go.Ground.data }], guard := none }) (v := ?v87) rfl (by kernel_rfl) (fun _ _ _ h => h) (Or.inl ⟨by rfl, ?hy87⟩) (by assumption) ?rest87
        case hy87 => (intro wz hSw; (try dsimp only at hSw); go_simp; try with_reducible rfl)
        (try simp only [Act.put, List.setIfInBounds_toArray, List.set_cons_zero, List.set_cons_succ])
        refine wpAnyM_take (i := 10) (oi := { dst := some 40, op := Go.Op.binOp Go.BinOp.neq 9 (Go.Operand.tmp 34) (Go.Operand.tmp 39) 9, type := 4, pos := "path.go:93", after := #[{ on := 4, ground := Go.Ground.data }, { on := 9, ground := Go.Ground.data }], guard := none }) (v := ?v88) rfl (by kernel_rfl) (fun _ _ _ h => h) (Or.inl ⟨by rfl, ?hy88⟩) (by assumption) ?rest88
        case hy88 => (intro wz hSw; (try dsimp only at hSw); go_simp; try with_reducible rfl)
        (try simp only [Act.put, List.setIfInBounds_toArray, List.set_cons_zero, List.set_cons_succ])
        refine wpAnyM_take (i := 11) (oi := { dst := some 41, op := Go.Op.move (Go.Operand.tmp 40), type := 4, pos := "path.go:93", after := #[{ on := 10, ground := Go.Ground.data }], guard := none }) (v := ?v89) rfl (by kernel_rfl) (fun _ _ _ h => h) (Or.inl ⟨by rfl, ?hy89⟩) (by assumption) ?rest89
        case hy89 => (intro wz hSw; (try dsimp only at hSw); go_simp; try with_reducible rfl)
        (try simp only [Act.put, List.setIfInBounds_toArray, List.set_cons_zero, List.set_cons_succ])
        refine wpAnyM_take (i := 12) (oi := { dst := some 42, op := Go.Op.fieldAddr 34 (Go.Operand.tmp 2) 3, type := 0, pos := "path.go:93", after := #[{ on := 11, ground := Go.Ground.guard }], guard := some (11, false) }) (v := undef) rfl (by kernel_rfl) (fun _ _ _ h => h) (Or.inr ⟨by rfl, rfl⟩) (by assumption) ?_
        (try simp only [Act.put, List.setIfInBounds_toArray, List.set_cons_zero, List.set_cons_succ])
        refine wpAnyM_take (i := 13) (oi := { dst := some 43, op := Go.Op.load 27 (Go.Operand.tmp 42), type := 27, pos := "path.go:93", after := #[{ on := 12, ground := Go.Ground.data }, { on := 11, ground := Go.Ground.guard }], guard := some (11, false) }) (v := undef) rfl (by kernel_rfl) (fun _ _ _ h => h) (Or.inr ⟨by rfl, rfl⟩) (by assumption) ?_
        (try simp only [Act.put, List.setIfInBounds_toArray, List.set_cons_zero, List.set_cons_succ])
        refine wpAnyM_take (i := 14) (oi := { dst := some 44, op := Go.Op.move (Go.Operand.tmp 7), type := 3, pos := "path.go:93", after := #[{ on := 11, ground := Go.Ground.guard }], guard := some (11, false) }) (v := undef) rfl (by kernel_rfl) (fun _ _ _ h => h) (Or.inr ⟨by rfl, rfl⟩) (by assumption) ?_
        (try simp only [Act.put, List.setIfInBounds_toArray, List.set_cons_zero, List.set_cons_succ])
        refine wpAnyM_take (i := 15) (oi := { dst := some 45, op := Go.Op.indexAddr 27 (Go.Operand.tmp 43) (Go.Operand.tmp 44), type := 0, pos := "path.go:93", after := #[{ on := 13, ground := Go.Ground.data }, { on := 14, ground := Go.Ground.data }, { on := 11, ground := Go.Ground.guard }], guard := some (11, false) }) (v := undef) rfl (by kernel_rfl) (fun _ _ _ h => h) (Or.inr ⟨by rfl, rfl⟩) (by assumption) ?_
        (try simp only [Act.put, List.setIfInBounds_toArray, List.set_cons_zero, List.set_cons_succ])
        refine wpAnyM_take (i := 16) (oi := { dst := some 46, op := Go.Op.load 32 (Go.Operand.tmp 45), type := 32, pos := "path.go:93", after := #[{ on := 15, ground := Go.Ground.data }, { on := 11, ground := Go.Ground.guard }], guard := some (11, false) }) (v := undef) rfl (by kernel_rfl) (fun _ _ _ h => h) (Or.inr ⟨by rfl, rfl⟩) (by assumption) ?_
        (try simp only [Act.put, List.setIfInBounds_toArray, List.set_cons_zero, List.set_cons_succ])
        refine wpAnyM_take (i := 17) (oi := { dst := some 47, op := Go.Op.fieldAddr 34 (Go.Operand.tmp 3) 3, type := 0, pos := "path.go:93", after := #[{ on := 11, ground := Go.Ground.guard }], guard := some (11, false) }) (v := undef) rfl (by kernel_rfl) (fun _ _ _ h => h) (Or.inr ⟨by rfl, rfl⟩) (by assumption) ?_
        (try simp only [Act.put, List.setIfInBounds_toArray, List.set_cons_zero, List.set_cons_succ])
        refine wpAnyM_take (i := 18) (oi := { dst := some 48, op := Go.Op.load 27 (Go.Operand.tmp 47), type := 27, pos := "path.go:93", after := #[{ on := 17, ground := Go.Ground.data }, { on := 11, ground := Go.Ground.guard }], guard := some (11, false) }) (v := undef) rfl (by kernel_rfl) (fun _ _ _ h => h) (Or.inr ⟨by rfl, rfl⟩) (by assumption) ?_
        (try simp only [Act.put, List.setIfInBounds_toArray, List.set_cons_zero, List.set_cons_succ])
        refine wpAnyM_take (i := 19) (oi := { dst := some 49, op := Go.Op.move (Go.Operand.tmp 7), type := 3, pos := "path.go:93", after := #[{ on := 11, ground := Go.Ground.guard }], guard := some (11, false) }) (v := undef) rfl (by kernel_rfl) (fun _ _ _ h => h) (Or.inr ⟨by rfl, rfl⟩) (by assumption) ?_
        (try simp only [Act.put, List.setIfInBounds_toArray, List.set_cons_zero, List.set_cons_succ])
        refine wpAnyM_take (i := 20) (oi := { dst := some 50, op := Go.Op.indexAddr 27 (Go.Operand.tmp 48) (Go.Operand.tmp 49), type := 0, pos := "path.go:93", after := #[{ on := 18, ground := Go.Ground.data }, { on := 19, ground := Go.Ground.data }, { on := 11, ground := Go.Ground.guard }], guard := some (11, false) }) (v := undef) rfl (by kernel_rfl) (fun _ _ _ h => h) (Or.inr ⟨by rfl, rfl⟩) (by assumption) ?_
        (try simp only [Act.put, List.setIfInBounds_toArray, List.set_cons_zero, List.set_cons_succ])
        refine wpAnyM_take (i := 21) (oi := { dst := some 51, op := Go.Op.load 32 (Go.Operand.tmp 50), type := 32, pos := "path.go:93", after := #[{ on := 20, ground := Go.Ground.data }, { on := 11, ground := Go.Ground.guard }], guard := some (11, false) }) (v := undef) rfl (by kernel_rfl) (fun _ _ _ h => h) (Or.inr ⟨by rfl, rfl⟩) (by assumption) ?_
        (try simp only [Act.put, List.setIfInBounds_toArray, List.set_cons_zero, List.set_cons_succ])
        refine wpAnyM_take (i := 22) (oi := { dst := some 52, op := Go.Op.call { callee := Go.Callee.value (Go.Operand.func 133), args := #[Go.Operand.tmp 46, Go.Operand.tmp 51], argTypes := #[32, 32] }, type := 4, pos := "path.go:93", after := #[{ on := 16, ground := Go.Ground.data }, { on := 21, ground := Go.Ground.data }, { on := 11, ground := Go.Ground.chain }, { on := 11, ground := Go.Ground.guard }], guard := some (11, false) }) (v := undef) rfl (by kernel_rfl) (fun _ _ _ h => h) (Or.inr ⟨by rfl, rfl⟩) (by assumption) ?_
        (try simp only [Act.put, List.setIfInBounds_toArray, List.set_cons_zero, List.set_cons_succ])
        refine wpAnyM_take (i := 23) (oi := { dst := some 53, op := Go.Op.unOp Go.UnOp.not 4 (Go.Operand.tmp 52), type := 4, pos := "path.go:93", after := #[{ on := 22, ground := Go.Ground.data }, { on := 11, ground := Go.Ground.guard }], guard := some (11, false) }) (v := undef) rfl (by kernel_rfl) (fun _ _ _ h => h) (Or.inr ⟨by rfl, rfl⟩) (by assumption) ?_
        (try simp only [Act.put, List.setIfInBounds_toArray, List.set_cons_zero, List.set_cons_succ])
        refine wpAnyM_take (i := 24) (oi := { dst := some 54, op := Go.Op.pick (Go.Operand.tmp 41) (Go.Operand.const (Go.Value.bool true)) (Go.Operand.tmp 53), type := 4, pos := "path.go:93", after := #[{ on := 11, ground := Go.Ground.data }, { on := 23, ground := Go.Ground.data }], guard := none }) (v := ?v90) rfl (by kernel_rfl) (fun _ _ _ h => h) (Or.inl ⟨by rfl, ?hy90⟩) (by assumption) ?rest90
        case hy90 => (intro wz hSw; (try dsimp only at hSw); go_simp; try with_reducible rfl)
        (try simp only [Act.put, List.setIfInBounds_toArray, List.set_cons_zero, List.set_cons_succ])
        refine wpAnyM_done (by kernel_rfl) ?_ _
        go_wp2_with fail
        go_ret
        exact ⟨congrArg (fun z => Ending.returned (.bool z)) RES.out, (HX.out _ HEd.out).2.2⟩
    · have RES := hid (show true = eqFs eqT (keyT ea) (keyT eb) by
        have h := HP.out
        rw [List.drop_eq_nil_of_le (by rw [HL1.out]; omega), List.drop_eq_nil_of_le (by rw [HL2.out]; omega)] at h
        rw [← h]; rfl)
      go_wp2_with fail
      go_ret
      exact ⟨congrArg (fun z => Ending.returned (.bool z)) RES.out, (HX.out _ HE.out).2.2⟩
theorem rank_form (e : GE) : ((toEl e).rank = 1 → toEl e = .key (keyT e)) ∧ ((toEl e).rank = 2 → toEl e = .val (plainT e.v)) ∧ ((toEl e).rank = 3 → toEl e = .idx e.n) ∧ ((toEl e).rank = 0 → toEl e = .fld e.s) := by
  unfold toEl
  split
  · simp [El.rank]
  · split
    · simp [El.rank]
    · split <;> simp [El.rank]
theorem eqE_rank {a b : El} (h : a.rank ≠ b.rank) : eqE a b = false := by
  cases a <;> cases b <;> first | rfl | (exact absurd rfl h)
theorem rank_le (e : El) : e.rank ≤ 3 := by cases e <;> simp [El.rank]
set_option maxHeartbeats 8000000 in
theorem specEqE (ea eb : GE) (w : World) (ca cb : List Value) (hA : RepGE Any w ea ca) (hB : RepGE Any w eb cb) : Calls Try.prog 120 #[.agg ca.toArray, .agg cb.toArray] w fun e w' => e = .returned (.bool (eqE (toEl ea) (toEl eb))) ∧ Ext w w' := by
  have HA := hid hA
  have HB := hid hB
  obtain ⟨xa, xc, xb, xd, v0, v1, v2, v3, v4, v5, rfl, -, -, -, -, -, hv1⟩ := hA
  obtain ⟨p1, p2, p3, p4, p5, p6, p7, p8, p9, p10, e1⟩ := hv1.form
  simp only [List.cons.injEq, and_true] at e1
  obtain ⟨rfl, rfl, rfl, rfl, rfl, rfl⟩ := e1
  obtain ⟨ya, yc, yb, yd, v0, v1, v2, v3, v4, v5, rfl, -, -, -, -, -, hv2⟩ := hB
  obtain ⟨q1, q2, q3, q4, q5, q6, q7, q8, q9, q10, e1⟩ := hv2.form
  simp only [List.cons.injEq, and_true] at e1
  obtain ⟨rfl, rfl, rfl, rfl, rfl, rfl⟩ := e1
  have HV1 := hid hv1
  have HV2 := hid hv2
  have HRA := hid (fun (W : World) (E : Ext w W) => rank_any ea _ W (HA.out.ext E))
  have HRB := hid (fun (W : World) (E : Ext w W) => rank_any eb _ W (HB.out.ext E))
  have HX := hid (show ∀ W : World, Ext ((w.alloc (.cells #[.int .i64 ea.kind, .string ea.s, .slice xa ea.keys.length xc, .slice xb ea.l.length xd, .int .i64 p1, .int .i64 p2, .float .f64 p3, .string p4, .slice p5 p6 p7, .slice p8 p9 p10, .int .i64 ea.n] 34)).alloc (.cells #[.int .i64 eb.kind, .string eb.s, .slice ya eb.keys.length yc, .slice yb eb.l.length yd, .int .i64 q1, .int .i64 q2, .float .f64 q3, .string q4, .slice q5 q6 q7, .slice q8 q9 q10, .int .i64 eb.n] 34)) W → W.heap[w.heap.size]? = some (.cells #[.int .i64 ea.kind, .string ea.s, .slice xa ea.keys.length xc, .slice xb ea.l.length xd, .int .i64 p1, .int .i64 p2, .float .f64 p3, .string p4, .slice p5 p6 p7, .slice p8 p9 p10, .int .i64 ea.n] 34) ∧ W.heap[w.heap.size + 1]? = some (.cells #[.int .i64 eb.kind, .string eb.s, .slice ya eb.keys.length yc, .slice yb eb.l.length yd, .int .i64 q1, .int .i64 q2, .float .f64 q3, .string q4, .slice q5 q6 q7, .slice q8 q9 q10, .int .i64 eb.n] 34) ∧ Ext w W from fun W h => ⟨h.block (first_heap w _ _), h.block (second_heap w _ _), (((Ext.refl w).alloc _).alloc _).trans h⟩)
  clear hv1 hv2
  go_enter Try.func120, Try.ntmps120
  go_upto_region 1 with fail
  have HEd := hid (show Ext ((w.alloc (.cells #[.int .i64 ea.kind, .string ea.s, .slice xa ea.keys.length xc, .slice xb ea.l.length xd, .int .i64 p1, .int .i64 p2, .float .f64 p3, .string p4, .slice p5 p6 p7, .slice p8 p9 p10, .int .i64 ea.n] 34)).alloc (.cells #[.int .i64 eb.kind, .string eb.s, .slice ya eb.keys.length yc, .slice yb eb.l.length yd, .int .i64 q1, .int .i64 q2, .float .f64 q3, .string q4, .slice q5 q6 q7, .slice q8 q9 q10, .int .i64 eb.n] 34)) ((w.alloc (.cells #[.int .i64 ea.kind, .string ea.s, .slice xa ea.keys.length xc, .slice xb ea.l.length xd, .int .i64 p1, .int .i64 p2, .float .f64 p3, .string p4, .slice p5 p6 p7, .slice p8 p9 p10, .int .i64 ea.n] 34)).alloc (.cells #[.int .i64 eb.kind, .string eb.s, .slice ya eb.keys.length yc, .slice yb eb.l.length yd, .int .i64 q1, .int .i64 q2, .float .f64 q3, .string q4, .slice q5 q6 q7, .slice q8 q9 q10, .int .i64 eb.n] 34)).drew from (Ext.refl _).drew)
  generalize ((w.alloc (.cells #[.int .i64 ea.kind, .string ea.s, .slice xa ea.keys.length xc, .slice xb ea.l.length xd, .int .i64 p1, .int .i64 p2, .float .f64 p3, .string p4, .slice p5 p6 p7, .slice p8 p9 p10, .int .i64 ea.n] 34)).alloc (.cells #[.int .i64 eb.kind, .string eb.s, .slice ya eb.keys.length yc, .slice yb eb.l.length yd, .int .i64 q1, .int .i64 q2, .float .f64 q3, .string q4, .slice q5 q6 q7, .slice q8 q9 q10, .int .i64 eb.n] 34)) = w1 at *
  refine wp_region_late (fun w' : World => w'.cell? ⟨w.heap.size, 0, none⟩ = some (.int .i64 ea.kind) ∧ w'.cell? ⟨w.heap.size, 1, none⟩ = some (.string ea.s) ∧ w'.cell? ⟨w.heap.size, 2, none⟩ = some (.slice xa ea.keys.length xc) ∧ w'.cell? ⟨w.heap.size, 3, none⟩ = some (.slice xb ea.l.length xd) ∧ w'.cell? ⟨w.heap.size, 4, none⟩ = some (.int .i64 p1) ∧ w'.cell? ⟨w.heap.size, 5, none⟩ = some (.int .i64 p2) ∧ w'.cell? ⟨w.heap.size, 6, none⟩ = some (.float .f64 p3) ∧ w'.cell? ⟨w.heap.size, 7, none⟩ = some (.string p4) ∧ w'.cell? ⟨w.heap.size, 8, none⟩ = some (.slice p5 p6 p7) ∧ w'.cell? ⟨w.heap.size, 9, none⟩ = some (.slice p8 p9 p10) ∧ w'.cell? ⟨w.heap.size, 10, none⟩ = some (.int .i64 ea.n) ∧ w'.cell? ⟨w.heap.size + 1, 0, none⟩ = some (.int .i64 eb.kind) ∧ w'.cell? ⟨w.heap.size + 1, 1, none⟩ = some (.string eb.s) ∧ w'.cell? ⟨w.heap.size + 1, 2, none⟩ = some (.slice ya eb.keys.length yc) ∧ w'.cell? ⟨w.heap.size + 1, 3, none⟩ = some (.slice yb eb.l.length yd) ∧ w'.cell? ⟨w.heap.size + 1, 4, none⟩ = some (.int .i64 q1) ∧ w'.cell? ⟨w.heap.size + 1, 5, none⟩ = some (.int .i64 q2) ∧ w'.cell? ⟨w.heap.size + 1, 6, none⟩ = some (.float .f64 q3) ∧ w'.cell? ⟨w.heap.size + 1, 7, none⟩ = some (.string q4) ∧ w'.cell? ⟨w.heap.size + 1, 8, none⟩ = some (.slice q5 q6 q7) ∧ w'.cell? ⟨w.heap.size + 1, 9, none⟩ = some (.slice q8 q9 q10) ∧ w'.cell? ⟨w.heap.size + 1, 10, none⟩ = some (.int .i64 eb.n)) [] (by kernel_rfl) ?hS91 (fun hHeld => ?_)
  case hS91 => (obtain ⟨⟨z0, z1, z2, z3, z4, z5, z6, z7, z8, z9, z10⟩, -⟩ := slot11 (HX.out _ HEd.out).1; obtain ⟨⟨y0, y1, y2, y3, y4, y5, y6, y7, y8, y9, y10⟩, -⟩ := slot11 (HX.out _ HEd.out).2.1; exact ⟨z0, z1, z2, z3, z4, z5, z6, z7, z8, z9, z10, y0, y1, y2, y3, y4, y5, y6, y7, y8, y9, y10⟩)
  generalize w1.drew = wd at *
  change wpAnyM _ _ _ _ _ _ 5 #[false, false, false, false, false] _ _
  refine wpAnyM_take (i := 0) (oi := { dst := some 5, op := Go.Op.load 34 (Go.Operand.tmp 2), type := 34, pos := "path.go:146", after := #[], guard := none }) (v := ?v92) rfl (by kernel_rfl) (fun _ _ _ h => h) (Or.inl ⟨by rfl, ?hy92⟩) (by assumption) ?rest92
  case hy92 => (intro wz hSw; (try dsimp only at hSw); go_simp; try with_reducible rfl)
  (try simp only [Act.put, List.setIfInBounds_toArray, List.set_cons_zero, List.set_cons_succ])
  refine wpAnyM_take (i := 2) (oi := { dst := some 7, op := Go.Op.load 34 (Go.Operand.tmp 3), type := 34, pos := "path.go:146", after := #[], guard := none }) (v := ?v93) rfl (by kernel_rfl) (fun _ _ _ h => h) (Or.inl ⟨by rfl, ?hy93⟩) (by assumption) ?rest93
  case hy93 => (intro wz hSw; (try dsimp only at hSw); go_simp; try with_reducible rfl)
  (try simp only [Act.put, List.setIfInBounds_toArray, List.set_cons_zero, List.set_cons_succ])
  refine wpAnyM_ready (rs := [1]) (by kernel_rfl) (by simp) ?_
  refine AllReadyM.cons (o := { dst := some 6, op := Go.Op.call { callee := Go.Callee.value (Go.Operand.func 131), args := #[Go.Operand.tmp 5], argTypes := #[34] }, type := 3, pos := "path.go:146", after := #[{ on := 0, ground := Go.Ground.data }], guard := none }) rfl (fun K hK => ?_) AllReadyM.nil
  refine step_call _ rfl 131 [.tmp 5] #[34] rfl (by kernel_rfl) [_] rfl (HRA.out _ (HX.out _ HEd.out).2.2) ?_
  rintro en w2 ⟨rfl, hE⟩
  refine ⟨_, rfl, ?_⟩
  have HF1 := hid (HEd.out.trans hE)
  clear hE
  refine hK.out _ _ ?hS94 (fun hHeld => ?_)
  case hS94 => (obtain ⟨⟨z0, z1, z2, z3, z4, z5, z6, z7, z8, z9, z10⟩, -⟩ := slot11 (HX.out _ HF1.out).1; obtain ⟨⟨y0, y1, y2, y3, y4, y5, y6, y7, y8, y9, y10⟩, -⟩ := slot11 (HX.out _ HF1.out).2.1; exact ⟨z0, z1, z2, z3, z4, z5, z6, z7, z8, z9, z10, y0, y1, y2, y3, y4, y5, y6, y7, y8, y9, y10⟩)
  clear hK K
  (try simp only [Act.put, List.setIfInBounds_toArray, List.set_cons_zero, List.set_cons_succ])
  refine wpAnyM_ready (rs := [3]) (by kernel_rfl) (by simp) ?_
  refine AllReadyM.cons (o := { dst := some 8, op := Go.Op.call { callee := Go.Callee.value (Go.Operand.func 131), args := #[Go.Operand.tmp 7], argTypes := #[34] }, type := 3, pos := "path.go:146", after := #[{ on := 2, ground := Go.Ground.data }, { on := 1, ground := Go.Ground.chain }], guard := none }) rfl (fun K hK => ?_) AllReadyM.nil
  refine step_call _ rfl 131 [.tmp 7] #[34] rfl (by kernel_rfl) [_] rfl (HRB.out _ (HX.out _ HF1.out).2.2) ?_
  rintro en w3 ⟨rfl, hE⟩
  refine ⟨_, rfl, ?_⟩
  have HF3 := hid (HF1.out.trans hE)
  clear hE
  refine hK.out _ _ ?hS95 (fun hHeld => ?_)
  case hS95 => (obtain ⟨⟨z0, z1, z2, z3, z4, z5, z6, z7, z8, z9, z10⟩, -⟩ := slot11 (HX.out _ HF3.out).1; obtain ⟨⟨y0, y1, y2, y3, y4, y5, y6, y7, y8, y9, y10⟩, -⟩ := slot11 (HX.out _ HF3.out).2.1; exact ⟨z0, z1, z2, z3, z4, z5, z6, z7, z8, z9, z10, y0, y1, y2, y3, y4, y5, y6, y7, y8, y9, y10⟩)
  clear hK K
  (try simp only [Act.put, List.setIfInBounds_toArray, List.set_cons_zero, List.set_cons_succ])
  refine wpAnyM_take (i := 4) (oi := { dst := some 9, op := Go.Op.binOp Go.BinOp.neq 3 (Go.Operand.tmp 6) (Go.Operand.tmp 8) 3, type := 4, pos := "path.go:146", after := #[{ on := 1, ground := Go.Ground.data }, { on := 3, ground := Go.Ground.data }], guard := none }) (v := ?v96) rfl (by kernel_rfl) (fun _ _ _ h => h) (Or.inl ⟨by rfl, ?hy96⟩) (by assumption) ?rest96
  case hy96 => (intro wz hSw; (try dsimp only at hSw); go_simp; try with_reducible rfl)
  (try simp only [Act.put, List.setIfInBounds_toArray, List.set_cons_zero, List.set_cons_succ])
  refine wpAnyM_done (by kernel_rfl) ?_ _
  obtain ⟨⟨z0, z1, z2, z3, z4, z5, z6, z7, z8, z9, z10⟩, -⟩ := slot11 (HX.out _ HF3.out).1
  obtain ⟨⟨y0, y1, y2, y3, y4, y5, y6, y7, y8, y9, y10⟩, -⟩ := slot11 (HX.out _ HF3.out).2.1
  by_cases hrr : (toEl ea).rank = (toEl eb).rank
  case neg =>
    have e1 : (((toEl ea).rank : Int) != ((toEl eb).rank : Int)) = true := by simp; omega
    have RES := hid (eqE_rank hrr).symm
    clear hrr
    go_wp2_with fail
    go_ret
    exact ⟨congrArg (fun z => Ending.returned (.bool z)) RES.out, (HX.out _ HF3.out).2.2⟩
  have e1 : (((toEl ea).rank : Int) != ((toEl eb).rank : Int)) = false := by simp; omega
  have hlt := rank_le (toEl ea)
  have hcs : (toEl ea).rank = 0 ∨ (toEl ea).rank = 1 ∨ (toEl ea).rank = 2 ∨ (toEl ea).rank = 3 := by omega
  rw [← hrr] at e1 ⊢
  rcases hcs with hr1 | hr1 | hr1 | hr1
  · have hr2 : (toEl eb).rank = 0 := by omega
    have RES := hid (show eqE (toEl ea) (toEl eb) = decide (ea.s = eb.s) by rw [(rank_form ea).2.2.2 hr1, (rank_form eb).2.2.2 hr2]; rfl)
    rw [hr1] at HRA e1 ⊢
    clear hrr hr1 hr2 hlt
    go_wp2_with (first
      | (go_at_call 131; refine (HRA.out _ (HX.out _ HF3.out).2.2).mono ?_; rintro en w4 ⟨rfl, hE⟩; have HF4 := hid (HF3.out.trans hE); clear hE z0 z1 z2 z3 z4 z5 z6 z7 z8 z9 z10 y0 y1 y2 y3 y4 y5 y6 y7 y8 y9 y10; obtain ⟨⟨z0, z1, z2, z3, z4, z5, z6, z7, z8, z9, z10⟩, -⟩ := slot11 (HX.out _ HF4.out).1; obtain ⟨⟨y0, y1, y2, y3, y4, y5, y6, y7, y8, y9, y10⟩, -⟩ := slot11 (HX.out _ HF4.out).2.1))
    go_ret
    exact ⟨congrArg (fun z => Ending.returned (.bool z)) ((ba_toList_beq ea.s eb.s).trans RES.out.symm), (HX.out _ HF4.out).2.2⟩
  · have hr2 : (toEl eb).rank = 1 := by omega
    have RES := hid (show eqE (toEl ea) (toEl eb) = eqFs eqT (keyT ea) (keyT eb) by rw [(rank_form ea).1 hr1, (rank_form eb).1 hr2]; rfl)
    rw [hr1] at HRA e1 ⊢
    clear hrr hr1 hr2 hlt
    go_wp2_with (first
      | (go_at_call 131; refine (HRA.out _ (HX.out _ HF3.out).2.2).mono ?_; rintro en w4 ⟨rfl, hE⟩; have HF4 := hid (HF3.out.trans hE); clear hE z0 z1 z2 z3 z4 z5 z6 z7 z8 z9 z10 y0 y1 y2 y3 y4 y5 y6 y7 y8 y9 y10; obtain ⟨⟨z0, z1, z2, z3, z4, z5, z6, z7, z8, z9, z10⟩, -⟩ := slot11 (HX.out _ HF4.out).1; obtain ⟨⟨y0, y1, y2, y3, y4, y5, y6, y7, y8, y9, y10⟩, -⟩ := slot11 (HX.out _ HF4.out).2.1)
      | (go_at_call 132; refine (specEqK ea eb _ _ _ (HA.out.ext (HX.out _ HF4.out).2.2) (HB.out.ext (HX.out _ HF4.out).2.2)).mono ?_; rintro en w5 ⟨rfl, hE⟩; have HF5 := hid (HF4.out.trans hE); clear hE))
    go_ret
    exact ⟨congrArg (fun z => Ending.returned (.bool z)) (RES.out.symm), (HX.out _ HF5.out).2.2⟩
  · have hr2 : (toEl eb).rank = 2 := by omega
    have RES := hid (show eqE (toEl ea) (toEl eb) = eqT (plainT ea.v) (plainT eb.v) by rw [(rank_form ea).2.1 hr1, (rank_form eb).2.1 hr2]; rfl)
    rw [hr1] at HRA e1 ⊢
    clear hrr hr1 hr2 hlt
    go_wp2_with (first
      | (go_at_call 131; refine (HRA.out _ (HX.out _ HF3.out).2.2).mono ?_; rintro en w4 ⟨rfl, hE⟩; have HF4 := hid (HF3.out.trans hE); clear hE z0 z1 z2 z3 z4 z5 z6 z7 z8 z9 z10 y0 y1 y2 y3 y4 y5 y6 y7 y8 y9 y10; obtain ⟨⟨z0, z1, z2, z3, z4, z5, z6, z7, z8, z9, z10⟩, -⟩ := slot11 (HX.out _ HF4.out).1; obtain ⟨⟨y0, y1, y2, y3, y4, y5, y6, y7, y8, y9, y10⟩, -⟩ := slot11 (HX.out _ HF4.out).2.1)
      | (go_at_call 133; refine (specEqV ea.v eb.v _ _ _ (HV1.out.ext (HX.out _ HF4.out).2.2) (HV2.out.ext (HX.out _ HF4.out).2.2)).mono ?_; rintro en w5 ⟨rfl, hE⟩; have HF5 := hid (HF4.out.trans hE); clear hE))
    go_ret
    exact ⟨congrArg (fun z => Ending.returned (.bool z)) (RES.out.symm), (HX.out _ HF5.out).2.2⟩
  · have hr2 : (toEl eb).rank = 3 := by omega
    have RES := hid (show eqE (toEl ea) (toEl eb) = decide (ea.n = eb.n) by rw [(rank_form ea).2.2.1 hr1, (rank_form eb).2.2.1 hr2]; rfl)
    rw [hr1] at HRA e1 ⊢
    clear hrr hr1 hr2 hlt
    go_wp2_with (first
      | (go_at_call 131; refine (HRA.out _ (HX.out _ HF3.out).2.2).mono ?_; rintro en w4 ⟨rfl, hE⟩; have HF4 := hid (HF3.out.trans hE); clear hE z0 z1 z2 z3 z4 z5 z6 z7 z8 z9 z10 y0 y1 y2 y3 y4 y5 y6 y7 y8 y9 y10; obtain ⟨⟨z0, z1, z2, z3, z4, z5, z6, z7, z8, z9, z10⟩, -⟩ := slot11 (HX.out _ HF4.out).1; obtain ⟨⟨y0, y1, y2, y3, y4, y5, y6, y7, y8, y9, y10⟩, -⟩ := slot11 (HX.out _ HF4.out).2.1))
    go_ret
    exact ⟨congrArg (fun z => Ending.returned (.bool z)) ((show (ea.n == eb.n) = decide (ea.n = eb.n) from rfl).trans RES.out.symm), (HX.out _ HF4.out).2.2⟩
end Go.Proofs.Ytempfaefopfobaa
end

/- SpecEqP: spec.HasPrefix, EqualPaths. -/
section
set_option maxRecDepth 100000
namespace Go.Proofs.Ytempfaefopfobaa
open Go.ChangeShapes Go.WideShapes Go.ChangeAt Go.RowKit
set_option linter.unusedVariables false
set_option linter.unusedSimpArgs false
/-- whether the second path is the first or a beginning of it -/
noncomputable def hasP (p q : List El) : Bool := decide (q.length ≤ p.length) && eqP (p.take q.length) q
theorem hasP_eq {p q : List El} (h : p.length = q.length) : hasP p q = eqP p q := by
  unfold hasP
  rw [decide_eq_true (by omega), List.take_of_length_le (by omega)]
  rfl
set_option maxHeartbeats 4000000 in
theorem specHasP (p q : List GE) (v1 v2 : Value) (w : World) (h1 : RepGEs Any w v1 p) (h2 : RepGEs Any w v2 q) : Calls Try.prog 99 #[v1, v2] w fun e w' => e = .returned (.bool (hasP (p.map toEl) (q.map toEl))) ∧ Ext w w' := by
  obtain ⟨pa, pb, po, pc, rfl, hpl, hps, hpa, hpt⟩ := h1
  obtain ⟨qa, qb, qo, qc, rfl, hql, hqs, hqa, hqt⟩ := h2
  have HPT := hid hpt
  have HQT := hid hqt
  clear hpt hqt
  go_enter Try.func99, Try.ntmps99
  by_cases hle : q.length ≤ p.length
  case neg =>
    have RES := hid (show false = hasP (p.map toEl) (q.map toEl) by unfold hasP; rw [decide_eq_false (by simpa using hle)]; rfl)
    have h3 : (q.length : Int) > (p.length : Int) := by omega
    go_wp2_with fail
    go_ret
    exact ⟨congrArg (fun z => Ending.returned (.bool z)) RES.out, Ext.refl _⟩
  have h3 : ¬ ((q.length : Int) > (p.length : Int)) := by omega
  have h4 : ¬ ((p.length : Int) < (q.length : Int)) := by omega
  have HD := hid (show hasP (p.map toEl) (q.map toEl) = eqP ((p.map toEl).take q.length) (q.map toEl) by unfold hasP; rw [decide_eq_true (by simpa using hle)]; simp)
  go_wp2_with fail
  clear h3 h4
  go_loopw [13] (fun i wr => ∃ j : Nat, i = .int .i64 j ∧ j ≤ q.length ∧ Hid (eqP (((p.map toEl).take q.length).drop j) ((q.map toEl).drop j) = eqP ((p.map toEl).take q.length) (q.map toEl)) ∧ Hid (Ext w wr)) (fun i _ => q.length - (intOf i).toNat)
  case atStart => exact ⟨0, rfl, Nat.zero_le _, hid rfl, hid (Ext.refl _)⟩
  case round =>
    obtain ⟨j, rfl, hj, HP, HE⟩ := hrel
    by_cases hlt : j < q.length
    · obtain ⟨e, he⟩ : ∃ x, p[j]? = some x := ⟨_, List.getElem?_eq_getElem (by omega)⟩
      obtain ⟨e', he'⟩ : ∃ x, q[j]? = some x := ⟨_, List.getElem?_eq_getElem hlt⟩
      obtain ⟨rfl, -⟩ := hpa (by omega)
      obtain ⟨rfl, -⟩ := hqa (by omega)
      obtain ⟨xk, xs, xa, xc, xb, xd, x1, x2, x3, x4, x5, x6, x7, x8, x9, x10, xn, c1, hR1⟩ := HPT.out j e he
      obtain ⟨yk, ys, ya, yc, yb, yd, y1, y2, y3, y4, y5, y6, y7, y8, y9, y10, yn, c2, hR2⟩ := HQT.out j e' he'
      have hst := eqP_step (l1 := (p.map toEl).take q.length) (l2 := q.map toEl) (k := j) (p := toEl e) (q := toEl e') (by rw [List.getElem?_take_of_lt hlt, List.getElem?_map, he]; rfl) (by rw [List.getElem?_map, he']; rfl)
      rw [HP.out] at hst
      obtain ⟨b, hb⟩ : ∃ b, eqE (toEl e) (toEl e') = b := ⟨_, rfl⟩
      have HEQ := hid (fun (W : World) (E : Ext w W) => specEqE e e' W _ _ (hR1.ext E) (hR2.ext E))
      rw [hb] at HEQ hst
      have HST := hid hst
      have K6 := hid (show ∀ W : World, Ext w W → (fun w' : World => w'.cell? ⟨pb, po + j * 11, none⟩ = some (.int .i64 xk) ∧ w'.cell? ⟨pb, po + j * 11 + 1, none⟩ = some (.string xs) ∧ w'.cell? ⟨pb, po + j * 11 + 2, none⟩ = some (.slice xa e.keys.length xc) ∧ w'.cell? ⟨pb, po + j * 11 + 3, none⟩ = some (.slice xb e.l.length xd) ∧ w'.cell? ⟨pb, po + j * 11 + 4, none⟩ = some (.int .i64 x1) ∧ w'.cell? ⟨pb, po + j * 11 + 5, none⟩ = some (.int .i64 x2) ∧ w'.cell? ⟨pb, po + j * 11 + 6, none⟩ = some (.float .f64 x3) ∧ w'.cell? ⟨pb, po + j * 11 + 7, none⟩ = some (.string x4) ∧ w'.cell? ⟨pb, po + j * 11 + 8, none⟩ = some (.slice x5 x6 x7) ∧ w'.cell? ⟨pb, po + j * 11 + 9, none⟩ = some (.slice x8 x9 x10) ∧ w'.cell? ⟨pb, po + j * 11 + 10, none⟩ = some (.int .i64 xn) ∧ w'.cell? ⟨qb, qo + j * 11, none⟩ = some (.int .i64 yk) ∧ w'.cell? ⟨qb, qo + j * 11 + 1, none⟩ = some (.string ys) ∧ w'.cell? ⟨qb, qo + j * 11 + 2, none⟩ = some (.slice ya e'.keys.length yc) ∧ w'.cell? ⟨qb, qo + j * 11 + 3, none⟩ = some (.slice yb e'.l.length yd) ∧ w'.cell? ⟨qb, qo + j * 11 + 4, none⟩ = some (.int .i64 y1) ∧ w'.cell? ⟨qb, qo + j * 11 + 5, none⟩ = some (.int .i64 y2) ∧ w'.cell? ⟨qb, qo + j * 11 + 6, none⟩ = some (.float .f64 y3) ∧ w'.cell? ⟨qb, qo + j * 11 + 7, none⟩ = some (.string y4) ∧ w'.cell? ⟨qb, qo + j * 11 + 8, none⟩ = some (.slice y5 y6 y7) ∧ w'.cell? ⟨qb, qo + j * 11 + 9, none⟩ = some (.slice y8 y9 y10) ∧ w'.cell? ⟨qb, qo + j * 11 + 10, none⟩ = some (.int .i64 yn)) W from fun W h => by
        obtain ⟨b0, b1, b2, b3, b4, b5, b6, b7, b8, b9, b10⟩ := cells11 (cellsAt_ext h c1)
        obtain ⟨d0, d1, d2, d3, d4, d5, d6, d7, d8, d9, d10⟩ := cells11 (cellsAt_ext h c2)
        exact ⟨b0, b1, b2, b3, b4, b5, b6, b7, b8, b9, b10, d0, d1, d2, d3, d4, d5, d6, d7, d8, d9, d10⟩)
      have HEd := hid (show Ext w wr.drew from HE.out.drew)
      have p0 : (0 : Int) ≤ (j : Int) := by omega
      have p1 : (j : Int) < (p.length : Int) := by omega
      have p2 : (j : Int) < (q.length : Int) := by omega
      clear he he' c1 c2 hR1 hR2 hst hb
      go_upto_region 6 with fail
      cases b with
      | true =>
        refine wp_region_late (fun w' : World => w'.cell? ⟨pb, po + j * 11, none⟩ = some (.int .i64 xk) ∧ w'.cell? ⟨pb, po + j * 11 + 1, none⟩ = some (.string xs) ∧ w'.cell? ⟨pb, po + j * 11 + 2, none⟩ = some (.slice xa e.keys.length xc) ∧ w'.cell? ⟨pb, po + j * 11 + 3, none⟩ = some (.slice xb e.l.length xd) ∧ w'.cell? ⟨pb, po + j * 11 + 4, none⟩ = some (.int .i64 x1) ∧ w'.cell? ⟨pb, po + j * 11 + 5, none⟩ = some (.int .i64 x2) ∧ w'.cell? ⟨pb, po + j * 11 + 6, none⟩ = some (.float .f64 x3) ∧ w'.cell? ⟨pb, po + j * 11 + 7, none⟩ = some (.string x4) ∧ w'.cell? ⟨pb, po + j * 11 + 8, none⟩ = some (.slice x5 x6 x7) ∧ w'.cell? ⟨pb, po + j * 11 + 9, none⟩ = some (.slice x8 x9 x10) ∧ w'.cell? ⟨pb, po + j * 11 + 10, none⟩ = some (.int .i64 xn) ∧ w'.cell? ⟨qb, qo + j * 11, none⟩ = some (.int .i64 yk) ∧ w'.cell? ⟨qb, qo + j * 11 + 1, none⟩ = some (.string ys) ∧ w'.cell? ⟨qb, qo + j * 11 + 2, none⟩ = some (.slice ya e'.keys.length yc) ∧ w'.cell? ⟨qb, qo + j * 11 + 3, none⟩ = some (.slice yb e'.l.length yd) ∧ w'.cell? ⟨qb, qo + j * 11 + 4, none⟩ = some (.int .i64 y1) ∧ w'.cell? ⟨qb, qo + j * 11 + 5, none⟩ = some (.int .i64 y2) ∧ w'.cell? ⟨qb, qo + j * 11 + 6, none⟩ = some (.float .f64 y3) ∧ w'.cell? ⟨qb, qo + j * 11 + 7, none⟩ = some (.string y4) ∧ w'.cell? ⟨qb, qo + j * 11 + 8, none⟩ = some (.slice y5 y6 y7) ∧ w'.cell? ⟨qb, qo + j * 11 + 9, none⟩ = some (.slice y8 y9 y10) ∧ w'.cell? ⟨qb, qo + j * 11 + 10, none⟩ = some (.int .i64 yn)) [] (by kernel_rfl) ?hS1 (fun hHeld => ?_)
        case hS1 => (exact K6.out _ HEd.out)
        generalize wr.drew = wd at *
        change wpAnyM _ _ _ _ _ _ 10 #[false, false, false, false, false, false, false, false, false, false] _ _
        refine wpAnyM_take (i := 0) (oi := { dst := some 16, op := Go.Op.move (Go.Operand.tmp 0), type := 22, pos := "path.go:181", after := #[], guard := none }) (v := ?v2) rfl (by kernel_rfl) (fun _ _ _ h => h) (Or.inl ⟨by rfl, ?hy2⟩) (by assumption) ?rest2
        case hy2 => (intro wz hSw; (try dsimp only at hSw); go_simp; try with_reducible rfl)
        (try simp only [Act.put, List.setIfInBounds_toArray, List.set_cons_zero, List.set_cons_succ])
        refine wpAnyM_take (i := 1) (oi := { dst := some 17, op := Go.Op.move (Go.Operand.tmp 5), type := 3, pos := "path.go:181", after := #[], guard := none }) (v := ?v3) rfl (by kernel_rfl) (fun _ _ _ h => h) (Or.inl ⟨by rfl, ?hy3⟩) (by assumption) ?rest3
        case hy3 => (intro wz hSw; (try dsimp only at hSw); go_simp; try with_reducible rfl)
        (try simp only [Act.put, List.setIfInBounds_toArray, List.set_cons_zero, List.set_cons_succ])
        refine wpAnyM_take (i := 2) (oi := { dst := some 18, op := Go.Op.indexAddr 22 (Go.Operand.tmp 16) (Go.Operand.tmp 17), type := 0, pos := "path.go:181", after := #[{ on := 0, ground := Go.Ground.data }, { on := 1, ground := Go.Ground.data }], guard := none }) (v := ?v4) rfl (by kernel_rfl) (fun _ _ _ h => h) (Or.inl ⟨by rfl, ?hy4⟩) (by assumption) ?rest4
        case hy4 => (intro wz hSw; (try dsimp only at hSw); go_simp; try with_reducible rfl)
        (try simp only [Act.put, List.setIfInBounds_toArray, List.set_cons_zero, List.set_cons_succ])
        refine wpAnyM_take (i := 3) (oi := { dst := some 19, op := Go.Op.load 34 (Go.Operand.tmp 18), type := 34, pos := "path.go:181", after := #[{ on := 2, ground := Go.Ground.data }], guard := none }) (v := ?v5) rfl (by kernel_rfl) (fun _ _ _ h => h) (Or.inl ⟨by rfl, ?hy5⟩) (by assumption) ?rest5
        case hy5 => (intro wz hSw; (try dsimp only at hSw); go_simp; try with_reducible rfl)
        (try simp only [Act.put, List.setIfInBounds_toArray, List.set_cons_zero, List.set_cons_succ])
        refine wpAnyM_take (i := 4) (oi := { dst := some 20, op := Go.Op.move (Go.Operand.tmp 1), type := 22, pos := "path.go:181", after := #[], guard := none }) (v := ?v6) rfl (by kernel_rfl) (fun _ _ _ h => h) (Or.inl ⟨by rfl, ?hy6⟩) (by assumption) ?rest6
        case hy6 => (intro wz hSw; (try dsimp only at hSw); go_simp; try with_reducible rfl)
        (try simp only [Act.put, List.setIfInBounds_toArray, List.set_cons_zero, List.set_cons_succ])
        refine wpAnyM_take (i := 5) (oi := { dst := some 21, op := Go.Op.move (Go.Operand.tmp 5), type := 3, pos := "path.go:181", after := #[], guard := none }) (v := ?v7) rfl (by kernel_rfl) (fun _ _ _ h => h) (Or.inl ⟨by rfl, ?hy7⟩) (by assumption) ?rest7
        case hy7 => (intro wz hSw; (try dsimp only at hSw); go_simp; try with_reducible rfl)
        (try simp only [Act.put, List.setIfInBounds_toArray, List.set_cons_zero, List.set_cons_succ])
        refine wpAnyM_take (i := 6) (oi := { dst := some 22, op := Go.Op.indexAddr 22 (Go.Operand.tmp 20) (Go.Operand.tmp 21), type := 0, pos := "path.go:181", after := #[{ on := 4, ground := Go.Ground.data }, { on := 5, ground := Go.Ground.data }], guard := none }) (v := ?v8) rfl (by kernel_rfl) (fun _ _ _ h => h) (Or.inl ⟨by rfl, ?hy8⟩) (by assumption) ?rest8
        case hy8 => (intro wz hSw; (try dsimp only at hSw); go_simp; try with_reducible rfl)
        (try simp only [Act.put, List.setIfInBounds_toArray, List.set_cons_zero, List.set_cons_succ])
        refine wpAnyM_take (i := 7) (oi := { dst := some 23, op := Go.Op.load 34 (Go.Operand.tmp 22), type := 34, pos := "path.go:181", after := #[{ on := 6, ground := Go.Ground.data }], guard := none }) (v := ?v9) rfl (by kernel_rfl) (fun _ _ _ h => h) (Or.inl ⟨by rfl, ?hy9⟩) (by assumption) ?rest9
        case hy9 => (intro wz hSw; (try dsimp only at hSw); go_simp; try with_reducible rfl)
        (try simp only [Act.put, List.setIfInBounds_toArray, List.set_cons_zero, List.set_cons_succ])
        refine wpAnyM_ready (rs := [8]) (by kernel_rfl) (by simp) ?_
        refine AllReadyM.cons (o := { dst := some 24, op := Go.Op.call { callee := Go.Callee.value (Go.Operand.func 120), args := #[Go.Operand.tmp 19, Go.Operand.tmp 23], argTypes := #[34, 34] }, type := 4, pos := "path.go:181", after := #[{ on := 3, ground := Go.Ground.data }, { on := 7, ground := Go.Ground.data }], guard := none }) rfl (fun K hK => ?_) AllReadyM.nil
        refine step_call _ rfl 120 [.tmp 19, .tmp 23] #[34, 34] rfl (by kernel_rfl) [_, _] rfl (HEQ.out _ HEd.out) ?_
        rintro en wf ⟨rfl, hE⟩
        refine ⟨_, rfl, ?_⟩
        have HF := hid (HEd.out.trans hE)
        clear hE
        refine hK.out _ _ ?hS10 (fun hHeld => ?_)
        case hS10 => (exact K6.out _ HF.out)
        clear hK K
        (try simp only [Act.put, List.setIfInBounds_toArray, List.set_cons_zero, List.set_cons_succ])
        refine wpAnyM_take (i := 9) (oi := { dst := some 25, op := Go.Op.unOp Go.UnOp.not 4 (Go.Operand.tmp 24), type := 4, pos := "path.go:181", after := #[{ on := 8, ground := Go.Ground.data }], guard := none }) (v := ?v11) rfl (by kernel_rfl) (fun _ _ _ h => h) (Or.inl ⟨by rfl, ?hy11⟩) (by assumption) ?rest11
        case hy11 => (intro wz hSw; (try dsimp only at hSw); go_simp; try with_reducible rfl)
        (try simp only [Act.put, List.setIfInBounds_toArray, List.set_cons_zero, List.set_cons_succ])
        refine wpAnyM_done (by kernel_rfl) ?_ _
        go_wp2_with fail
        exact ⟨⟨j + 1, by go_num, by omega, hid (by have h := HST.out; simpa using h.symm), HF⟩, by simp [intOf]; omega⟩
      | false =>
        refine wp_region_late (fun w' : World => w'.cell? ⟨pb, po + j * 11, none⟩ = some (.int .i64 xk) ∧ w'.cell? ⟨pb, po + j * 11 + 1, none⟩ = some (.string xs) ∧ w'.cell? ⟨pb, po + j * 11 + 2, none⟩ = some (.slice xa e.keys.length xc) ∧ w'.cell? ⟨pb, po + j * 11 + 3, none⟩ = some (.slice xb e.l.length xd) ∧ w'.cell? ⟨pb, po + j * 11 + 4, none⟩ = some (.int .i64 x1) ∧ w'.cell? ⟨pb, po + j * 11 + 5, none⟩ = some (.int .i64 x2) ∧ w'.cell? ⟨pb, po + j * 11 + 6, none⟩ = some (.float .f64 x3) ∧ w'.cell? ⟨pb, po + j * 11 + 7, none⟩ = some (.string x4) ∧ w'.cell? ⟨pb, po + j * 11 + 8, none⟩ = some (.slice x5 x6 x7) ∧ w'.cell? ⟨pb, po + j * 11 + 9, none⟩ = some (.slice x8 x9 x10) ∧ w'.cell? ⟨pb, po + j * 11 + 10, none⟩ = some (.int .i64 xn) ∧ w'.cell? ⟨qb, qo + j * 11, none⟩ = some (.int .i64 yk) ∧ w'.cell? ⟨qb, qo + j * 11 + 1, none⟩ = some (.string ys) ∧ w'.cell? ⟨qb, qo + j * 11 + 2, none⟩ = some (.slice ya e'.keys.length yc) ∧ w'.cell? ⟨qb, qo + j * 11 + 3, none⟩ = some (.slice yb e'.l.length yd) ∧ w'.cell? ⟨qb, qo + j * 11 + 4, none⟩ = some (.int .i64 y1) ∧ w'.cell? ⟨qb, qo + j * 11 + 5, none⟩ = some (.int .i64 y2) ∧ w'.cell? ⟨qb, qo + j * 11 + 6, none⟩ = some (.float .f64 y3) ∧ w'.cell? ⟨qb, qo + j * 11 + 7, none⟩ = some (.string y4) ∧ w'.cell? ⟨qb, qo + j * 11 + 8, none⟩ = some (.slice y5 y6 y7) ∧ w'.cell? ⟨qb, qo + j * 11 + 9, none⟩ = some (.slice y8 y9 y10) ∧ w'.cell? ⟨qb, qo + j * 11 + 10, none⟩ = some (.int .i64 yn)) [] (by kernel_rfl) ?hS12 (fun hHeld => ?_)
        case hS12 => (exact K6.out _ HEd.out)
        generalize wr.drew = wd at *
        change wpAnyM _ _ _ _ _ _ 10 #[false, false, false, false, false, false, false, false, false, false] _ _
        refine wpAnyM_take (i := 0) (oi := { dst := some 16, op := Go.Op.move (Go.Operand.tmp 0), type := 22, pos := "path.go:181", after := #[], guard := none }) (v := ?v13) rfl (by kernel_rfl) (fun _ _ _ h => h) (Or.inl ⟨by rfl, ?hy13⟩) (by assumption) ?rest13
        case hy13 => (intro wz hSw; (try dsimp only at hSw); go_simp; try with_reducible rfl)
        (try simp only [Act.put, List.setIfInBounds_toArray, List.set_cons_zero, List.set_cons_succ])
        refine wpAnyM_take (i := 1) (oi := { dst := some 17, op := Go.Op.move (Go.Operand.tmp 5), type := 3, pos := "path.go:181", after := #[], guard := none }) (v := ?v14) rfl (by kernel_rfl) (fun _ _ _ h => h) (Or.inl ⟨by rfl, ?hy14⟩) (by assumption) ?rest14
        case hy14 => (intro wz hSw; (try dsimp only at hSw); go_simp; try with_reducible rfl)
        (try simp only [Act.put, List.setIfInBounds_toArray, List.set_cons_zero, List.set_cons_succ])
        refine wpAnyM_take (i := 2) (oi := { dst := some 18, op := Go.Op.indexAddr 22 (Go.Operand.tmp 16) (Go.Operand.tmp 17), type := 0, pos := "path.go:181", after := #[{ on := 0, ground := Go.Ground.data }, { on := 1, ground := Go.Ground.data }], guard := none }) (v := ?v15) rfl (by kernel_rfl) (fun _ _ _ h => h) (Or.inl ⟨by rfl, ?hy15⟩) (by assumption) ?rest15
        case hy15 => (intro wz hSw; (try dsimp only at hSw); go_simp; try with_reducible rfl)
        (try simp only [Act.put, List.setIfInBounds_toArray, List.set_cons_zero, List.set_cons_succ])
        refine wpAnyM_take (i := 3) (oi := { dst := some 19, op := Go.Op.load 34 (Go.Operand.tmp 18), type := 34, pos := "path.go:181", after := #[{ on := 2, ground := Go.Ground.data }], guard := none }) (v := ?v16) rfl (by kernel_rfl) (fun _ _ _ h => h) (Or.inl ⟨by rfl, ?hy16⟩) (by assumption) ?rest16
        case hy16 => (intro wz hSw; (try dsimp only at hSw); go_simp; try with_reducible rfl)
        (try simp only [Act.put, List.setIfInBounds_toArray, List.set_cons_zero, List.set_cons_succ])
        refine wpAnyM_take (i := 4) (oi := { dst := some 20, op := Go.Op.move (Go.Operand.tmp 1), type := 22, pos := "path.go:181", after := #[], guard := none }) (v := ?v17) rfl (by kernel_rfl) (fun _ _ _ h => h) (Or.inl ⟨by rfl, ?hy17⟩) (by assumption) ?rest17
        case hy17 => (intro wz hSw; (try dsimp only at hSw); go_simp; try with_reducible rfl)
        (try simp only [Act.put, List.setIfInBounds_toArray, List.set_cons_zero, List.set_cons_succ])
        refine wpAnyM_take (i := 5) (oi := { dst := some 21, op := Go.Op.move (Go.Operand.tmp 5), type := 3, pos := "path.go:181", after := #[], guard := none }) (v := ?v18) rfl (by kernel_rfl) (fun _ _ _ h => h) (Or.inl ⟨by rfl, ?hy18⟩) (by assumption) ?rest18
        case hy18 => (intro wz hSw; (try dsimp only at hSw); go_simp; try with_reducible rfl)
        (try simp only [Act.put, List.setIfInBounds_toArray, List.set_cons_zero, List.set_cons_succ])
        refine wpAnyM_take (i := 6) (oi := { dst := some 22, op := Go.Op.indexAddr 22 (Go.Operand.tmp 20) (Go.Operand.tmp 21), type := 0, pos := "path.go:181", after := #[{ on := 4, ground := Go.Ground.data }, { on := 5, ground := Go.Ground.data }], guard := none }) (v := ?v19) rfl (by kernel_rfl) (fun _ _ _ h => h) (Or.inl ⟨by rfl, ?hy19⟩) (by assumption) ?rest19
        case hy19 => (intro wz hSw; (try dsimp only at hSw); go_simp; try with_reducible rfl)
        (try simp only [Act.put, List.setIfInBounds_toArray, List.set_cons_zero, List.set_cons_succ])
        refine wpAnyM_take (i := 7) (oi := { dst := some 23, op := Go.Op.load 34 (Go.Operand.tmp 22), type := 34, pos := "path.go:181", after := #[{ on := 6, ground := Go.Ground.data }], guard := none }) (v := ?v20) rfl (by kernel_rfl) (fun _ _ _ h => h) (Or.inl ⟨by rfl, ?hy20⟩) (by assumption) ?rest20
        case hy20 => (intro wz hSw; (try dsimp only at hSw); go_simp; try with_reducible rfl)
        (try simp only [Act.put, List.setIfInBounds_toArray, List.set_cons_zero, List.set_cons_succ])
        refine wpAnyM_ready (rs := [8]) (by kernel_rfl) (by simp) ?_
        refine AllReadyM.cons (o := { dst := some 24, op := Go.Op.call { callee := Go.Callee.value (Go.Operand.func 120), args := #[Go.Operand.tmp 19, Go.Operand.tmp 23], argTypes := #[34, 34] }, type := 4, pos := "path.go:181", after := #[{ on := 3, ground := Go.Ground.data }, { on := 7, ground := Go.Ground.data }], guard := none }) rfl (fun K hK => ?_) AllReadyM.nil
        refine step_call _ rfl 120 [.tmp 19, .tmp 23] #[34, 34] rfl (by kernel_rfl) [_, _] rfl (HEQ.out _ HEd.out) ?_
        rintro en wf ⟨rfl, hE⟩
        refine ⟨_, rfl, ?_⟩
        have HF := hid (HEd.out.trans hE)
        clear hE
        refine hK.out _ _ ?hS21 (fun hHeld => ?_)
        case hS21 => (exact K6.out _ HF.out)
        clear hK K
        (try simp only [Act.put, List.setIfInBounds_toArray, List.set_cons_zero, List.set_cons_succ])
        refine wpAnyM_take (i := 9) (oi := { dst := some 25, op := Go.Op.unOp Go.UnOp.not 4 (Go.Operand.tmp 24), type := 4, pos := "path.go:181", after := #[{ on := 8, ground := Go.Ground.data }], guard := none }) (v := ?v22) rfl (by kernel_rfl) (fun _ _ _ h => h) (Or.inl ⟨by rfl, ?hy22⟩) (by assumption) ?rest22
        case hy22 => (intro wz hSw; (try dsimp only at hSw); go_simp; try with_reducible rfl)
        (try simp only [Act.put, List.setIfInBounds_toArray, List.set_cons_zero, List.set_cons_succ])
        refine wpAnyM_done (by kernel_rfl) ?_ _
        go_wp2_with fail
        go_ret
        exact ⟨congrArg (fun z => Ending.returned (.bool z)) (show false = hasP (p.map toEl) (q.map toEl) by rw [HD.out, HST.out]; simp), HF.out⟩
    · have RES := hid (show true = hasP (p.map toEl) (q.map toEl) by
        have h := HP.out
        rw [List.drop_eq_nil_of_le (by rw [List.length_take]; omega), List.drop_eq_nil_of_le (by rw [List.length_map]; omega)] at h
        rw [HD.out, ← h]; rfl)
      go_wp2_with fail
      go_ret
      exact ⟨congrArg (fun z => Ending.returned (.bool z)) RES.out, HE.out⟩
theorem specEqP (p q : List GE) (v1 v2 : Value) (w : World) (h1 : RepGEs Any w v1 p) (h2 : RepGEs Any w v2 q) : Calls Try.prog 61 #[v1, v2] w fun e w' => e = .returned (.bool (eqP (p.map toEl) (q.map toEl))) ∧ Ext w w' := by
  have H1 := hid h1
  have H2 := hid h2
  obtain ⟨pa, pc, rfl⟩ := h1.form
  obtain ⟨qa, qc, rfl⟩ := h2.form
  clear h1 h2
  by_cases hl : p.length = q.length
  · have e1 : ((p.length : Int) == (q.length : Int)) = true := by simp; omega
    have HC := hid (fun W (E : Ext w W) => specHasP p q _ _ W (H1.out.ext E) (H2.out.ext E))
    rw [hasP_eq (by simpa using hl)] at HC
    clear hl
    go_enter Try.func61, Try.ntmps61
    go_wp2_with (go_at_call 99; refine (HC.out _ (Ext.refl _)).mono ?_; rintro e w2 ⟨rfl, hE⟩; have HE := hid hE; clear hE)
    go_ret
    exact ⟨rfl, HE.out⟩
  · have e1 : ((p.length : Int) == (q.length : Int)) = false := by simp; omega
    have RES := hid (eqP_len (l1 := p.map toEl) (l2 := q.map toEl) (by simpa using hl)).symm
    clear hl
    go_enter Try.func61, Try.ntmps61
    go_wp2_with fail
    go_ret
    exact ⟨congrArg (fun z => Ending.returned (.bool z)) RES.out, Ext.refl _⟩
end Go.Proofs.Ytempfaefopfobaa
end
