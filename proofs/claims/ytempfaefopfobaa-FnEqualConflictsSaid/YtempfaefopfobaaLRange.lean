/- LRange: ranges over lists of the package: RangeUsing, Next, Item; the allocator's part in it. -/
import Derived.Test.YtempfaefopfobaaCmpOf
import Derived.Deep.Cut
import Derived.Deep.QuietTactic
import Derived.BigQuiet

namespace Go.Proofs.Ytempfaefopfobaa
open Go.ChangeShapes Go.WideShapes Go.ChangeAt Go.RowKit
set_option linter.unusedVariables false
set_option linter.unusedSimpArgs false
@[go_sem] theorem ml_RangeUsing (a : Option Addr) (n c : Nat) (w : World) : (method 431 315 (.slice a n c) "RangeUsing").run Try.prog w = .ok (199, .slice a n c) w := by kernel_rfl
@[go_sem] theorem ml_Length (a : Option Addr) (n c : Nat) (w : World) : (method 431 315 (.slice a n c) "Length").run Try.prog w = .ok (197, .slice a n c) w := by kernel_rfl
@[go_sem] theorem ml_EqualsUsing (a : Option Addr) (n c : Nat) (w : World) : (method 431 315 (.slice a n c) "EqualsUsing").run Try.prog w = .ok (196, .slice a n c) w := by kernel_rfl
@[go_sem] theorem mr_Next (b : Addr) (w : World) : (method 431 323 (.pointer (some b)) "Next").run Try.prog w = .ok (223, .pointer (some b)) w := run_method_ptr (by kernel_rfl) Try.underlying323
@[go_sem] theorem me_Next (b : Addr) (w : World) : (method 431 326 (.pointer (some b)) "Next").run Try.prog w = .ok (225, .pointer (some b)) w := run_method_ptr (by kernel_rfl) Try.underlying326
@[go_sem] theorem mr_Item (b : Addr) (w : World) : (method 431 323 (.pointer (some b)) "Item").run Try.prog w = .ok (222, .pointer (some b)) w := run_method_ptr (by kernel_rfl) Try.underlying323
@[go_sem] theorem me_Item (b : Addr) (w : World) : (method 431 326 (.pointer (some b)) "Item").run Try.prog w = .ok (224, .pointer (some b)) w := run_method_ptr (by kernel_rfl) Try.underlying326
theorem slot3' {W : World} {b : Nat} {c0 c1 c2 : Value} {t : TypeId} (h : W.heap[b]? = some (.cells #[c0, c1, c2] t)) :
    (W.cell? ⟨b, 0, none⟩ = some c0 ∧ W.cell? ⟨b, 1, none⟩ = some c1 ∧ W.cell? ⟨b, 2, none⟩ = some c2) ∧ (W.frozen? ⟨b, 0, none⟩ = false ∧ W.frozen? ⟨b, 1, none⟩ = false ∧ W.frozen? ⟨b, 2, none⟩ = false) :=
  ⟨⟨(cell_of_heap h 0).trans rfl, (cell_of_heap h 1).trans rfl, (cell_of_heap h 2).trans rfl⟩, free_of_heap h 0, free_of_heap h 1, free_of_heap h 2⟩
theorem allocLR (b : Addr) (w : World) : Calls Try.prog 226 #[.pointer (some b)] w fun e w' => e = .returned (.pointer (some ⟨w.heap.size + 1, 0, none⟩)) ∧
    w' = (w.alloc (.cells #[.nilIface] 218)).alloc (.cells #[.slice none 0 0, .pointer (some ⟨w.heap.size, 0, none⟩), .int .i64 0] 329) := by
  go_enter Try.func226, Try.ntmps226
  go_wp2_with fail
  go_ret
  exact ⟨rfl, rfl⟩
theorem reuse_any (vv : Nat) (v u : Value) (w : World) (hv : v = .nilIface ∨ ∃ ty x, v = .iface ty x) (hb : w.heap[vv]? = some (.cells #[u] 218)) :
    Calls Try.prog 118 #[.pointer (some ⟨vv, 0, none⟩), v] w fun e w' => e = .returned (.iface 203 (.pointer (some ⟨vv, 0, none⟩))) ∧ w' = w.setCell ⟨vv, 0, none⟩ v := by
  have q := (cell_of_heap hb 0).trans rfl
  have q2 := free_of_heap hb 0
  have HB := hid hb
  clear hb
  rcases hv with rfl | ⟨ty, x, rfl⟩
  all_goals
    go_enter Try.func118, Try.ntmps118
    go_wp2_with fail
    go_ret
    exact ⟨rfl, rfl⟩
set_option maxRecDepth 100000 in
theorem range_nil (a al : Option Addr) (c : Nat) (w : World) : Calls Try.prog 199 #[.slice a 0 c, .iface 172 (.pointer al)] w fun e w' => (∃ b, e = .returned (.iface 326 (.pointer (some ⟨b, 0, none⟩)))) ∧ Ext w w' := by
  go_enter Try.func199, Try.ntmps199
  go_wp2_with fail
  go_ret
  exact ⟨⟨_, rfl⟩, (Ext.refl _).alloc _⟩
set_option maxRecDepth 100000 in
theorem range_any (a : Option Addr) (al : Addr) (n c : Nat) (h : n ≠ 0) (w : World) : Calls Try.prog 199 #[.slice a n c, .iface 172 (.pointer (some al))] w fun e w' => e = .returned (.iface 323 (.pointer (some ⟨w.heap.size + 1, 0, none⟩))) ∧
    w' = (w.alloc (.cells #[.nilIface] 218)).alloc (.cells #[.slice a n c, .pointer (some ⟨w.heap.size, 0, none⟩), .int .i64 (-1)] 329) := by
  have hd : ((n : Int) == 0) = false := by simpa using h
  go_enter Try.func199, Try.ntmps199
  go_wp2_with (go_at_call 226; refine (allocLR _ _).mono ?_; rintro e w2 ⟨rfl, rfl⟩)
  go_ret
  exact ⟨rfl, rfl⟩
theorem next_nil (b : Nat) (w : World) : Calls Try.prog 225 #[.pointer (some ⟨b, 0, none⟩)] w fun e w' => e = .returned (.bool false) ∧ w = w' := by
  go_enter Try.func225, Try.ntmps225
  go_wp2_with fail
  go_ret
  exact ⟨rfl, rfl⟩
theorem setCell_grown {w : World} {r : Nat} {o : Obj} (h : w.heap[r]? = some o) (j : Nat) (v : Value) (q : Nat) : w.grownBy ((w.setCell ⟨r, j, none⟩ v).drewN q) (some r) :=
  ⟨rfl, rfl, rfl, by simp, fun k hk hne => Below.heap_setCell _ _ _ _ (fun e => hne (by rw [e]))⟩
set_option maxRecDepth 100000 in
theorem next_any (r : Nat) (a : Option Addr) (n c : Nat) (p : Option Addr) (i : Int) (w : World) (hi : -1 ≤ i) (hi2 : i ≤ 140737488351232) (h : w.heap[r]? = some (.cells #[.slice a n c, .pointer p, .int .i64 i] 329)) :
    Calls Try.prog 223 #[.pointer (some ⟨r, 0, none⟩)] w fun e w' => e = .returned (.bool (decide (i + 1 < n))) ∧ w'.heap[r]? = some (.cells #[.slice a n c, .pointer p, .int .i64 (i + 1)] 329) ∧ w.grownBy w' (some r) := by
  obtain ⟨⟨q0, q1, q2⟩, q3, q4, q5⟩ := slot3' h
  have H := hid h
  clear h
  go_enter Try.func223, Try.ntmps223
  go_wp2_with fail
  go_quiet (fail)
  go_wp2_with fail
  go_ret
  exact ⟨rfl, (setCell_heap H.out 2 (.int .i64 (i + 1))).trans rfl, setCell_grown H.out 2 _ _⟩
theorem cell_set {w : World} {vv : Nat} {v : Value} {a : Addr} (h : a.block ≠ vv) : (w.setCell ⟨vv, 0, none⟩ v).cell? a = w.cell? a := by
  unfold World.cell?
  rw [Below.heap_setCell _ _ _ _ h]
set_option maxRecDepth 100000 in
set_option maxHeartbeats 1000000 in
theorem item_any (r vv lb lo : Nat) (n c k : Nat) (u v : Value) (w : World) (hk : k < n) (hn : n ≤ 140737488351232) (hv : v = .nilIface ∨ ∃ ty x, v = .iface ty x) (h : w.heap[r]? = some (.cells #[.slice (some ⟨lb, lo, none⟩) n c, .pointer (some ⟨vv, 0, none⟩), .int .i64 k] 329))
    (hvv : w.heap[vv]? = some (.cells #[u] 218)) (hc : w.cell? ⟨lb, lo + k, none⟩ = some v) (h1 : vv ≠ r) (h2 : lb ≠ vv) :
    Calls Try.prog 222 #[.pointer (some ⟨r, 0, none⟩)] w fun e w' => e = .returned (.tuple #[.int .i64 k, .iface 203 (.pointer (some ⟨vv, 0, none⟩))]) ∧ w'.heap[vv]? = some (.cells #[v] 218) ∧ w.grownBy w' (some vv) := by
  obtain ⟨⟨q0, q1, q2⟩, -⟩ := slot3' h
  have H := hid h
  have HV := hid hvv
  have g1 : ¬ (k : Int) < 0 := by omega
  have g2 : ¬ (n : Int) ≤ (k : Int) := by omega
  have g3 : (k : Int) < (n : Int) := by omega
  have hvf := hv
  clear h hvv
  rcases hv with rfl | ⟨ty, x, rfl⟩
  · go_enter Try.func222, Try.ntmps222
    go_upto_region 3 with fail
    go_quiet (fail)
    go_upto_region 5 with fail
    have hne : r ≠ vv := fun e => h1 e.symm
    go_region_held3 (fun w' : World => w'.cell? ⟨r, 0, none⟩ = some (.slice (some ⟨lb, lo, none⟩) n c) ∧ w'.cell? ⟨r, 1, none⟩ = some (.pointer (some ⟨vv, 0, none⟩)) ∧ w'.cell? ⟨r, 2, none⟩ = some (.int .i64 k) ∧ w'.cell? ⟨lb, lo + k, none⟩ = some (.nilIface))
      (first | exact ⟨q0, q1, q2, hc⟩ | exact ⟨(cell_set hne).trans q0, (cell_set hne).trans q1, (cell_set hne).trans q2, (cell_set h2).trans hc⟩)
      (first | (go_at_call 118; refine (reuse_any vv _ u (w.drewN (nq + 1)) hvf HV.out).mono ?_; rintro e w6 ⟨rfl, rfl⟩))
    all_goals
      go_wp2_with fail
      go_ret2
      have hg := setCell_grown (w := w.drewN (nq + 1)) HV.out 0 .nilIface 0
      exact ⟨rfl, (setCell_heap (W := w.drewN (nq + 1)) HV.out 0 _).trans rfl, hg.os, hg.tape, hg.output, hg.size, hg.block⟩
  · go_enter Try.func222, Try.ntmps222
    go_upto_region 3 with fail
    go_quiet (fail)
    go_upto_region 5 with fail
    have hne : r ≠ vv := fun e => h1 e.symm
    go_region_held3 (fun w' : World => w'.cell? ⟨r, 0, none⟩ = some (.slice (some ⟨lb, lo, none⟩) n c) ∧ w'.cell? ⟨r, 1, none⟩ = some (.pointer (some ⟨vv, 0, none⟩)) ∧ w'.cell? ⟨r, 2, none⟩ = some (.int .i64 k) ∧ w'.cell? ⟨lb, lo + k, none⟩ = some (.iface ty x))
      (first | exact ⟨q0, q1, q2, hc⟩ | exact ⟨(cell_set hne).trans q0, (cell_set hne).trans q1, (cell_set hne).trans q2, (cell_set h2).trans hc⟩)
      (first | (go_at_call 118; refine (reuse_any vv _ u (w.drewN (nq + 1)) hvf HV.out).mono ?_; rintro e w6 ⟨rfl, rfl⟩))
    all_goals
      go_wp2_with fail
      go_ret2
      have hg := setCell_grown (w := w.drewN (nq + 1)) HV.out 0 (.iface ty x) 0
      exact ⟨rfl, (setCell_heap (W := w.drewN (nq + 1)) HV.out 0 _).trans rfl, hg.os, hg.tape, hg.output, hg.size, hg.block⟩
end Go.Proofs.Ytempfaefopfobaa
