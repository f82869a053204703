/- ItemElem: typedhelpers.listItemToPathElement, DoorItem and impl.ItemElem of a set's item. -/
import Derived.Test.YtempfaefopfobaaSetItem
import Derived.Test.YtempfaefopfobaaFromEl
import Derived.Test.YtempfaefopfobaaToOk
import Derived.Test.YtempfaefopfobaaSame

set_option maxRecDepth 100000
namespace Go.Proofs.Ytempfaefopfobaa
open Go.ChangeShapes Go.WideShapes Go.ChangeAt Go.RowKit
set_option linter.unusedVariables false
set_option linter.unusedSimpArgs false

def badK (t : Tree) : Bool := decide (kcode t = 6) || decide (kcode t = 5) || decide (kcode t = 0)
def assoc : ByteArray := ⟨#[97, 115, 115, 111, 99, 105, 97, 116, 105, 118, 101]⟩
def untyped : ByteArray := ⟨#[117, 110, 116, 121, 112, 101, 100]⟩
def setType : GS := .lst (.ref false ⟨#[]⟩ (.atom untyped [] []) ⟨#[]⟩) assoc []
theorem nha_any (w : World) : Calls Try.prog 105 #[] w fun e w' => ∃ b, e = .returned (.iface 172 (.pointer (some ⟨b, 0, none⟩))) ∧ Ext w w' := by
  go_enter Try.func105, Try.ntmps105
  go_wp2_with fail
  go_ret
  exact ⟨_, rfl, (Ext.refl w).alloc _⟩
theorem toSchema_nil (w : World) : Calls Try.prog 76 #[.agg #[.slice none 0 0]] w fun e w' => ∃ b, e = .returned (.pointer (some ⟨b, 0, none⟩)) ∧ Ext w w' := by
  go_enter Try.func76, Try.ntmps76
  go_wp2_with fail
  go_loop [11] (fun i => i = .int .i64 0) (fun _ => 0)
  case atStart => rfl
  case round =>
    subst hrel
    go_wp2_with fail
    go_ret
    exact ⟨⟨_, rfl⟩, ((Ext.refl w).alloc _).alloc _⟩
theorem setItem_bad (t : Tree) (x : Value) (w : World) (hv : RepVal Any w t x) (hk : badK t = true) : Calls Try.prog 125 #[x] w fun e w' => ∃ b, e = .returned (.tuple #[.agg #[.pointer none, .pointer none, .pointer none, .pointer none], .iface 231 (.pointer (some ⟨b, 0, none⟩))]) ∧ Ext w w' := by
  simp only [badK, Bool.or_eq_true, decide_eq_true_eq] at hk
  rcases hk with (hk | hk) | hk
  · exact setItem_map t x w hv hk
  · exact setItem_list t x w hv hk
  · exact setItem_null t x w hv hk
theorem setItem_good (t : Tree) (x : Value) (w : World) (hv : RepVal Any w t x) (hk : badK t = false) : Calls Try.prog 125 #[x] w fun e w' => ∃ b, e = .returned (.tuple #[.agg #[.pointer none, .pointer none, .pointer (some ⟨b, 0, none⟩), .pointer none], .nilIface]) ∧ w'.cell? ⟨b, 0, none⟩ = some x ∧ w.heap.size ≤ b ∧ Ext w w' := by
  simp only [badK, Bool.or_eq_false_iff, decide_eq_false_iff_not] at hk
  refine (setItem_ok t x w hv (by simpa using hk.1.1) (by simpa using hk.1.2) (by simpa using hk.2)).mono ?_
  rintro e w' ⟨rfl, h1, h2⟩
  exact ⟨_, rfl, h1, Nat.le_refl _, h2⟩
theorem set4_raw {B : Nat} {a W : World} (h : Below B a W) {b : Nat} (hb : B ≤ b) (v0 v1 v2 v3 : Value) : Below B a ((((W.setCell ⟨b, 0, none⟩ v0).setCell ⟨b, 1, none⟩ v1).setCell ⟨b, 2, none⟩ v2).setCell ⟨b, 3, none⟩ v3) := set4_below h hb v0 v1 v2 v3
theorem cell_set4 {W : World} {b c : Nat} {v : Value} (h : W.cell? ⟨b, 0, none⟩ = some v) (hne : b ≠ c) (v0 v1 v2 v3 : Value) : (set4 W c v0 v1 v2 v3).cell? ⟨b, 0, none⟩ = some v := by
  have : (set4 W c v0 v1 v2 v3).heap[b]? = W.heap[b]? := set4_other hne _ _ _ _
  unfold World.cell? at h ⊢
  show (match (set4 W c v0 v1 v2 v3).heap[b]? with | _ => _) = _
  simp only [this]
  exact h
set_option maxHeartbeats 2000000 in
theorem listItem_bad (t : Tree) (x al sp : Value) (lp : Nat) (u0 u1 u2 u3 u4 : Option Addr) (ka : Option Addr) (kc : Nat) (w : World) (hv : RepVal Any w t x) (hk : badK t = true) (hl : w.heap[lp]? = some (.cells #[.pointer u0, .pointer u1, .pointer u2, .pointer u3, .pointer u4, .bool false, .string ⟨#[97, 115, 115, 111, 99, 105, 97, 116, 105, 118, 101]⟩, .slice ka 0 kc] 129)) : Calls Try.prog 104 #[al, sp, .pointer (some ⟨lp, 0, none⟩), x] w fun e w' => ∃ b, e = .returned (.tuple #[.agg #[.pointer none, .pointer none, .pointer none, .pointer none], .iface 231 (.pointer (some ⟨b, 0, none⟩))]) ∧ Ext w w' := by
  have HC := hid (fun W (E : Ext w W) => setItem_bad t x W (hv.ext E) hk)
  obtain ⟨bx, rfl⟩ := repVal_form hv
  have HL := hid (((Ext.refl w).alloc (.cells #[.pointer none, .pointer none, .pointer none, .pointer none] 91)).block hl)
  have l6 := (cell_of_heap HL.out 6).trans rfl
  have l7 := (cell_of_heap HL.out 7).trans rfl
  clear hv hl hk
  go_enter Try.func104, Try.ntmps104
  go_wp2_with (go_at_call 125; refine (HC.out _ ((Ext.refl w).alloc _)).mono ?_; rintro e w5 ⟨b, rfl, hE⟩; have HR1 := hid (hE.block (heap_alloc_new w (.cells #[.pointer none, .pointer none, .pointer none, .pointer none] 91))); have HEW := hid (((Ext.refl w).alloc _).trans hE); obtain ⟨⟨r0, r1, r2, r3⟩, f0, f1, f2, f3⟩ := slot4f HR1.out; clear hE)
  change bodyPost _ _ _ _ _ (set4 w5 w.heap.size (.pointer none) (.pointer none) (.pointer none) (.pointer none))
  have e5 := set4_heap HR1.out (.pointer none) (.pointer none) (.pointer none) (.pointer none)
  have x5 := hid (show Ext w (set4 w5 w.heap.size (.pointer none) (.pointer none) (.pointer none) (.pointer none)) from set4_below HEW.out (Nat.le_refl _) (.pointer none) (.pointer none) (.pointer none) (.pointer none))
  generalize set4 w5 w.heap.size (.pointer none) (.pointer none) (.pointer none) (.pointer none) = WF at *
  obtain ⟨⟨y0, y1, y2, y3⟩, -⟩ := slot4f e5
  refine bodyPost_ret (v := .tuple #[.agg #[.pointer none, .pointer none, .pointer none, .pointer none], .iface 231 (.pointer (some ⟨b, 0, none⟩))]) (by simp [results, Try.results104, go_sem, y0, y1, y2, y3]) rfl ⟨_, rfl, x5.out⟩
set_option maxHeartbeats 2000000 in
theorem doorItem_bad (t : Tree) (x sp : Value) (lp : Nat) (u0 u1 u2 u3 u4 : Option Addr) (ka : Option Addr) (kc : Nat) (w : World) (hv : RepVal Any w t x) (hk : badK t = true) (hl : w.heap[lp]? = some (.cells #[.pointer u0, .pointer u1, .pointer u2, .pointer u3, .pointer u4, .bool false, .string ⟨#[97, 115, 115, 111, 99, 105, 97, 116, 105, 118, 101]⟩, .slice ka 0 kc] 129)) : Calls Try.prog 75 #[sp, .pointer (some ⟨lp, 0, none⟩), x] w fun e w' => ∃ b, e = .returned (.tuple #[.agg #[.pointer none, .pointer none, .pointer none, .pointer none], .iface 231 (.pointer (some ⟨b, 0, none⟩))]) ∧ Ext w w' := by
  have HC := hid (fun W al (E : Ext w W) => listItem_bad t x al sp lp u0 u1 u2 u3 u4 ka kc W (hv.ext E) hk (E.block hl))
  obtain ⟨bx, rfl⟩ := repVal_form hv
  clear hv hl hk
  go_enter Try.func75, Try.ntmps75
  go_wp2_with (first
    | (go_at_call 105; refine (nha_any _).mono ?_; rintro e w4 ⟨b4, rfl, hE⟩; have HE4 := hid (((Ext.refl w).alloc (.cells #[.pointer none, .pointer none, .pointer none, .pointer none] 91)).trans hE); have HR4 := hid (hE.block (heap_alloc_new w (.cells #[.pointer none, .pointer none, .pointer none, .pointer none] 91))); have HS4 := hid (show w.heap.size + 1 ≤ w4.heap.size by have := hE.size; simpa using this); clear hE)
    | (go_at_call 104; refine (HC.out _ _ HE4.out).mono ?_; rintro e w5 ⟨b, rfl, hE⟩; have HR1 := hid (hE.block HR4.out); have HEW := hid (HE4.out.trans hE); obtain ⟨⟨r0, r1, r2, r3⟩, f0, f1, f2, f3⟩ := slot4f HR1.out; clear hE))
  change bodyPost _ _ _ _ _ (set4 w5 w.heap.size (.pointer none) (.pointer none) (.pointer none) (.pointer none))
  have e5 := set4_heap HR1.out (.pointer none) (.pointer none) (.pointer none) (.pointer none)
  have x5 := hid (show Ext w (set4 w5 w.heap.size (.pointer none) (.pointer none) (.pointer none) (.pointer none)) from set4_below HEW.out (Nat.le_refl _) (.pointer none) (.pointer none) (.pointer none) (.pointer none))
  generalize set4 w5 w.heap.size (.pointer none) (.pointer none) (.pointer none) (.pointer none) = WF at *
  obtain ⟨⟨y0, y1, y2, y3⟩, -⟩ := slot4f e5
  refine bodyPost_ret (v := .tuple #[.agg #[.pointer none, .pointer none, .pointer none, .pointer none], .iface 231 (.pointer (some ⟨b, 0, none⟩))]) (by simp [results, Try.results75, go_sem, y0, y1, y2, y3]) rfl ⟨_, rfl, x5.out⟩
set_option maxHeartbeats 2000000 in
theorem listItem_ok (t : Tree) (x al sp : Value) (lp : Nat) (u0 u1 u2 u3 u4 : Option Addr) (ka : Option Addr) (kc : Nat) (w : World) (hv : RepVal Any w t x) (hk : badK t = false) (hl : w.heap[lp]? = some (.cells #[.pointer u0, .pointer u1, .pointer u2, .pointer u3, .pointer u4, .bool false, .string ⟨#[97, 115, 115, 111, 99, 105, 97, 116, 105, 118, 101]⟩, .slice ka 0 kc] 129)) : Calls Try.prog 104 #[al, sp, .pointer (some ⟨lp, 0, none⟩), x] w fun e w' => ∃ b, e = .returned (.tuple #[.agg #[.pointer none, .pointer none, .pointer (some ⟨b, 0, none⟩), .pointer none], .nilIface]) ∧ w'.cell? ⟨b, 0, none⟩ = some x ∧ w.heap.size ≤ b ∧ Ext w w' := by
  have HC := hid (fun W (E : Ext w W) => setItem_good t x W (hv.ext E) hk)
  obtain ⟨bx, rfl⟩ := repVal_form hv
  have HL := hid (((Ext.refl w).alloc (.cells #[.pointer none, .pointer none, .pointer none, .pointer none] 91)).block hl)
  have l6 := (cell_of_heap HL.out 6).trans rfl
  have l7 := (cell_of_heap HL.out 7).trans rfl
  clear hv hl hk
  go_enter Try.func104, Try.ntmps104
  go_wp2_with (go_at_call 125; refine (HC.out _ ((Ext.refl w).alloc _)).mono ?_; rintro e w5 ⟨b, rfl, hc, hb, hE⟩; have HCB := hid (And.intro hc (show w.heap.size + 1 ≤ b from (by simpa using hb))); clear hc hb; have HR1 := hid (hE.block (heap_alloc_new w (.cells #[.pointer none, .pointer none, .pointer none, .pointer none] 91))); have HEW := hid (((Ext.refl w).alloc _).trans hE); obtain ⟨⟨r0, r1, r2, r3⟩, f0, f1, f2, f3⟩ := slot4f HR1.out; clear hE)
  change bodyPost _ _ _ _ _ (set4 w5 w.heap.size (.pointer none) (.pointer none) (.pointer (some ⟨b, 0, none⟩)) (.pointer none))
  have e5 := set4_heap HR1.out (.pointer none) (.pointer none) (.pointer (some ⟨b, 0, none⟩)) (.pointer none)
  have x5 := hid (show Ext w (set4 w5 w.heap.size (.pointer none) (.pointer none) (.pointer (some ⟨b, 0, none⟩)) (.pointer none)) from set4_below HEW.out (Nat.le_refl _) (.pointer none) (.pointer none) (.pointer (some ⟨b, 0, none⟩)) (.pointer none))
  have c5 := hid (show (set4 w5 w.heap.size (.pointer none) (.pointer none) (.pointer (some ⟨b, 0, none⟩)) (.pointer none)).cell? ⟨b, 0, none⟩ = some (.iface 203 (.pointer (some ⟨bx, 0, none⟩))) from cell_set4 HCB.out.1 (by have := HCB.out.2; omega) _ _ _ _)
  generalize set4 w5 w.heap.size (.pointer none) (.pointer none) (.pointer (some ⟨b, 0, none⟩)) (.pointer none) = WF at *
  obtain ⟨⟨y0, y1, y2, y3⟩, -⟩ := slot4f e5
  refine bodyPost_ret (v := .tuple #[.agg #[.pointer none, .pointer none, .pointer (some ⟨b, 0, none⟩), .pointer none], .nilIface]) (by simp [results, Try.results104, go_sem, y0, y1, y2, y3]) rfl ⟨_, rfl, c5.out, by have := HCB.out.2; omega, x5.out⟩
set_option maxHeartbeats 2000000 in
theorem doorItem_ok (t : Tree) (x sp : Value) (lp : Nat) (u0 u1 u2 u3 u4 : Option Addr) (ka : Option Addr) (kc : Nat) (w : World) (hv : RepVal Any w t x) (hk : badK t = false) (hl : w.heap[lp]? = some (.cells #[.pointer u0, .pointer u1, .pointer u2, .pointer u3, .pointer u4, .bool false, .string ⟨#[97, 115, 115, 111, 99, 105, 97, 116, 105, 118, 101]⟩, .slice ka 0 kc] 129)) : Calls Try.prog 75 #[sp, .pointer (some ⟨lp, 0, none⟩), x] w fun e w' => ∃ b, e = .returned (.tuple #[.agg #[.pointer none, .pointer none, .pointer (some ⟨b, 0, none⟩), .pointer none], .nilIface]) ∧ w'.cell? ⟨b, 0, none⟩ = some x ∧ w.heap.size ≤ b ∧ Ext w w' := by
  have HC := hid (fun W al (E : Ext w W) => listItem_ok t x al sp lp u0 u1 u2 u3 u4 ka kc W (hv.ext E) hk (E.block hl))
  obtain ⟨bx, rfl⟩ := repVal_form hv
  clear hv hl hk
  go_enter Try.func75, Try.ntmps75
  go_wp2_with (first
    | (go_at_call 105; refine (nha_any _).mono ?_; rintro e w4 ⟨b4, rfl, hE⟩; have HE4 := hid (((Ext.refl w).alloc (.cells #[.pointer none, .pointer none, .pointer none, .pointer none] 91)).trans hE); have HR4 := hid (hE.block (heap_alloc_new w (.cells #[.pointer none, .pointer none, .pointer none, .pointer none] 91))); have HS4 := hid (show w.heap.size + 1 ≤ w4.heap.size by have := hE.size; simpa using this); clear hE)
    | (go_at_call 104; refine (HC.out _ _ HE4.out).mono ?_; rintro e w5 ⟨b, rfl, hc, hb, hE⟩; have HCB := hid (And.intro hc (show w.heap.size + 1 ≤ b from (Nat.le_trans HS4.out hb))); clear hc hb; have HR1 := hid (hE.block HR4.out); have HEW := hid (HE4.out.trans hE); obtain ⟨⟨r0, r1, r2, r3⟩, f0, f1, f2, f3⟩ := slot4f HR1.out; clear hE))
  change bodyPost _ _ _ _ _ (set4 w5 w.heap.size (.pointer none) (.pointer none) (.pointer (some ⟨b, 0, none⟩)) (.pointer none))
  have e5 := set4_heap HR1.out (.pointer none) (.pointer none) (.pointer (some ⟨b, 0, none⟩)) (.pointer none)
  have x5 := hid (show Ext w (set4 w5 w.heap.size (.pointer none) (.pointer none) (.pointer (some ⟨b, 0, none⟩)) (.pointer none)) from set4_below HEW.out (Nat.le_refl _) (.pointer none) (.pointer none) (.pointer (some ⟨b, 0, none⟩)) (.pointer none))
  have c5 := hid (show (set4 w5 w.heap.size (.pointer none) (.pointer none) (.pointer (some ⟨b, 0, none⟩)) (.pointer none)).cell? ⟨b, 0, none⟩ = some (.iface 203 (.pointer (some ⟨bx, 0, none⟩))) from cell_set4 HCB.out.1 (by have := HCB.out.2; omega) _ _ _ _)
  generalize set4 w5 w.heap.size (.pointer none) (.pointer none) (.pointer (some ⟨b, 0, none⟩)) (.pointer none) = WF at *
  obtain ⟨⟨y0, y1, y2, y3⟩, -⟩ := slot4f e5
  refine bodyPost_ret (v := .tuple #[.agg #[.pointer none, .pointer none, .pointer (some ⟨b, 0, none⟩), .pointer none], .nilIface]) (by simp [results, Try.results75, go_sem, y0, y1, y2, y3]) rfl ⟨_, rfl, c5.out, by have := HCB.out.2; omega, x5.out⟩
theorem boxes4 (w : World) (a b c d : Obj) : ((((w.alloc a).alloc b).alloc c).alloc d).heap[w.heap.size]? = some a ∧ ((((w.alloc a).alloc b).alloc c).alloc d).heap[w.heap.size + 1]? = some b ∧ ((((w.alloc a).alloc b).alloc c).alloc d).heap[w.heap.size + 2]? = some c ∧ ((((w.alloc a).alloc b).alloc c).alloc d).heap[w.heap.size + 3]? = some d ∧ ((((w.alloc a).alloc b).alloc c).alloc d).heap.size = w.heap.size + 4 := by
  have h3 := heap_alloc_new (((w.alloc a).alloc b).alloc c) d
  have h2 := third_heap w a b c
  have h1 := second_heap w a b
  have h0 := heap_alloc_new w a
  rw [show (((w.alloc a).alloc b).alloc c).heap.size = w.heap.size + 3 by simp] at h3
  exact ⟨((((Ext.refl (w.alloc a)).alloc b).alloc c).alloc d).block h0, (((Ext.refl _).alloc c).alloc d).block h1, ((Ext.refl _).alloc d).block h2, h3, by simp⟩
theorem setType_rep (S : Nat → Prop) (w : World) : RepGS S w setType [.bool false, .string ⟨#[]⟩, .string ⟨#[117, 110, 116, 121, 112, 101, 100]⟩, .slice none 0 0, .slice none 0 0, .string ⟨#[]⟩, .string ⟨#[97, 115, 115, 111, 99, 105, 97, 116, 105, 118, 101]⟩, .slice none 0 0] :=
  .lst (by decide) rfl (.ref (by decide) (by decide) rfl (.atom (lb := 0) (lo := 0) (mb := 0) (mo := 0) (by decide) ⟨Nat.le_refl _, fun h => absurd h (by simp), fun i h => absurd h (by simp)⟩ (by simp) (fun i g cs h => by simp at h) ⟨Nat.le_refl _, fun h => absurd h (by simp), fun i h => absurd h (by simp)⟩ (by simp) (fun i g cs h => by simp at h))) (RepStrs.nil _ _)
theorem RepGE.form9 {S : Nat → Prop} {w : World} {e : GE} {cs : List Value} (h : RepGE S w e cs) : ∃ q0 q1 q2 q3 q4 q5 q6 q7 q8 q9 q10 q11 q12 q13 q14 q15 q16 q17 q18, cs = [.int .i64 q0, .string q1, .slice q2 q3 q4, .slice q5 q6 q7, .int .i64 q8, .int .i64 q9, .float .f64 q10, .string q11, .slice q12 q13 q14, .slice q15 q16 q17, .int .i64 q18] := by
  obtain ⟨ka, kc, la, lc, v0, v1, v2, v3, v4, v5, h, -, -, -, -, -, hv⟩ := h
  obtain ⟨u1, u2, u3, u4, u5, u6, u7, u8, u9, u10, h2⟩ := hv.form
  simp only [List.cons.injEq, and_true] at h2
  obtain ⟨rfl, rfl, rfl, rfl, rfl, rfl⟩ := h2
  exact ⟨_, _, _, _, _, _, _, _, _, _, _, _, _, _, _, _, _, _, _, h⟩
theorem setType_own {S : Nat → Prop} {w : World} {cs : List Value} (h : RepS S w setType cs) : ∃ u0 u1 u2 u3 u4 ka kc, cs = [.pointer u0, .pointer u1, .pointer u2, .pointer u3, .pointer u4, .bool false, .string ⟨#[97, 115, 115, 111, 99, 105, 97, 116, 105, 118, 101]⟩, .slice ka 0 kc] := by
  cases h with
  | lst h1 ht he hks =>
    obtain ⟨u0, u1, u2, u3, u4, e⟩ := he.formR ht
    simp only [List.cons.injEq, and_true] at e
    obtain ⟨rfl, rfl, rfl, rfl, rfl, rfl⟩ := e
    obtain ⟨a, b, o, c, rfl, -⟩ := hks
    exact ⟨_, _, _, _, _, _, _, rfl⟩
set_option maxHeartbeats 4000000 in
theorem itemElem_bad (g : GV) (cs : List Value) (w : World) (hR : RepGV Any w g cs) (hk : badK (plainT g) = true) : Calls Try.prog 33 #[.agg #[.slice none 0 0], .agg #[.bool false, .string ⟨#[]⟩, .string ⟨#[117, 110, 116, 121, 112, 101, 100]⟩, .slice none 0 0, .slice none 0 0, .string ⟨#[]⟩, .string ⟨#[97, 115, 115, 111, 99, 105, 97, 116, 105, 118, 101]⟩, .slice none 0 0], .agg cs.toArray] w fun e w' => e = .returned (.tuple #[.agg #[.int .i64 0, .string ⟨#[]⟩, .slice none 0 0, .slice none 0 0, .int .i64 0, .int .i64 0, .float .f64 0, .string ⟨#[]⟩, .slice none 0 0, .slice none 0 0, .int .i64 0], .bool false]) ∧ Ext w w' := by
  obtain ⟨k, n, f, s, a1, b1, c1, a2, b2, c2, rfl⟩ := hR.form
  have HR := hid hR
  have HK := hid hk
  clear hR hk
  go_enter Try.func33, Try.ntmps33
  go_upto_region 1 with fail
  obtain ⟨x0, x1, x2, x3, x4⟩ := boxes4 w (.cells #[.slice none 0 0] 62) (.cells #[.bool false, .string ⟨#[]⟩, .string ⟨#[117, 110, 116, 121, 112, 101, 100]⟩, .slice none 0 0, .slice none 0 0, .string ⟨#[]⟩, .string ⟨#[97, 115, 115, 111, 99, 105, 97, 116, 105, 118, 101]⟩, .slice none 0 0] 57) (.cells #[.int .i64 k, .int .i64 n, .float .f64 f, .string s, .slice a1 b1 c1, .slice a2 b2 c2] 32) (.cells #[.int .i64 0, .string ⟨#[]⟩, .slice none 0 0, .slice none 0 0, .int .i64 0, .int .i64 0, .float .f64 0, .string ⟨#[]⟩, .slice none 0 0, .slice none 0 0, .int .i64 0] 34)
  have HE1 := hid ((((((Ext.refl w).alloc (.cells #[.slice none 0 0] 62)).alloc (.cells #[.bool false, .string ⟨#[]⟩, .string ⟨#[117, 110, 116, 121, 112, 101, 100]⟩, .slice none 0 0, .slice none 0 0, .string ⟨#[]⟩, .string ⟨#[97, 115, 115, 111, 99, 105, 97, 116, 105, 118, 101]⟩, .slice none 0 0] 57)).alloc (.cells #[.int .i64 k, .int .i64 n, .float .f64 f, .string s, .slice a1 b1 c1, .slice a2 b2 c2] 32)).alloc (.cells #[.int .i64 0, .string ⟨#[]⟩, .slice none 0 0, .slice none 0 0, .int .i64 0, .int .i64 0, .float .f64 0, .string ⟨#[]⟩, .slice none 0 0, .slice none 0 0, .int .i64 0] 34)))
  generalize ((((w.alloc (.cells #[.slice none 0 0] 62)).alloc (.cells #[.bool false, .string ⟨#[]⟩, .string ⟨#[117, 110, 116, 121, 112, 101, 100]⟩, .slice none 0 0, .slice none 0 0, .string ⟨#[]⟩, .string ⟨#[97, 115, 115, 111, 99, 105, 97, 116, 105, 118, 101]⟩, .slice none 0 0] 57)).alloc (.cells #[.int .i64 k, .int .i64 n, .float .f64 f, .string s, .slice a1 b1 c1, .slice a2 b2 c2] 32)).alloc (.cells #[.int .i64 0, .string ⟨#[]⟩, .slice none 0 0, .slice none 0 0, .int .i64 0, .int .i64 0, .float .f64 0, .string ⟨#[]⟩, .slice none 0 0, .slice none 0 0, .int .i64 0] 34)) = w1 at *
  have X0 := hid x0
  have X1 := hid x1
  have X2 := hid x2
  have X3 := hid x3
  have HSZ := hid x4
  obtain ⟨⟨l0, l1, l2, l3, l4, l5, l6, l7⟩, -⟩ := slot8 x1
  clear x0 x1 x2 x3 x4
  have K := hid (show ∀ w' : World, Ext w1 w' → (fun w' : World => w'.cell? ⟨w.heap.size, 0, none⟩ = some (.slice none 0 0) ∧ w'.cell? ⟨w.heap.size + 2, 0, none⟩ = some (.int .i64 k) ∧ w'.cell? ⟨w.heap.size + 2, 1, none⟩ = some (.int .i64 n) ∧ w'.cell? ⟨w.heap.size + 2, 2, none⟩ = some (.float .f64 f) ∧ w'.cell? ⟨w.heap.size + 2, 3, none⟩ = some (.string s) ∧ w'.cell? ⟨w.heap.size + 2, 4, none⟩ = some (.slice a1 b1 c1) ∧ w'.cell? ⟨w.heap.size + 2, 5, none⟩ = some (.slice a2 b2 c2)) w' from fun w' h => by
    obtain ⟨⟨z0, z1, z2, z3, z4, z5⟩, -⟩ := slot6 (h.block X2.out)
    exact ⟨(cell_of_heap (h.block X0.out) 0).trans rfl, z0, z1, z2, z3, z4, z5⟩)
  go_upto_region 2 with (go_at_call 74; refine (toListType_any setType rfl _ _ (setType_rep _ _)).mono ?_; rintro e w5 ⟨cs5, rfl, hT, hE⟩; obtain ⟨u0, u1, u2, u3, u4, ka, kc, rfl⟩ := setType_own hT; have HE5 := hid hE; clear hT hE)
  have HL6 := hid (heap_alloc_new w5 (.cells #[.pointer u0, .pointer u1, .pointer u2, .pointer u3, .pointer u4, .bool false, .string ⟨#[97, 115, 115, 111, 99, 105, 97, 116, 105, 118, 101]⟩, .slice ka 0 kc] 129))
  have HE6 := hid (HE5.out.alloc (.cells #[.pointer u0, .pointer u1, .pointer u2, .pointer u3, .pointer u4, .bool false, .string ⟨#[97, 115, 115, 111, 99, 105, 97, 116, 105, 118, 101]⟩, .slice ka 0 kc] 129))
  generalize w5.alloc (.cells #[.pointer u0, .pointer u1, .pointer u2, .pointer u3, .pointer u4, .bool false, .string ⟨#[97, 115, 115, 111, 99, 105, 97, 116, 105, 118, 101]⟩, .slice ka 0 kc] 129) = w6 at *
  generalize w5.heap.size = lp at *
  have HVV := hid (show ∀ W, Ext w1 W → RepGV Any W g [.int .i64 k, .int .i64 n, .float .f64 f, .string s, .slice a1 b1 c1, .slice a2 b2 c2] from fun W h => HR.out.ext (HE1.out.trans h))
  go_region_held3 (fun w' : World => w'.cell? ⟨w.heap.size, 0, none⟩ = some (.slice none 0 0) ∧ w'.cell? ⟨w.heap.size + 2, 0, none⟩ = some (.int .i64 k) ∧ w'.cell? ⟨w.heap.size + 2, 1, none⟩ = some (.int .i64 n) ∧ w'.cell? ⟨w.heap.size + 2, 2, none⟩ = some (.float .f64 f) ∧ w'.cell? ⟨w.heap.size + 2, 3, none⟩ = some (.string s) ∧ w'.cell? ⟨w.heap.size + 2, 4, none⟩ = some (.slice a1 b1 c1) ∧ w'.cell? ⟨w.heap.size + 2, 5, none⟩ = some (.slice a2 b2 c2))
    (first | with_reducible exact K.out _ HE9.out | with_reducible exact K.out _ HE8.out | with_reducible exact K.out _ HE7.out | with_reducible exact K.out _ HE6.out.drew | with_reducible exact K.out _ (HE9.out.alloc _) | with_reducible exact K.out _ (HE8.out.alloc _) | with_reducible exact K.out _ (HE7.out.alloc _) | with_reducible exact K.out _ ((HE6.out.alloc _).drew) | with_reducible exact K.out _ (set4_raw HE9.out HE8.out.size _ _ _ _) | with_reducible exact K.out _ (set4_raw HE9.out HE7.out.size _ _ _ _) | with_reducible exact K.out _ (set4_raw HE9.out HE6.out.size _ _ _ _))
    (first
      | (go_at_call 76; refine (toSchema_nil _).mono ?_; rintro e w7 ⟨b7, rfl, hE⟩; have HE7 := hid (show Ext w1 w7 by first | with_reducible exact HE6.out.drew.trans hE | with_reducible exact ((HE6.out.alloc (.cells #[.pointer none, .pointer none, .pointer none, .pointer none] 91)).drew).trans hE); have HG7 := hid (show Ext w6 w7 by first | with_reducible exact (Ext.refl w6).drew.trans hE | with_reducible exact (((Ext.refl w6).alloc (.cells #[.pointer none, .pointer none, .pointer none, .pointer none] 91)).drew).trans hE); try (have HP := hid (show w7.heap[w6.heap.size]? = some (.cells #[.pointer none, .pointer none, .pointer none, .pointer none] 91) from hE.block (heap_alloc_new w6 (.cells #[.pointer none, .pointer none, .pointer none, .pointer none] 91)))); clear hE)
      | (go_at_call 77; refine (toValue_any g _ _ (HVV.out _ (by first | with_reducible exact HE7.out | with_reducible exact HE7.out.alloc (.cells #[.pointer none, .pointer none, .pointer none, .pointer none] 91)))).mono ?_; rintro e w8 ⟨x, rfl, hx, hE⟩; obtain ⟨xb, rfl⟩ := repVal_form hx; have HX0 := hid (hx.weak (fun b hb hlt => And.intro hb hlt)); have HX8 := hid (hx.weak (S' := Any) (fun _ _ _ => trivial)); have HE8 := hid (show Ext w1 w8 by first | with_reducible exact HE7.out.trans hE | with_reducible exact (HE7.out.alloc (.cells #[.pointer none, .pointer none, .pointer none, .pointer none] 91)).trans hE); have HG8 := hid (show Ext w6 w8 by first | with_reducible exact HG7.out.trans hE | with_reducible exact (HG7.out.alloc (.cells #[.pointer none, .pointer none, .pointer none, .pointer none] 91)).trans hE); first | (have HP := hid (show w8.heap[w7.heap.size]? = some (.cells #[.pointer none, .pointer none, .pointer none, .pointer none] 91) from hE.block (heap_alloc_new w7 (.cells #[.pointer none, .pointer none, .pointer none, .pointer none] 91))); have _ok := 0) | (have HP1 := HP; replace HP := hid (hE.block HP.out)) | skip; clear hE hx)
      | (go_at_call 75; ((with_reducible refine (doorItem_bad _ _ _ lp u0 u1 u2 u3 u4 ka kc _ HX8.out HK.out (HG8.out.block HL6.out)).mono ?_); rintro e w9 ⟨b, rfl, hE⟩; have HE9 := hid (HE8.out.trans hE); have HXX := hid (HX0.out.ext hE); try (replace HP := hid (hE.block HP.out); obtain ⟨⟨p0, p1, p2, p3⟩, g0, g1, g2, g3⟩ := slot4f HP.out); clear hE))
      | (go_at_call 75; refine (doorItem_bad _ _ _ lp u0 u1 u2 u3 u4 ka kc _ (HX8.out.ext ((Ext.refl w8).alloc (.cells #[.pointer none, .pointer none, .pointer none, .pointer none] 91))) HK.out ((HG8.out.alloc (.cells #[.pointer none, .pointer none, .pointer none, .pointer none] 91)).block HL6.out)).mono ?_; rintro e w9 ⟨b, rfl, hE⟩; have HE9 := hid ((HE8.out.alloc (.cells #[.pointer none, .pointer none, .pointer none, .pointer none] 91)).trans hE); have HP := hid (hE.block (heap_alloc_new w8 (.cells #[.pointer none, .pointer none, .pointer none, .pointer none] 91))); obtain ⟨⟨p0, p1, p2, p3⟩, g0, g1, g2, g3⟩ := slot4f HP.out; have HXX := hid (HX0.out.ext (((Ext.refl w8).alloc (.cells #[.pointer none, .pointer none, .pointer none, .pointer none] 91)).trans hE)); clear hE))
  all_goals first
    | (change Exit.then _ _ Exit.normal _ (set4 w9 w8.heap.size (.pointer none) (.pointer none) (.pointer none) (.pointer none)); have HPW := hid (set4_heap HP.out (.pointer none) (.pointer none) (.pointer none) (.pointer none)); have HEF := hid (show Ext w1 (set4 w9 w8.heap.size (.pointer none) (.pointer none) (.pointer none) (.pointer none)) from set4_below HE9.out HE8.out.size (.pointer none) (.pointer none) (.pointer none) (.pointer none)); generalize set4 w9 w8.heap.size (.pointer none) (.pointer none) (.pointer none) (.pointer none) = WW at *; generalize w8.heap.size = pb at *)
    | (change Exit.then _ _ Exit.normal _ (set4 w9 w7.heap.size (.pointer none) (.pointer none) (.pointer none) (.pointer none)); have HPW := hid (set4_heap HP.out (.pointer none) (.pointer none) (.pointer none) (.pointer none)); have HEF := hid (show Ext w1 (set4 w9 w7.heap.size (.pointer none) (.pointer none) (.pointer none) (.pointer none)) from set4_below HE9.out HE7.out.size (.pointer none) (.pointer none) (.pointer none) (.pointer none)); generalize set4 w9 w7.heap.size (.pointer none) (.pointer none) (.pointer none) (.pointer none) = WW at *; generalize w7.heap.size = pb at *)
    | (change Exit.then _ _ Exit.normal _ (set4 w9 w6.heap.size (.pointer none) (.pointer none) (.pointer none) (.pointer none)); have HPW := hid (set4_heap HP.out (.pointer none) (.pointer none) (.pointer none) (.pointer none)); have HEF := hid (show Ext w1 (set4 w9 w6.heap.size (.pointer none) (.pointer none) (.pointer none) (.pointer none)) from set4_below HE9.out HE6.out.size (.pointer none) (.pointer none) (.pointer none) (.pointer none)); generalize set4 w9 w6.heap.size (.pointer none) (.pointer none) (.pointer none) (.pointer none) = WW at *; generalize w6.heap.size = pb at *)
    | (have HPW := hid (heap_alloc_new w9 (.cells #[.pointer none, .pointer none, .pointer none, .pointer none] 91)); have HEF := hid (HE9.out.alloc (.cells #[.pointer none, .pointer none, .pointer none, .pointer none] 91)); generalize w9.alloc (.cells #[.pointer none, .pointer none, .pointer none, .pointer none] 91) = WW at *; generalize w9.heap.size = pb at *)
  all_goals
    have HR3 := hid (show WW.heap[w.heap.size + 1 + 1 + 1]? = some (.cells #[.int .i64 0, .string ⟨#[]⟩, .slice none 0 0, .slice none 0 0, .int .i64 0, .int .i64 0, .float .f64 0, .string ⟨#[]⟩, .slice none 0 0, .slice none 0 0, .int .i64 0] 34) from HEF.out.block X3.out)
    obtain ⟨⟨z0, z1, z2, z3, z4, z5, z6, z7, z8, z9, z10⟩, f0, f1, f2, f3, f4, f5, f6, f7, f8, f9, f10⟩ := slot11 HR3.out
    go_wp2_with fail
    change bodyPost _ _ _ _ _ (setL WW (w.heap.size + 1 + 1 + 1) 0 [.int .i64 0, .string ⟨#[]⟩, .slice none 0 0, .slice none 0 0, .int .i64 0, .int .i64 0, .float .f64 0, .string ⟨#[]⟩, .slice none 0 0, .slice none 0 0, .int .i64 0])
    have e4 := setL_all HR3.out [.int .i64 0, .string ⟨#[]⟩, .slice none 0 0, .slice none 0 0, .int .i64 0, .int .i64 0, .float .f64 0, .string ⟨#[]⟩, .slice none 0 0, .slice none 0 0, .int .i64 0] rfl
    have x4 := hid (show Ext w (setL WW (w.heap.size + 1 + 1 + 1) 0 [.int .i64 0, .string ⟨#[]⟩, .slice none 0 0, .slice none 0 0, .int .i64 0, .int .i64 0, .float .f64 0, .string ⟨#[]⟩, .slice none 0 0, .slice none 0 0, .int .i64 0]) from setL_below (HE1.out.trans HEF.out) (by omega) 0 [.int .i64 0, .string ⟨#[]⟩, .slice none 0 0, .slice none 0 0, .int .i64 0, .int .i64 0, .float .f64 0, .string ⟨#[]⟩, .slice none 0 0, .slice none 0 0, .int .i64 0])
    generalize setL WW (w.heap.size + 1 + 1 + 1) 0 [.int .i64 0, .string ⟨#[]⟩, .slice none 0 0, .slice none 0 0, .int .i64 0, .int .i64 0, .float .f64 0, .string ⟨#[]⟩, .slice none 0 0, .slice none 0 0, .int .i64 0] = WF at *
    obtain ⟨⟨y0, y1, y2, y3, y4, y5, y6, y7, y8, y9, y10⟩, -⟩ := slot11 e4
    exact bodyPost_ret (v := .tuple #[.agg #[.int .i64 0, .string ⟨#[]⟩, .slice none 0 0, .slice none 0 0, .int .i64 0, .int .i64 0, .float .f64 0, .string ⟨#[]⟩, .slice none 0 0, .slice none 0 0, .int .i64 0], .bool false]) (by simp [results, Try.results33, go_sem, y0, y1, y2, y3, y4, y5, y6, y7, y8, y9, y10]) rfl ⟨rfl, x4.out⟩
set_option maxHeartbeats 4000000 in
theorem itemElem_ok (g : GV) (cs : List Value) (w : World) (hR : RepGV Any w g cs) (hk : badK (plainT g) = false) : Calls Try.prog 33 #[.agg #[.slice none 0 0], .agg #[.bool false, .string ⟨#[]⟩, .string ⟨#[117, 110, 116, 121, 112, 101, 100]⟩, .slice none 0 0, .slice none 0 0, .string ⟨#[]⟩, .string ⟨#[97, 115, 115, 111, 99, 105, 97, 116, 105, 118, 101]⟩, .slice none 0 0], .agg cs.toArray] w fun e w' => ∃ cs', e = .returned (.tuple #[.agg cs'.toArray, .bool true]) ∧ RepGE Any w' ⟨2, ByteArray.empty, [], [], fromT (plainT g), 0⟩ cs' ∧ Ext w w' := by
  obtain ⟨k, n, f, s, a1, b1, c1, a2, b2, c2, rfl⟩ := hR.form
  have HR := hid hR
  have HK := hid hk
  clear hR hk
  go_enter Try.func33, Try.ntmps33
  go_upto_region 1 with fail
  obtain ⟨x0, x1, x2, x3, x4⟩ := boxes4 w (.cells #[.slice none 0 0] 62) (.cells #[.bool false, .string ⟨#[]⟩, .string ⟨#[117, 110, 116, 121, 112, 101, 100]⟩, .slice none 0 0, .slice none 0 0, .string ⟨#[]⟩, .string ⟨#[97, 115, 115, 111, 99, 105, 97, 116, 105, 118, 101]⟩, .slice none 0 0] 57) (.cells #[.int .i64 k, .int .i64 n, .float .f64 f, .string s, .slice a1 b1 c1, .slice a2 b2 c2] 32) (.cells #[.int .i64 0, .string ⟨#[]⟩, .slice none 0 0, .slice none 0 0, .int .i64 0, .int .i64 0, .float .f64 0, .string ⟨#[]⟩, .slice none 0 0, .slice none 0 0, .int .i64 0] 34)
  have HE1 := hid ((((((Ext.refl w).alloc (.cells #[.slice none 0 0] 62)).alloc (.cells #[.bool false, .string ⟨#[]⟩, .string ⟨#[117, 110, 116, 121, 112, 101, 100]⟩, .slice none 0 0, .slice none 0 0, .string ⟨#[]⟩, .string ⟨#[97, 115, 115, 111, 99, 105, 97, 116, 105, 118, 101]⟩, .slice none 0 0] 57)).alloc (.cells #[.int .i64 k, .int .i64 n, .float .f64 f, .string s, .slice a1 b1 c1, .slice a2 b2 c2] 32)).alloc (.cells #[.int .i64 0, .string ⟨#[]⟩, .slice none 0 0, .slice none 0 0, .int .i64 0, .int .i64 0, .float .f64 0, .string ⟨#[]⟩, .slice none 0 0, .slice none 0 0, .int .i64 0] 34)))
  generalize ((((w.alloc (.cells #[.slice none 0 0] 62)).alloc (.cells #[.bool false, .string ⟨#[]⟩, .string ⟨#[117, 110, 116, 121, 112, 101, 100]⟩, .slice none 0 0, .slice none 0 0, .string ⟨#[]⟩, .string ⟨#[97, 115, 115, 111, 99, 105, 97, 116, 105, 118, 101]⟩, .slice none 0 0] 57)).alloc (.cells #[.int .i64 k, .int .i64 n, .float .f64 f, .string s, .slice a1 b1 c1, .slice a2 b2 c2] 32)).alloc (.cells #[.int .i64 0, .string ⟨#[]⟩, .slice none 0 0, .slice none 0 0, .int .i64 0, .int .i64 0, .float .f64 0, .string ⟨#[]⟩, .slice none 0 0, .slice none 0 0, .int .i64 0] 34)) = w1 at *
  have X0 := hid x0
  have X1 := hid x1
  have X2 := hid x2
  have X3 := hid x3
  have HSZ := hid x4
  obtain ⟨⟨l0, l1, l2, l3, l4, l5, l6, l7⟩, -⟩ := slot8 x1
  clear x0 x1 x2 x3 x4
  have K := hid (show ∀ w' : World, Ext w1 w' → (fun w' : World => w'.cell? ⟨w.heap.size, 0, none⟩ = some (.slice none 0 0) ∧ w'.cell? ⟨w.heap.size + 2, 0, none⟩ = some (.int .i64 k) ∧ w'.cell? ⟨w.heap.size + 2, 1, none⟩ = some (.int .i64 n) ∧ w'.cell? ⟨w.heap.size + 2, 2, none⟩ = some (.float .f64 f) ∧ w'.cell? ⟨w.heap.size + 2, 3, none⟩ = some (.string s) ∧ w'.cell? ⟨w.heap.size + 2, 4, none⟩ = some (.slice a1 b1 c1) ∧ w'.cell? ⟨w.heap.size + 2, 5, none⟩ = some (.slice a2 b2 c2)) w' from fun w' h => by
    obtain ⟨⟨z0, z1, z2, z3, z4, z5⟩, -⟩ := slot6 (h.block X2.out)
    exact ⟨(cell_of_heap (h.block X0.out) 0).trans rfl, z0, z1, z2, z3, z4, z5⟩)
  go_upto_region 2 with (go_at_call 74; refine (toListType_any setType rfl _ _ (setType_rep _ _)).mono ?_; rintro e w5 ⟨cs5, rfl, hT, hE⟩; obtain ⟨u0, u1, u2, u3, u4, ka, kc, rfl⟩ := setType_own hT; have HE5 := hid hE; clear hT hE)
  have HL6 := hid (heap_alloc_new w5 (.cells #[.pointer u0, .pointer u1, .pointer u2, .pointer u3, .pointer u4, .bool false, .string ⟨#[97, 115, 115, 111, 99, 105, 97, 116, 105, 118, 101]⟩, .slice ka 0 kc] 129))
  have HE6 := hid (HE5.out.alloc (.cells #[.pointer u0, .pointer u1, .pointer u2, .pointer u3, .pointer u4, .bool false, .string ⟨#[97, 115, 115, 111, 99, 105, 97, 116, 105, 118, 101]⟩, .slice ka 0 kc] 129))
  generalize w5.alloc (.cells #[.pointer u0, .pointer u1, .pointer u2, .pointer u3, .pointer u4, .bool false, .string ⟨#[97, 115, 115, 111, 99, 105, 97, 116, 105, 118, 101]⟩, .slice ka 0 kc] 129) = w6 at *
  generalize w5.heap.size = lp at *
  have HVV := hid (show ∀ W, Ext w1 W → RepGV Any W g [.int .i64 k, .int .i64 n, .float .f64 f, .string s, .slice a1 b1 c1, .slice a2 b2 c2] from fun W h => HR.out.ext (HE1.out.trans h))
  go_region_held3 (fun w' : World => w'.cell? ⟨w.heap.size, 0, none⟩ = some (.slice none 0 0) ∧ w'.cell? ⟨w.heap.size + 2, 0, none⟩ = some (.int .i64 k) ∧ w'.cell? ⟨w.heap.size + 2, 1, none⟩ = some (.int .i64 n) ∧ w'.cell? ⟨w.heap.size + 2, 2, none⟩ = some (.float .f64 f) ∧ w'.cell? ⟨w.heap.size + 2, 3, none⟩ = some (.string s) ∧ w'.cell? ⟨w.heap.size + 2, 4, none⟩ = some (.slice a1 b1 c1) ∧ w'.cell? ⟨w.heap.size + 2, 5, none⟩ = some (.slice a2 b2 c2))
    (first | with_reducible exact K.out _ HE9.out | with_reducible exact K.out _ HE8.out | with_reducible exact K.out _ HE7.out | with_reducible exact K.out _ HE6.out.drew | with_reducible exact K.out _ (HE9.out.alloc _) | with_reducible exact K.out _ (HE8.out.alloc _) | with_reducible exact K.out _ (HE7.out.alloc _) | with_reducible exact K.out _ ((HE6.out.alloc _).drew) | with_reducible exact K.out _ (set4_raw HE9.out HE8.out.size _ _ _ _) | with_reducible exact K.out _ (set4_raw HE9.out HE7.out.size _ _ _ _) | with_reducible exact K.out _ (set4_raw HE9.out HE6.out.size _ _ _ _))
    (first
      | (go_at_call 76; refine (toSchema_nil _).mono ?_; rintro e w7 ⟨b7, rfl, hE⟩; have HE7 := hid (show Ext w1 w7 by first | with_reducible exact HE6.out.drew.trans hE | with_reducible exact ((HE6.out.alloc (.cells #[.pointer none, .pointer none, .pointer none, .pointer none] 91)).drew).trans hE); have HG7 := hid (show Ext w6 w7 by first | with_reducible exact (Ext.refl w6).drew.trans hE | with_reducible exact (((Ext.refl w6).alloc (.cells #[.pointer none, .pointer none, .pointer none, .pointer none] 91)).drew).trans hE); try (have HP := hid (show w7.heap[w6.heap.size]? = some (.cells #[.pointer none, .pointer none, .pointer none, .pointer none] 91) from hE.block (heap_alloc_new w6 (.cells #[.pointer none, .pointer none, .pointer none, .pointer none] 91)))); clear hE)
      | (go_at_call 77; refine (toValue_any g _ _ (HVV.out _ (by first | with_reducible exact HE7.out | with_reducible exact HE7.out.alloc (.cells #[.pointer none, .pointer none, .pointer none, .pointer none] 91)))).mono ?_; rintro e w8 ⟨x, rfl, hx, hE⟩; obtain ⟨xb, rfl⟩ := repVal_form hx; have HX0 := hid (hx.weak (fun b hb hlt => And.intro hb hlt)); have HX8 := hid (hx.weak (S' := Any) (fun _ _ _ => trivial)); have HE8 := hid (show Ext w1 w8 by first | with_reducible exact HE7.out.trans hE | with_reducible exact (HE7.out.alloc (.cells #[.pointer none, .pointer none, .pointer none, .pointer none] 91)).trans hE); have HG8 := hid (show Ext w6 w8 by first | with_reducible exact HG7.out.trans hE | with_reducible exact (HG7.out.alloc (.cells #[.pointer none, .pointer none, .pointer none, .pointer none] 91)).trans hE); first | (have HP := hid (show w8.heap[w7.heap.size]? = some (.cells #[.pointer none, .pointer none, .pointer none, .pointer none] 91) from hE.block (heap_alloc_new w7 (.cells #[.pointer none, .pointer none, .pointer none, .pointer none] 91))); have _ok := 0) | (have HP1 := HP; replace HP := hid (hE.block HP.out)) | skip; clear hE hx)
      | (go_at_call 75; ((with_reducible refine (doorItem_ok _ _ _ lp u0 u1 u2 u3 u4 ka kc _ HX8.out HK.out (HG8.out.block HL6.out)).mono ?_); rintro e w9 ⟨b, rfl, hc, hb, hE⟩; have HCB := hid (And.intro hc hb); clear hc hb; have HE9 := hid (HE8.out.trans hE); have HXX := hid (HX0.out.ext hE); try (replace HP := hid (hE.block HP.out); obtain ⟨⟨p0, p1, p2, p3⟩, g0, g1, g2, g3⟩ := slot4f HP.out); clear hE))
      | (go_at_call 75; refine (doorItem_ok _ _ _ lp u0 u1 u2 u3 u4 ka kc _ (HX8.out.ext ((Ext.refl w8).alloc (.cells #[.pointer none, .pointer none, .pointer none, .pointer none] 91))) HK.out ((HG8.out.alloc (.cells #[.pointer none, .pointer none, .pointer none, .pointer none] 91)).block HL6.out)).mono ?_; rintro e w9 ⟨b, rfl, hc, hb, hE⟩; have HCB := hid (And.intro hc hb); clear hc hb; have HE9 := hid ((HE8.out.alloc (.cells #[.pointer none, .pointer none, .pointer none, .pointer none] 91)).trans hE); have HP := hid (hE.block (heap_alloc_new w8 (.cells #[.pointer none, .pointer none, .pointer none, .pointer none] 91))); obtain ⟨⟨p0, p1, p2, p3⟩, g0, g1, g2, g3⟩ := slot4f HP.out; have HXX := hid (HX0.out.ext (((Ext.refl w8).alloc (.cells #[.pointer none, .pointer none, .pointer none, .pointer none] 91)).trans hE)); clear hE))
  all_goals first
    | (change Exit.then _ _ Exit.normal _ (set4 w9 w8.heap.size (.pointer none) (.pointer none) (.pointer (some ⟨b, 0, none⟩)) (.pointer none)); have HPW := hid (set4_heap HP.out (.pointer none) (.pointer none) (.pointer (some ⟨b, 0, none⟩)) (.pointer none)); have HEF := hid (show Ext w1 (set4 w9 w8.heap.size (.pointer none) (.pointer none) (.pointer (some ⟨b, 0, none⟩)) (.pointer none)) from set4_below HE9.out HE8.out.size (.pointer none) (.pointer none) (.pointer (some ⟨b, 0, none⟩)) (.pointer none)); have HCW := hid (cell_set4 HCB.out.1 (fun e => by have h1 := HCB.out.1; rw [e, cell_of_heap HP.out 0] at h1; simp at h1) (.pointer none) (.pointer none) (.pointer (some ⟨b, 0, none⟩)) (.pointer none)); have HXW := hid (HXX.out.mono (S' := Any) (fun b0 o hb ho => (set4_other (by have h2 := hb.2; show b0 ≠ w8.heap.size; omega) (.pointer none) (.pointer none) (.pointer (some ⟨b, 0, none⟩)) (.pointer none)).trans ho) (fun _ _ _ => trivial)); generalize set4 w9 w8.heap.size (.pointer none) (.pointer none) (.pointer (some ⟨b, 0, none⟩)) (.pointer none) = WW at *; generalize w8.heap.size = pb at *)
    | (change Exit.then _ _ Exit.normal _ (set4 w9 w7.heap.size (.pointer none) (.pointer none) (.pointer (some ⟨b, 0, none⟩)) (.pointer none)); have HPW := hid (set4_heap HP.out (.pointer none) (.pointer none) (.pointer (some ⟨b, 0, none⟩)) (.pointer none)); have HEF := hid (show Ext w1 (set4 w9 w7.heap.size (.pointer none) (.pointer none) (.pointer (some ⟨b, 0, none⟩)) (.pointer none)) from set4_below HE9.out HE7.out.size (.pointer none) (.pointer none) (.pointer (some ⟨b, 0, none⟩)) (.pointer none)); have HCW := hid (cell_set4 HCB.out.1 (fun e => by have h1 := HCB.out.1; rw [e, cell_of_heap HP.out 0] at h1; simp at h1) (.pointer none) (.pointer none) (.pointer (some ⟨b, 0, none⟩)) (.pointer none)); have HXW := hid (HXX.out.mono (S' := Any) (fun b0 o hb ho => (set4_other (by have h1 := hb.1; simp at h1; show b0 ≠ w7.heap.size; omega) (.pointer none) (.pointer none) (.pointer (some ⟨b, 0, none⟩)) (.pointer none)).trans ho) (fun _ _ _ => trivial)); generalize set4 w9 w7.heap.size (.pointer none) (.pointer none) (.pointer (some ⟨b, 0, none⟩)) (.pointer none) = WW at *; generalize w7.heap.size = pb at *)
    | (change Exit.then _ _ Exit.normal _ (set4 w9 w6.heap.size (.pointer none) (.pointer none) (.pointer (some ⟨b, 0, none⟩)) (.pointer none)); have HPW := hid (set4_heap HP.out (.pointer none) (.pointer none) (.pointer (some ⟨b, 0, none⟩)) (.pointer none)); have HEF := hid (show Ext w1 (set4 w9 w6.heap.size (.pointer none) (.pointer none) (.pointer (some ⟨b, 0, none⟩)) (.pointer none)) from set4_below HE9.out HE6.out.size (.pointer none) (.pointer none) (.pointer (some ⟨b, 0, none⟩)) (.pointer none)); have HCW := hid (cell_set4 HCB.out.1 (fun e => by have h1 := HCB.out.1; rw [e, cell_of_heap HP.out 0] at h1; simp at h1) (.pointer none) (.pointer none) (.pointer (some ⟨b, 0, none⟩)) (.pointer none)); have HXW := hid (HXX.out.mono (S' := Any) (fun b0 o hb ho => (set4_other (by have h1 := hb.1; have h2 := (Array.getElem?_eq_some_iff.1 HP1.out).1; show b0 ≠ w6.heap.size; omega) (.pointer none) (.pointer none) (.pointer (some ⟨b, 0, none⟩)) (.pointer none)).trans ho) (fun _ _ _ => trivial)); generalize set4 w9 w6.heap.size (.pointer none) (.pointer none) (.pointer (some ⟨b, 0, none⟩)) (.pointer none) = WW at *; generalize w6.heap.size = pb at *)
    | (have HPW := hid (heap_alloc_new w9 (.cells #[.pointer none, .pointer none, .pointer (some ⟨b, 0, none⟩), .pointer none] 91)); have HEF := hid (HE9.out.alloc (.cells #[.pointer none, .pointer none, .pointer (some ⟨b, 0, none⟩), .pointer none] 91)); have HCW := hid (((Ext.refl w9).alloc (.cells #[.pointer none, .pointer none, .pointer (some ⟨b, 0, none⟩), .pointer none] 91)).cellS HCB.out.1); have HXW := hid ((HXX.out.ext ((Ext.refl w9).alloc (.cells #[.pointer none, .pointer none, .pointer (some ⟨b, 0, none⟩), .pointer none] 91))).weak (S' := Any) (fun _ _ _ => trivial)); generalize w9.alloc (.cells #[.pointer none, .pointer none, .pointer (some ⟨b, 0, none⟩), .pointer none] 91) = WW at *; generalize w9.heap.size = pb at *)
  all_goals
    have HR3 := hid (show WW.heap[w.heap.size + 1 + 1 + 1]? = some (.cells #[.int .i64 0, .string ⟨#[]⟩, .slice none 0 0, .slice none 0 0, .int .i64 0, .int .i64 0, .float .f64 0, .string ⟨#[]⟩, .slice none 0 0, .slice none 0 0, .int .i64 0] 34) from HEF.out.block X3.out)
    obtain ⟨⟨z0, z1, z2, z3, z4, z5, z6, z7, z8, z9, z10⟩, f0, f1, f2, f3, f4, f5, f6, f7, f8, f9, f10⟩ := slot11 HR3.out
    obtain ⟨⟨p0, p1, p2, p3⟩, g0, g1, g2, g3⟩ := slot4f HPW.out
    go_wp2_with (go_at_call 52; refine (fromElem_any Any (.val (plainT g)) [.pointer none, .pointer none, .pointer (some ⟨b, 0, none⟩), .pointer none] _ ⟨b, 0, trivial, rfl, _, HCW.out, HXW.out⟩).mono ?_; rintro e w11 ⟨cs11, rfl, hG, hE⟩; obtain ⟨q0, q1, q2, q3, q4, q5, q6, q7, q8, q9, q10, q11, q12, q13, q14, q15, q16, q17, q18, rfl⟩ := hG.form9; have HG11 := hid (hG.weak (S' := fun b => w.heap.size + 4 ≤ b) (fun b0 hb0 _ => by have h1 := HEF.out.size; have h2 := HSZ.out; have h3 : WW.heap.size ≤ b0 := hb0; omega)); have HE11 := hid (HEF.out.trans hE); clear hE hG z0 z1 z2 z3 z4 z5 z6 z7 z8 z9 z10 f0 f1 f2 f3 f4 f5 f6 f7 f8 f9 f10; obtain ⟨⟨z0, z1, z2, z3, z4, z5, z6, z7, z8, z9, z10⟩, f0, f1, f2, f3, f4, f5, f6, f7, f8, f9, f10⟩ := slot11 (HE11.out.block X3.out))
    change bodyPost _ _ _ _ _ (setL w11 (w.heap.size + 1 + 1 + 1) 0 [.int .i64 q0, .string q1, .slice q2 q3 q4, .slice q5 q6 q7, .int .i64 q8, .int .i64 q9, .float .f64 q10, .string q11, .slice q12 q13 q14, .slice q15 q16 q17, .int .i64 q18])
    obtain ⟨e4, hr4, x4⟩ := putE (e := fromEl (.val (plainT g))) (w := w) (W := w11) (S := fun b => w.heap.size + 4 ≤ b) (vs := [.int .i64 q0, .string q1, .slice q2 q3 q4, .slice q5 q6 q7, .int .i64 q8, .int .i64 q9, .float .f64 q10, .string q11, .slice q12 q13 q14, .slice q15 q16 q17, .int .i64 q18]) (HE11.out.block X3.out) rfl (by omega) (HE1.out.trans HE11.out) HG11.out (fun b0 hb0 => by have hb2 : w.heap.size + 4 ≤ b0 := hb0; omega) _ rfl
    generalize setL w11 (w.heap.size + 1 + 1 + 1) 0 [.int .i64 q0, .string q1, .slice q2 q3 q4, .slice q5 q6 q7, .int .i64 q8, .int .i64 q9, .float .f64 q10, .string q11, .slice q12 q13 q14, .slice q15 q16 q17, .int .i64 q18] = WF at *
    obtain ⟨⟨y0, y1, y2, y3, y4, y5, y6, y7, y8, y9, y10⟩, -⟩ := slot11 e4
    exact bodyPost_ret (v := .tuple #[.agg #[.int .i64 q0, .string q1, .slice q2 q3 q4, .slice q5 q6 q7, .int .i64 q8, .int .i64 q9, .float .f64 q10, .string q11, .slice q12 q13 q14, .slice q15 q16 q17, .int .i64 q18], .bool true]) (by simp [results, Try.results33, go_sem, y0, y1, y2, y3, y4, y5, y6, y7, y8, y9, y10]) rfl ⟨[.int .i64 q0, .string q1, .slice q2 q3 q4, .slice q5 q6 q7, .int .i64 q8, .int .i64 q9, .float .f64 q10, .string q11, .slice q12 q13 q14, .slice q15 q16 q17, .int .i64 q18], rfl, hr4.weak (fun _ _ _ => trivial), x4⟩
end Go.Proofs.Ytempfaefopfobaa
