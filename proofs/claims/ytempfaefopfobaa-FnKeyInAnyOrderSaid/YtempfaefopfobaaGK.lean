/- Late: a law for regions that draw their order, where a cell that is loaded is stored to by the region's last operations: a load that each such store waits for may be taken first, though the store changes its cell. -/
import Derived.OrdersHeld
import Derived.StillTail
import Derived.Deep.RegionHeld
import Derived.Test.YtempfaefopfobaaSort
import Derived.Test.YtempfaefopfobaaFromEl
import Derived.Test.YtempfaefopfobaaSortP
import Derived.Test.YtempfaefopfobaaCleanElem

section
namespace Go.Proofs.Ytempfaefopfobaa
set_option linter.unusedVariables false
set_option linter.unusedSimpArgs false

section
variable {P : Program} {ops : Array Oper} {Q : Exit → Act → World → Prop} {md : Region.Mode} {S : World → Prop} {late : List Nat}

/-- no late operation has come up -/
def Clear (late : List Nat) (listed : Array Bool) : Prop := ∀ k ∈ late, listed.getD k false = false
/-- what has come up has what it waits for behind it -/
def Closed (md : Region.Mode) (ops : Array Oper) (listed : Array Bool) : Prop := ∀ j oj, ops[j]? = some oj → listed.getD j false = true → ∀ e ∈ oj.after, Region.binds md e = true → listed.getD e.on false = true
theorem Closed.set {i : Nat} {listed : Array Bool} (h : Closed md ops listed) (hi : i ∈ Region.ready md ops listed) : Closed md ops (listed.setIfInBounds i true) := by
  obtain ⟨_, oi, hoi, hall⟩ := mem_ready.1 hi
  intro j oj hj hl e he hb
  by_cases hij : i = j
  · subst hij
    have : oj = oi := Option.some.inj (hj.symm.trans hoi)
    subst this
    exact getD_set_true (hall e he hb)
  · rw [getD_set_ne false hij] at hl
    exact getD_set_true (h j oj hj hl e he hb)
/-- k waits for i, by way of f others at most -/
def reachB (md : Region.Mode) (ops : Array Oper) : Nat → Nat → Nat → Bool
  | 0, k, i => Region.waitsFor md ops k i
  | f + 1, k, i => Region.waitsFor md ops k i || (List.range ops.size).any fun j => Region.waitsFor md ops k j && reachB md ops f j i
theorem reach_spec {listed : Array Bool} (hc : Closed md ops listed) : ∀ (f k i : Nat), reachB md ops f k i = true → listed.getD k false = true → listed.getD i false = true := by
  have h0 : ∀ k i, Region.waitsFor md ops k i = true → listed.getD k false = true → listed.getD i false = true := fun k i h hk => by
    obtain ⟨ok, hok, e, he, hb, hon⟩ := Region.waitsFor_spec h
    exact hon ▸ hc k ok hok hk e he hb
  intro f
  induction f with
  | zero => exact h0
  | succ f ih =>
    intro k i h hk
    simp only [reachB, Bool.or_eq_true] at h
    rcases h with h | h
    · exact h0 k i h hk
    · obtain ⟨j, -, hj⟩ := List.any_eq_true.1 h
      simp only [Bool.and_eq_true] at hj
      exact ih j i hj.2 (h0 k j hj.1 hk)
/-- each late operation waits for this one -/
def lateB (md : Region.Mode) (ops : Array Oper) (late : List Nat) (i : Nat) : Bool := late.all fun k => reachB md ops 2 k i
theorem clear_of {i : Nat} {listed : Array Bool} (hc : Closed md ops listed) (hl : lateB md ops late i = true) (hun : listed.getD i false = false) : Clear late listed := by
  intro k hk
  cases hkl : listed.getD k false with
  | false => rfl
  | true =>
    have := reach_spec hc 2 k i (List.all_eq_true.1 hl k hk) hkl
    rw [hun] at this
    cases this

/-- whatever order is picked from here on, and S holds behind each operation till a late one has come up -/
def wpAnyM (P : Program) (md : Region.Mode) (ops : Array Oper) (Q : Exit → Act → World → Prop) (S : World → Prop) (late : List Nat) : Nat → Array Bool → Act → World → Prop
  | 0, listed, a, w => Region.ready md ops listed = [] ∧ Q .normal a w
  | fuel + 1, listed, a, w =>
    (Region.ready md ops listed = [] → Q .normal a w) ∧
    ∀ i ∈ Region.ready md ops listed, wpOp P ops Q i (fun a' w' => (Clear late (listed.setIfInBounds i true) → S w') ∧ wpAnyM P md ops Q S late fuel (listed.setIfInBounds i true) a' w') a w
theorem wpAny_of_late : ∀ (fuel : Nat) (listed : Array Bool) (a : Act) (w : World), wpAnyM P md ops Q S late fuel listed a w → wpAny P md ops Q fuel listed a w
  | 0, _, _, _, h => h
  | fuel + 1, _, _, _, h => ⟨h.1, fun i hi => wpOp_mono (fun a' w' h' => wpAny_of_late fuel _ a' w' h'.2) (h.2 i hi)⟩

theorem wpAnyM_first {S' : World → Prop} {i : Nat} {oi : Oper} {v : Value} (hi : ops[i]? = some oi) (hsel : ∀ (j : Nat) (o : Oper) cs b, ops[j]? = some o → o.op ≠ .select cs b)
    (hQ : ∀ c a w, Q (.panic c) (a.put oi.dst v) w → Q (.panic c) a w) (hlt : i ∉ late)
    (hSS : ∀ (listed : Array Bool) (w : World), Closed md ops listed → listed.getD i false = false → (Clear late listed → S w) → S' w) :
    ∀ (fuel : Nat) (listed : Array Bool) (a : Act) (w : World), Closed md ops listed →
      (∀ j oj, ops[j]? = some oj → j ≠ i → listed.getD j true = false → (∀ e ∈ oj.after, Region.binds md e = true → e.on ≠ i) → oi.apart ops oj = true) →
      i ∈ Region.ready md ops listed → YieldsIf P ops S' oi v a → (Clear late listed → S w) →
      wpAnyM P md ops Q S late fuel (listed.setIfInBounds i true) (a.put oi.dst v) w → wpAnyM P md ops Q S late (fuel + 1) listed a w := by
  intro fuel
  have hni : ∀ (listed : Array Bool) (j : Nat), (Clear late (listed.setIfInBounds j true)) → Clear late ((listed.setIfInBounds i true).setIfInBounds j true) := by
    intro listed j hcl k hk
    have hki : k ≠ i := fun e => hlt (e ▸ hk)
    have h := hcl k hk
    by_cases hji : j = i
    · subst hji
      rw [getD_set_ne false (Ne.symm hki), getD_set_ne false (Ne.symm hki)]
      rwa [getD_set_ne false (Ne.symm hki)] at h
    · rw [Array.setIfInBounds_comm _ _ (Ne.symm hji), getD_set_ne false (Ne.symm hki)]
      exact h
  have hni0 : ∀ (listed : Array Bool), Clear late (listed.setIfInBounds i true) → Clear late listed := by
    intro listed hcl k hk
    have hki : k ≠ i := fun e => hlt (e ▸ hk)
    have h := hcl k hk
    rwa [getD_set_ne false (Ne.symm hki)] at h
  induction fuel with
  | zero =>
    intro listed a w hc _ hr hy hS H
    have hS' := hSS listed w hc (getD_both (mem_ready.1 hr).1) hS
    refine ⟨fun h => (by rw [h] at hr; cases hr), fun j hj => ?_⟩
    by_cases hji : j = i
    · subst hji; exact hy.wpOp hi hS' ⟨fun h => hS (hni0 _ h), H⟩
    · have := ready_mono hj hji
      rw [H.1] at this
      cases this
  | succ fuel ih =>
    intro listed a w hc hfree hr hy hS H
    have hS' := hSS listed w hc (getD_both (mem_ready.1 hr).1) hS
    refine ⟨fun h => (by rw [h] at hr; cases hr), fun j hj => ?_⟩
    by_cases hji : j = i
    · subst hji; exact hy.wpOp hi hS' ⟨fun h => hS (hni0 _ h), H⟩
    · have h1 := H.2 j (ready_mono hj hji)
      obtain ⟨hjun, oj, hoj, hall⟩ := mem_ready.1 hj
      have hnot : ∀ e ∈ oj.after, Region.binds md e = true → e.on ≠ i := fun e he hb heq => by
        have h1 := hall e he hb
        have h0 := (mem_ready.1 hr).1
        rw [heq, getD_both h0] at h1
        cases h1
      have h2 := wpOp_putIf hoj (hfree j oj hoj hji hjun hnot) (fun cs b => hsel i oi cs b hi) (fun cs b => hsel j oj cs b hoj) hQ hy h1
      have hfree' : ∀ k ok, ops[k]? = some ok → k ≠ i → (listed.setIfInBounds j true).getD k true = false →
          (∀ e ∈ ok.after, Region.binds md e = true → e.on ≠ i) → oi.apart ops ok = true := fun k ok hk hki hun hno => by
        refine hfree k ok hk hki ?_ hno
        by_cases hjk : j = k
        · subst hjk; exact hjun
        · rw [getD_set_ne true hjk] at hun; exact hun
      refine wpOp_mono (fun a' w' h3 => ⟨fun hcl => h3.2.1 (hni listed j hcl), ih (listed.setIfInBounds j true) a' w' (hc.set hj) hfree' (ready_mono hr (Ne.symm hji)) h3.1 (fun hcl => h3.2.1 (hni listed j hcl)) ?_⟩) h2
      rw [Array.setIfInBounds_comm _ _ hji]
      exact h3.2.2

def closedB (md : Region.Mode) (ops : Array Oper) (listed : Array Bool) : Bool :=
  (List.range ops.size).all fun j => !(listed.getD j false) || ((ops[j]?).map fun oj => oj.after.all fun e => !(Region.binds md e) || listed.getD e.on false).getD true
theorem closed_of {listed : Array Bool} (h : closedB md ops listed = true) : Closed md ops listed := by
  intro j oj hj hl e he hb
  have hlt : j < ops.size := (Array.getElem?_eq_some_iff.1 hj).1
  have h1 := List.all_eq_true.1 h j (List.mem_range.2 hlt)
  simp only [hl, Bool.not_true, Bool.false_or, hj, Option.map_some, Option.getD_some] at h1
  have h2 := Array.all_eq_true'.1 h1 e he
  simpa [hb] using h2

/-- take number i first: each late operation waits for it -/
theorem wpAnyM_take {i : Nat} {oi : Oper} {v : Value} {fuel : Nat} {listed : Array Bool} {a : Act} {w : World} (hi : ops[i]? = some oi)
    (hB : (Region.noSelect ops && Region.free md ops listed i && (Region.ready md ops listed).contains i && lateB md ops late i && closedB md ops listed && !(late.contains i)) = true)
    (hQ : ∀ c a w, Q (.panic c) (a.put oi.dst v) w → Q (.panic c) a w) (hy : YieldsIf P ops S oi v a) (hS : S w)
    (h : wpAnyM P md ops Q S late fuel (listed.setIfInBounds i true) (a.put oi.dst v) w) : wpAnyM P md ops Q S late (fuel + 1) listed a w := by
  simp only [Bool.and_eq_true] at hB
  obtain ⟨⟨⟨⟨⟨h1, h2⟩, h3⟩, h4⟩, h5⟩, h6⟩ := hB
  exact wpAnyM_first (S' := S) hi (Region.noSelect_spec h1) hQ (by simpa using h6) (fun l w hc hun hS => hS (clear_of hc h4 hun)) fuel listed a w (closed_of h5) (Region.free_spec hi h2) (by simpa using h3) hy (fun _ => hS) h
/-- take number i first: it yields in whatever world -/
theorem wpAnyM_takeY {i : Nat} {oi : Oper} {v : Value} {fuel : Nat} {listed : Array Bool} {a : Act} {w : World} (hi : ops[i]? = some oi)
    (hB : (Region.noSelect ops && Region.free md ops listed i && (Region.ready md ops listed).contains i && closedB md ops listed && !(late.contains i)) = true)
    (hQ : ∀ c a w, Q (.panic c) (a.put oi.dst v) w → Q (.panic c) a w) (hy : YieldsIf P ops (fun _ => True) oi v a) (hS : Clear late listed → S w)
    (h : wpAnyM P md ops Q S late fuel (listed.setIfInBounds i true) (a.put oi.dst v) w) : wpAnyM P md ops Q S late (fuel + 1) listed a w := by
  simp only [Bool.and_eq_true] at hB
  obtain ⟨⟨⟨⟨h1, h2⟩, h3⟩, h5⟩, h6⟩ := hB
  exact wpAnyM_first (S' := fun _ => True) hi (Region.noSelect_spec h1) hQ (by simpa using h6) (fun _ _ _ _ _ => trivial) fuel listed a w (closed_of h5) (Region.free_spec hi h2) (by simpa using h3) hy hS h

/-- each of the operations rs comes up next -/
def AllReadyM (P : Program) (md : Region.Mode) (ops : Array Oper) (Q : Exit → Act → World → Prop) (S : World → Prop) (late : List Nat) (fuel : Nat) (listed : Array Bool) (a : Act) (w : World) (rs : List Nat) : Prop :=
  ∀ i ∈ rs, wpOp P ops Q i (fun a' w' => (Clear late (listed.setIfInBounds i true) → S w') ∧ wpAnyM P md ops Q S late fuel (listed.setIfInBounds i true) a' w') a w
theorem AllReadyM.nil {fuel : Nat} {listed : Array Bool} {a : Act} {w : World} : AllReadyM P md ops Q S late fuel listed a w [] := fun _ h => by cases h
/-- an operation behind which S is shown anew -/
theorem AllReadyM.cons {fuel : Nat} {listed : Array Bool} {a : Act} {w : World} {i : Nat} {o : Oper} {rs : List Nat} (ho : ops[i]? = some o)
    (h : ∀ K' : Act → World → Prop, Shut (∀ a w, S w → (S w → wpAnyM P md ops Q S late fuel (listed.setIfInBounds i true) a w) → K' a w) → if Region.wanted o (yielded ops a.tmps) = true then Oper.wp P o a w K' Q else K' (a.put o.dst undef) w)
    (hs : AllReadyM P md ops Q S late fuel listed a w rs) : AllReadyM P md ops Q S late fuel listed a w (i :: rs) := fun j hj => by
  rcases List.mem_cons.1 hj with rfl | hj
  · exact wpOp_step ho (fun K' hK => h K' (fun a w hS hW => hK a w ⟨fun _ => hS, hW hS⟩))
  · exact hs j hj
/-- an operation behind which a late one has come up -/
theorem AllReadyM.behind {fuel : Nat} {listed : Array Bool} {a : Act} {w : World} {i : Nat} {o : Oper} {rs : List Nat} (ho : ops[i]? = some o)
    (hl : late.any (fun k => (listed.setIfInBounds i true).getD k false) = true)
    (h : ∀ K' : Act → World → Prop, Shut (∀ a w, wpAnyM P md ops Q S late fuel (listed.setIfInBounds i true) a w → K' a w) → if Region.wanted o (yielded ops a.tmps) = true then Oper.wp P o a w K' Q else K' (a.put o.dst undef) w)
    (hs : AllReadyM P md ops Q S late fuel listed a w rs) : AllReadyM P md ops Q S late fuel listed a w (i :: rs) := fun j hj => by
  rcases List.mem_cons.1 hj with rfl | hj
  · refine wpOp_step ho (fun K' hK => h K' (fun a w hW => hK a w ⟨fun hc => ?_, hW⟩))
    obtain ⟨k, hk, hk2⟩ := List.any_eq_true.1 hl
    rw [hc k hk] at hk2
    cases hk2
  · exact hs j hj
theorem wpAnyM_ready {rs : List Nat} {fuel : Nat} {listed : Array Bool} {a : Act} {w : World} (hr : Region.ready md ops listed = rs) (hne : rs ≠ [])
    (h : AllReadyM P md ops Q S late fuel listed a w rs) : wpAnyM P md ops Q S late (fuel + 1) listed a w := ⟨fun h0 => absurd (hr ▸ h0) hne, hr ▸ h⟩
theorem wpAnyM_done {listed : Array Bool} {a : Act} {w : World} (hr : Region.ready md ops listed = []) (h : Q .normal a w) :
    ∀ fuel, wpAnyM P md ops Q S late fuel listed a w
  | 0 => ⟨hr, h⟩
  | _ + 1 => ⟨fun _ => h, by rw [hr]; simp⟩
/-- the beginning -/
theorem wp_region_late (S : World → Prop) (late : List Nat) {id : Nat} {a : Act} {w : World} (hm : P.follows .mixedOrders = true) (hS : S w.drew)
    (h : S w.drew → wpAnyM P .any ops Q S late ops.size (Array.replicate ops.size false) a w.drew) : (Code.region id ops true).wp P Q a w :=
  wp_region_any hm (wpAny_of_late _ _ _ _ (h hS))
end
end Go.Proofs.Ytempfaefopfobaa
end

/- KeyBy: fieldpath.KeyByFields, impl.KeyByFields: the key of names and values. -/
section
set_option maxRecDepth 100000
namespace Go.Proofs.Ytempfaefopfobaa
open Go.ChangeShapes Go.WideShapes Go.ChangeAt Go.RowKit
set_option linter.unusedVariables false
set_option linter.unusedSimpArgs false

/-- cells that hold names and plain values in turn -/
def RowAny (S : Nat → Prop) (w : World) (xs : List Value) (fs : List (ByteArray × Tree)) : Prop :=
  xs.length = fs.length * 2 ∧ ∀ (i : Nat) (p : ByteArray × Tree), fs[i]? = some p → p.1.size ≤ 140737488351232 ∧ xs[i * 2]? = some (.iface 9 (.string p.1)) ∧ ∃ x, xs[i * 2 + 1]? = some x ∧ RepT S w p.2 x
theorem RowAny.nil (S : Nat → Prop) (w : World) : RowAny S w [] [] := ⟨rfl, fun i g h => by simp at h⟩
theorem RowAny.mono {S S' : Nat → Prop} {w w' : World} {xs : List Value} {fs : List (ByteArray × Tree)} (h : RowAny S w xs fs) (hs : Same S w w') (hS : ∀ b, S b → b < w.heap.size → S' b) : RowAny S' w' xs fs :=
  ⟨h.1, fun i p hp => by obtain ⟨h1, h2, x, h3, h4⟩ := h.2 i p hp; exact ⟨h1, h2, x, h3, h4.mono hs hS⟩⟩
theorem RowAny.snoc {S : Nat → Prop} {w : World} {xs : List Value} {fs : List (ByteArray × Tree)} (h : RowAny S w xs fs) {k : ByteArray} {t : Tree} {x : Value} (hk : k.size ≤ 140737488351232) (hx : RepT S w t x) : RowAny S w (xs ++ [.iface 9 (.string k), x]) (fs ++ [(k, t)]) := by
  refine ⟨by simp [h.1]; omega, fun i p hp => ?_⟩
  by_cases hi : i < fs.length
  · rw [List.getElem?_append_left hi] at hp
    obtain ⟨h1, h2, y, h3, h4⟩ := h.2 i p hp
    exact ⟨h1, by rw [List.getElem?_append_left (by rw [h.1]; omega)]; exact h2, y, by rw [List.getElem?_append_left (by rw [h.1]; omega)]; exact h3, h4⟩
  · have hi' : i = fs.length := by have := (List.getElem?_eq_some_iff.1 hp).1; simp at this; omega
    subst hi'
    simp at hp
    subst hp
    refine ⟨hk, ?_, x, ?_, hx⟩
    · rw [List.getElem?_append_right (by rw [h.1]; omega), h.1, Nat.sub_self]; rfl
    · rw [List.getElem?_append_right (by rw [h.1]; omega), h.1, show fs.length * 2 + 1 - fs.length * 2 = 1 by omega]; rfl
theorem ownsRow_setCell_ne {w : World} {base : Nat} {e : TypeId} {size : Nat} {v : Value} {n : Nat} {xs : List Value} (h : w.ownsRow base e size v n xs) {a : Addr} (hne : some a.block ≠ v.ownBlock) (u : Value) : (w.setCell a u).ownsRow base e size v n xs := by
  refine ⟨h.1, ?_⟩
  rcases h.2 with h' | ⟨g, cap, cur, rfl, hb, hh, hr⟩
  · exact .inl h'
  · exact .inr ⟨g, cap, cur, rfl, hb, by rw [Below.heap_setCell _ _ _ _ (fun e => hne (by simp [Value.ownBlock, e]))]; exact hh, hr⟩
@[go_sem] theorem tas_str (v : Value) (w : World) : (Instr.typeAssert (.iface 9 v) 20 9 false).run Try.prog w = .ok v w := by kernel_rfl
theorem form7' {S : Nat → Prop} {w : World} {e : GE} {cs : List Value} (h : RepGE S w e cs) : ∃ r0 r1 r2 e2 r3 r4 e4 r5 u1 u2 u3 u4 u5 u6 u7 u8 u9 u10 r6, cs = [.int .i64 r0, .string r1, .slice r2 e2 r3, .slice r4 e4 r5, .int .i64 u1, .int .i64 u2, .float .f64 u3, .string u4, .slice u5 u6 u7, .slice u8 u9 u10, .int .i64 r6] := by
  obtain ⟨ka, kc, la, lc, v0, v1, v2, v3, v4, v5, h, -, -, -, -, -, hv⟩ := h
  obtain ⟨u1, u2, u3, u4, u5, u6, u7, u8, u9, u10, h2⟩ := hv.form
  simp only [List.cons.injEq, and_true] at h2
  obtain ⟨rfl, rfl, rfl, rfl, rfl, rfl⟩ := h2
  exact ⟨_, _, _, _, _, _, _, _, _, _, _, _, _, _, _, _, _, _, _, h⟩
set_option maxHeartbeats 2000000 in
theorem pkgKeyBy (fs : List (ByteArray × Tree)) (v : Value) (n base : Nat) (xs : List Value) (w : World) (hown : w.ownsRow base 20 1 v n xs) (hrow : RowAny (fun b => b < w.heap.size) w xs fs) (hsz : fs.length * 88 ≤ 140737488351232) :
    Calls Try.prog 53 #[v] w fun en w' => ∃ b, en = .returned (.pointer (some ⟨b, 0, none⟩)) ∧ (∃ v', w'.cell? ⟨b, 0, none⟩ = some v' ∧ RepFs Any w' v' (sortP fs)) ∧ Ext w w' := by
  obtain ⟨i0, hi, hz0, hz1, hz2⟩ := info_parts info_field
  obtain ⟨va, vc, rfl⟩ := own_form hown
  have hn : n = fs.length * 2 := by have := hown.1; have := hrow.1; omega
  have HO0 := hid hown
  have HR := hid hrow
  have HL := hid (show n = fs.length * 2 from hn)
  have hm : (n : Int).tmod 2 = 0 := by rw [hn, Int.natCast_mul]; exact Int.mul_tmod_left _ _
  have hmw : IntKind.i64.wrap ((n : Int) - 1) = (n : Int) - 1 := by simp [IntKind.wrap, IntKind.signed, IntKind.bits]; omega
  clear hown hrow hn
  go_enter Try.func53, Try.ntmps53
  have HE0 := hid (((Ext.refl w).alloc (.cells #[] 162)).alloc (.cells #[.slice (some ⟨w.heap.size, 0, none⟩) 0 0] 116))
  have HV0 := hid (second_heap w (.cells #[] 162) (.cells #[.slice (some ⟨w.heap.size, 0, none⟩) 0 0] 116))
  have HW0 := hid ((World.ownsRow_lit (base := w.heap.size) (e := 162) (size := 2) w #[] 0 (by simp) (by decide) (by simp)).alloc (.cells #[.slice (some ⟨w.heap.size, 0, none⟩) 0 0] 116))
  go_wp2_with fail
  go_loopw [4] (fun i wr => ∃ (k : Nat) (v : Value) (ys : List Value), i = .int .i64 (k * 2) ∧ k ≤ fs.length ∧ Hid (wr.heap[w.heap.size + 1]? = some (.cells #[v] 116)) ∧ Hid (wr.ownsRow w.heap.size 162 2 v k ys) ∧ Hid (RowFs (fun b => b ≠ w.heap.size + 1 ∧ some b ≠ v.ownBlock) wr ys (fs.take k)) ∧ Hid (Ext w wr) ∧ Hid (w.heap.size + 2 ≤ wr.heap.size)) (fun i _ => fs.length * 2 - (intOf i).toNat)
  case atStart => exact ⟨0, _, [], rfl, Nat.zero_le _, HV0, hid (by have := HW0.out; simpa using this), hid (RowFs.nil _ _), HE0, hid (by simp)⟩
  case round =>
    obtain ⟨k, v, ys, rfl, hk, HV, HO, HF, HE, HS⟩ := hrel
    obtain ⟨yva, yvc, rfl⟩ := own_form HO.out
    by_cases h1 : k < fs.length
    · obtain ⟨p, hp⟩ : ∃ p, fs[k]? = some p := ⟨_, List.getElem?_eq_getElem h1⟩
      obtain ⟨hps, hx1, x, hx2, hT⟩ := HR.out.2 k p hp
      have hn := HL.out
      obtain ⟨ga, gc, hkv, -, -⟩ := HO0.out.form (by omega)
      simp only [Value.slice.injEq, true_and] at hkv
      obtain ⟨rfl, rfl⟩ := hkv
      have c0 : w.cell? ⟨ga, k * 2, none⟩ = _ := (HO0.out.cellAt (k * 2) (by omega)).trans hx1
      have c1 := HE.out.cellS c0
      have c2 := HE.out.cellS ((HO0.out.cellAt (k * 2 + 1) (by omega)).trans hx2)
      have HT := hid (hT.ext HE.out)
      have HPS := hid hps
      have HTK := hid (show fs.take (k + 1) = fs.take k ++ [p] from take_snoc' hp)
      have hform := hT.form
      have t0 : IntKind.i64.wrap ((k : Int) * 2 + 1) = (k : Int) * 2 + 1 := by simp [IntKind.wrap, IntKind.signed, IntKind.bits]; omega
      have t1 : ((k : Int) * 2).toNat = k * 2 := by omega
      have t2 : ((k : Int) * 2 + 1).toNat = k * 2 + 1 := by omega
      have t3 : (0 : Int) ≤ (k : Int) * 2 := by omega
      have t4 : (0 : Int) ≤ (k : Int) * 2 + 1 := by omega
      have t5 : (k : Int) * 2 < (n : Int) := by omega
      have t6 : (k : Int) * 2 + 1 < (n : Int) := by omega
      have t7 : (k : Int) * 2 < (n : Int) - 1 := by omega
      have z0 := (cell_of_heap HV.out 0).trans rfl
      have y0 := free_of_heap HV.out 0
      have d0 : w.heap.size + 1 < wr.heap.size := by have := HS.out; omega
      have HNB := hid (show some (w.heap.size + 1) ≠ (Value.slice yva k yvc).ownBlock from fun e => by
        obtain ⟨cur, hc⟩ := own_cells HO.out _ e.symm
        rw [HV.out] at hc
        simp at hc)
      clear hp hx1 hx2 hT hps hn
      go_upto_region 7 with fail
      have hga : ga < w.heap.size := World.block_lt_of_cell? w ⟨ga, k * 2, none⟩ (c0)
      have C1 := hid c1
      have C2 := hid c2
      rcases hform with rfl | ⟨ty, vv, rfl⟩
      ·
        refine wp_region_late (fun w' : World => w'.cell? ⟨w.heap.size + 1, 0, none⟩ = some (.slice yva k yvc) ∧ w'.cell? ⟨ga, k * 2, none⟩ = some (.iface 9 (.string p.1)) ∧ w'.cell? ⟨ga, k * 2 + 1, none⟩ = some (.nilIface)) [15] (by kernel_rfl) ?hS1 (fun hHeld => ?_)
        case hS1 => (exact ⟨z0, c1, c2⟩)
        refine wpAnyM_take (i := 0) (oi := { dst := some 18, op := Go.Op.load 116 (Go.Operand.tmp 3), type := 116, pos := "element.go:188", after := #[], guard := none }) (v := ?v2) rfl (by kernel_rfl) (fun _ _ _ h => h) (Or.inl ⟨by rfl, ?hy2⟩) (by assumption) ?rest2
        case hy2 => (intro wz hSw; (try dsimp only at hSw); go_simp; try with_reducible rfl)
        (try simp only [Act.put, List.setIfInBounds_toArray, List.set_cons_zero, List.set_cons_succ])
        refine wpAnyM_take (i := 1) (oi := { dst := some 19, op := Go.Op.move (Go.Operand.tmp 0), type := 82, pos := "element.go:188", after := #[], guard := none }) (v := ?v3) rfl (by kernel_rfl) (fun _ _ _ h => h) (Or.inl ⟨by rfl, ?hy3⟩) (by assumption) ?rest3
        case hy3 => (intro wz hSw; (try dsimp only at hSw); go_simp; try with_reducible rfl)
        (try simp only [Act.put, List.setIfInBounds_toArray, List.set_cons_zero, List.set_cons_succ])
        refine wpAnyM_take (i := 2) (oi := { dst := some 20, op := Go.Op.move (Go.Operand.tmp 4), type := 3, pos := "element.go:188", after := #[], guard := none }) (v := ?v4) rfl (by kernel_rfl) (fun _ _ _ h => h) (Or.inl ⟨by rfl, ?hy4⟩) (by assumption) ?rest4
        case hy4 => (intro wz hSw; (try dsimp only at hSw); go_simp; try with_reducible rfl)
        (try simp only [Act.put, List.setIfInBounds_toArray, List.set_cons_zero, List.set_cons_succ])
        refine wpAnyM_take (i := 3) (oi := { dst := some 21, op := Go.Op.indexAddr 82 (Go.Operand.tmp 19) (Go.Operand.tmp 20), type := 0, pos := "element.go:188", after := #[{ on := 1, ground := Go.Ground.data }, { on := 2, ground := Go.Ground.data }], guard := none }) (v := ?v5) rfl (by kernel_rfl) (fun _ _ _ h => h) (Or.inl ⟨by rfl, ?hy5⟩) (by assumption) ?rest5
        case hy5 => (intro wz hSw; (try dsimp only at hSw); go_simp; try with_reducible rfl)
        (try simp only [Act.put, List.setIfInBounds_toArray, List.set_cons_zero, List.set_cons_succ])
        refine wpAnyM_take (i := 4) (oi := { dst := some 22, op := Go.Op.load 20 (Go.Operand.tmp 21), type := 20, pos := "element.go:188", after := #[{ on := 3, ground := Go.Ground.data }], guard := none }) (v := ?v6) rfl (by kernel_rfl) (fun _ _ _ h => h) (Or.inl ⟨by rfl, ?hy6⟩) (by assumption) ?rest6
        case hy6 => (intro wz hSw; (try dsimp only at hSw); go_simp; try with_reducible rfl)
        (try simp only [Act.put, List.setIfInBounds_toArray, List.set_cons_zero, List.set_cons_succ])
        refine wpAnyM_take (i := 5) (oi := { dst := some 23, op := Go.Op.typeAssert (Go.Operand.tmp 22) 20 9 false, type := 9, pos := "element.go:188", after := #[{ on := 4, ground := Go.Ground.data }], guard := none }) (v := ?v7) rfl (by kernel_rfl) (fun _ _ _ h => h) (Or.inl ⟨by rfl, ?hy7⟩) (by assumption) ?rest7
        case hy7 => (intro wz hSw; (try dsimp only at hSw); go_simp; try with_reducible rfl)
        (try simp only [Act.put, List.setIfInBounds_toArray, List.set_cons_zero, List.set_cons_succ])
        refine wpAnyM_take (i := 6) (oi := { dst := some 24, op := Go.Op.move (Go.Operand.tmp 0), type := 82, pos := "element.go:188", after := #[], guard := none }) (v := ?v8) rfl (by kernel_rfl) (fun _ _ _ h => h) (Or.inl ⟨by rfl, ?hy8⟩) (by assumption) ?rest8
        case hy8 => (intro wz hSw; (try dsimp only at hSw); go_simp; try with_reducible rfl)
        (try simp only [Act.put, List.setIfInBounds_toArray, List.set_cons_zero, List.set_cons_succ])
        refine wpAnyM_take (i := 7) (oi := { dst := some 25, op := Go.Op.move (Go.Operand.tmp 4), type := 3, pos := "element.go:188", after := #[], guard := none }) (v := ?v9) rfl (by kernel_rfl) (fun _ _ _ h => h) (Or.inl ⟨by rfl, ?hy9⟩) (by assumption) ?rest9
        case hy9 => (intro wz hSw; (try dsimp only at hSw); go_simp; try with_reducible rfl)
        (try simp only [Act.put, List.setIfInBounds_toArray, List.set_cons_zero, List.set_cons_succ])
        refine wpAnyM_take (i := 8) (oi := { dst := some 26, op := Go.Op.binOp Go.BinOp.add 3 (Go.Operand.tmp 25) (Go.Operand.const (Go.Value.int Go.IntKind.i64 1)) 3, type := 3, pos := "element.go:188", after := #[{ on := 7, ground := Go.Ground.data }], guard := none }) (v := ?v10) rfl (by kernel_rfl) (fun _ _ _ h => h) (Or.inl ⟨by rfl, ?hy10⟩) (by assumption) ?rest10
        case hy10 => (intro wz hSw; (try dsimp only at hSw); go_simp; try with_reducible rfl)
        (try simp only [Act.put, List.setIfInBounds_toArray, List.set_cons_zero, List.set_cons_succ])
        refine wpAnyM_take (i := 9) (oi := { dst := some 27, op := Go.Op.indexAddr 82 (Go.Operand.tmp 24) (Go.Operand.tmp 26), type := 0, pos := "element.go:188", after := #[{ on := 6, ground := Go.Ground.data }, { on := 8, ground := Go.Ground.data }], guard := none }) (v := ?v11) rfl (by kernel_rfl) (fun _ _ _ h => h) (Or.inl ⟨by rfl, ?hy11⟩) (by assumption) ?rest11
        case hy11 => (intro wz hSw; (try dsimp only at hSw); go_simp; try with_reducible rfl)
        (try simp only [Act.put, List.setIfInBounds_toArray, List.set_cons_zero, List.set_cons_succ])
        refine wpAnyM_take (i := 10) (oi := { dst := some 28, op := Go.Op.load 20 (Go.Operand.tmp 27), type := 20, pos := "element.go:188", after := #[{ on := 9, ground := Go.Ground.data }], guard := none }) (v := ?v12) rfl (by kernel_rfl) (fun _ _ _ h => h) (Or.inl ⟨by rfl, ?hy12⟩) (by assumption) ?rest12
        case hy12 => (intro wz hSw; (try dsimp only at hSw); go_simp; try with_reducible rfl)
        (try simp only [Act.put, List.setIfInBounds_toArray, List.set_cons_zero, List.set_cons_succ])
        refine wpAnyM_ready (rs := [11]) (by kernel_rfl) (by simp) ?_
        refine AllReadyM.cons (o := { dst := some 29, op := Go.Op.call { callee := Go.Callee.value (Go.Operand.func 94), args := #[Go.Operand.tmp 28], argTypes := #[20] }, type := 107, pos := "element.go:188", after := #[{ on := 10, ground := Go.Ground.data }], guard := none }) rfl (fun K hK => ?_) AllReadyM.nil
        refine step_call _ rfl 94 [.tmp 28] #[20] rfl (by kernel_rfl) [_] rfl (nvi_any _ p.2 _ _ (HT.out.ext (Ext.refl wr).drew)) ?_
        rintro en w5 ⟨x5, rfl, hx5, hE5⟩
        obtain ⟨bx, rfl⟩ := repVal_form hx5
        refine ⟨_, rfl, ?_⟩
        have HX5 := hid hx5
        have HE5 := hid ((Ext.refl wr).drew.trans hE5)
        clear hx5 hE5
        refine hK.out _ _ ?hS13 (fun hHeld => ?_)
        case hS13 => (exact ⟨HE5.out.cellS z0, HE5.out.cellS C1.out, HE5.out.cellS C2.out⟩)
        clear hK K
        (try simp only [Act.put, List.setIfInBounds_toArray, List.set_cons_zero, List.set_cons_succ])
        refine wpAnyM_ready (rs := [12]) (by kernel_rfl) (by simp) ?_
        refine AllReadyM.cons (o := { dst := some 30, op := Go.Op.build 162 #[(0, Go.Operand.tmp 23), (1, Go.Operand.tmp 29)], type := 162, pos := "element.go:188", after := #[{ on := 5, ground := Go.Ground.data }, { on := 11, ground := Go.Ground.data }], guard := none }) rfl (fun K hK => ?_) AllReadyM.nil
        go_simp
        refine hK.out _ _ ?hS14 (fun hHeld => ?_)
        case hS14 => (exact ⟨HE5.out.cellS z0, HE5.out.cellS C1.out, HE5.out.cellS C2.out⟩)
        clear hK K
        (try simp only [Act.put, List.setIfInBounds_toArray, List.set_cons_zero, List.set_cons_succ])
        refine wpAnyM_ready (rs := [13]) (by kernel_rfl) (by simp) ?_
        refine AllReadyM.cons (o := { dst := some 31, op := Go.Op.buildSlice 116 1 #[(0, Go.Operand.tmp 30)], type := 116, pos := "element.go:188", after := #[{ on := 12, ground := Go.Ground.data }], guard := none }) rfl (fun K hK => ?_) AllReadyM.nil
        go_simp
        refine hK.out _ _ ?hS15 (fun hHeld => ?_)
        case hS15 => (exact ⟨(HE5.out.alloc _).cellS z0, (HE5.out.alloc _).cellS C1.out, (HE5.out.alloc _).cellS C2.out⟩)
        clear hK K
        (try simp only [Act.put, List.setIfInBounds_toArray, List.set_cons_zero, List.set_cons_succ])
        refine wpAnyM_ready (rs := [14]) (by kernel_rfl) (by simp) ?_
        refine AllReadyM.cons (o := { dst := some 32, op := Go.Op.call { callee := Go.Callee.builtin Go.Builtin.append, args := #[Go.Operand.tmp 18, Go.Operand.tmp 31], argTypes := #[116, 116] }, type := 116, pos := "element.go:188", after := #[{ on := 0, ground := Go.Ground.data }, { on := 13, ground := Go.Ground.data }, { on := 11, ground := Go.Ground.chain }], guard := none }) rfl (fun K hK => ?_) AllReadyM.nil
        refine step_append_lies _ rfl (.tmp 18) (.tmp 31) 116 rfl w.heap.size 162 i0 _ 2 32 Try.underlying116 hi hz0 hz1 hz2 rfl (by decide) _ k ys rfl ((ownsRow_ext HO.out HE5.out).alloc _) ⟨w5.heap.size, 0, none⟩ 1 1 [.string p.1, .iface 203 (.pointer (some ⟨bx, 0, none⟩))] rfl rfl (cells_new w5 [.string p.1, .iface 203 (.pointer (some ⟨bx, 0, none⟩))] _) (by simp [Value.oneCell']) (by decide) (by unfold maxLen; omega) (by omega) (by have := HS.out; have := HE5.out.size; simp; omega) (w5.heap.size + 1) (by simp) ?_
        intro g6 cap6 w6 hown6 hg6 hat6 hlt6
        have ST := hid (row_step (by have := HS.out; omega) HO.out HE5.out hown6 hg6 hat6)
        have HV6 := hid ((hg6.block (w.heap.size + 1) (by have := HS.out; have := HE5.out.size; simp; omega) HNB.out).trans (((Ext.refl w5).alloc _).block (HE5.out.block HV.out)))
        have HO6 := hid hown6
        clear hown6 hg6 hat6 hlt6
        have z6 := (cell_of_heap HV6.out 0).trans rfl
        have y6 := free_of_heap HV6.out 0
        refine hK.out _ _ ?hS16 (fun hHeld => ?_)
        case hS16 => (exact ⟨z6, below_cell ST.out.2.2.2.2.1 hga C1.out, below_cell ST.out.2.2.2.2.1 hga C2.out⟩)
        clear hK K
        (try simp only [Act.put, List.setIfInBounds_toArray, List.set_cons_zero, List.set_cons_succ])
        refine wpAnyM_ready (rs := [15]) (by kernel_rfl) (by simp) ?_
        refine AllReadyM.behind (o := { dst := none, op := Go.Op.store 116 (Go.Operand.tmp 3) (Go.Operand.tmp 32), type := 0, pos := "element.go:188", after := #[{ on := 14, ground := Go.Ground.data }, { on := 14, ground := Go.Ground.chain }, { on := 0, ground := Go.Ground.phase }, { on := 1, ground := Go.Ground.phase }, { on := 2, ground := Go.Ground.phase }, { on := 3, ground := Go.Ground.phase }, { on := 4, ground := Go.Ground.phase }, { on := 5, ground := Go.Ground.phase }, { on := 6, ground := Go.Ground.phase }, { on := 7, ground := Go.Ground.phase }, { on := 8, ground := Go.Ground.phase }, { on := 9, ground := Go.Ground.phase }, { on := 10, ground := Go.Ground.phase }, { on := 11, ground := Go.Ground.phase }, { on := 12, ground := Go.Ground.phase }, { on := 13, ground := Go.Ground.phase }, { on := 14, ground := Go.Ground.phase }], guard := none }) rfl (by kernel_rfl) (fun K hK => ?_) AllReadyM.nil
        go_simp
        refine hK.out _ _ ?_
        clear hK K
        (try simp only [Act.put, List.setIfInBounds_toArray, List.set_cons_zero, List.set_cons_succ])
        refine wpAnyM_done (by kernel_rfl) ?_ _
        go_wp2_with fail
        have hvar : some (w.heap.size + 1) ≠ (Value.slice (some ⟨g6, 0, none⟩) (k + 1) cap6).ownBlock := fun e => by
          obtain ⟨cur, hc⟩ := own_cells HO6.out _ e.symm
          rw [HV6.out] at hc
          simp at hc
        have HB6 := hid ST.out.2.2.2.2.1
        refine ⟨⟨k + 1, _, _, by go_num, by omega, hid ((setCell_heap HV6.out 0 _).trans rfl), hid (ownsRow_setCell_ne HO6.out hvar _), hid ?_, hid (Below.setCell (Below.trans (B := w.heap.size) HE.out HB6.out) (Nat.le_succ _) _), hid (by have := HS.out; have := ST.out.2.2.2.2.2.1; simp; omega)⟩, by simp [intOf]; omega⟩
        rw [HTK.out]
        refine (HF.out.mono (S' := fun b => b ≠ w.heap.size + 1 ∧ some b ≠ (Value.slice (some ⟨g6, 0, none⟩) (k + 1) cap6).ownBlock) (fun b ob hb hob => ?_) (fun b hb hlt => ⟨hb.1, fun e => ST.out.2.1 b hlt hb.2 (Option.some.inj e)⟩)).snoc HPS.out (HX5.out.mono (fun b ob hb hob => ?_) (fun b hb hlt => ?_))
        · rw [Below.heap_setCell _ _ _ _ (show b ≠ w.heap.size + 1 from hb.1)]
          rcases Nat.lt_or_ge b w.heap.size with h | h
          · exact (Below.block HB6.out b h).trans hob
          · exact ST.out.1 b ob ⟨h, hb.2⟩ hob
        · rcases hb with h | h
          · rw [Below.heap_setCell _ _ _ _ (show b ≠ w.heap.size + 1 by omega)]
            exact (Below.block HB6.out b h).trans ((Below.block HE5.out b (by omega)).symm.trans hob)
          · have h' : wr.heap.size ≤ b := h
            rw [Below.heap_setCell _ _ _ _ (show b ≠ w.heap.size + 1 by omega)]
            exact ST.out.2.2.1 b ob h' hob
        · rcases hb with h | h
          · exact ⟨by omega, fun e => by have h1 : g6 = b := (Option.some.inj e).symm; have := ST.out.2.2.2.2.2.2; omega⟩
          · have h' : wr.heap.size ≤ b := h
            exact ⟨by omega, fun e => ST.out.2.2.2.1 b h' hlt (Option.some.inj e)⟩
      ·
        refine wp_region_late (fun w' : World => w'.cell? ⟨w.heap.size + 1, 0, none⟩ = some (.slice yva k yvc) ∧ w'.cell? ⟨ga, k * 2, none⟩ = some (.iface 9 (.string p.1)) ∧ w'.cell? ⟨ga, k * 2 + 1, none⟩ = some (.iface ty vv)) [15] (by kernel_rfl) ?hS17 (fun hHeld => ?_)
        case hS17 => (exact ⟨z0, c1, c2⟩)
        refine wpAnyM_take (i := 0) (oi := { dst := some 18, op := Go.Op.load 116 (Go.Operand.tmp 3), type := 116, pos := "element.go:188", after := #[], guard := none }) (v := ?v18) rfl (by kernel_rfl) (fun _ _ _ h => h) (Or.inl ⟨by rfl, ?hy18⟩) (by assumption) ?rest18
        case hy18 => (intro wz hSw; (try dsimp only at hSw); go_simp; try with_reducible rfl)
        (try simp only [Act.put, List.setIfInBounds_toArray, List.set_cons_zero, List.set_cons_succ])
        refine wpAnyM_take (i := 1) (oi := { dst := some 19, op := Go.Op.move (Go.Operand.tmp 0), type := 82, pos := "element.go:188", after := #[], guard := none }) (v := ?v19) rfl (by kernel_rfl) (fun _ _ _ h => h) (Or.inl ⟨by rfl, ?hy19⟩) (by assumption) ?rest19
        case hy19 => (intro wz hSw; (try dsimp only at hSw); go_simp; try with_reducible rfl)
        (try simp only [Act.put, List.setIfInBounds_toArray, List.set_cons_zero, List.set_cons_succ])
        refine wpAnyM_take (i := 2) (oi := { dst := some 20, op := Go.Op.move (Go.Operand.tmp 4), type := 3, pos := "element.go:188", after := #[], guard := none }) (v := ?v20) rfl (by kernel_rfl) (fun _ _ _ h => h) (Or.inl ⟨by rfl, ?hy20⟩) (by assumption) ?rest20
        case hy20 => (intro wz hSw; (try dsimp only at hSw); go_simp; try with_reducible rfl)
        (try simp only [Act.put, List.setIfInBounds_toArray, List.set_cons_zero, List.set_cons_succ])
        refine wpAnyM_take (i := 3) (oi := { dst := some 21, op := Go.Op.indexAddr 82 (Go.Operand.tmp 19) (Go.Operand.tmp 20), type := 0, pos := "element.go:188", after := #[{ on := 1, ground := Go.Ground.data }, { on := 2, ground := Go.Ground.data }], guard := none }) (v := ?v21) rfl (by kernel_rfl) (fun _ _ _ h => h) (Or.inl ⟨by rfl, ?hy21⟩) (by assumption) ?rest21
        case hy21 => (intro wz hSw; (try dsimp only at hSw); go_simp; try with_reducible rfl)
        (try simp only [Act.put, List.setIfInBounds_toArray, List.set_cons_zero, List.set_cons_succ])
        refine wpAnyM_take (i := 4) (oi := { dst := some 22, op := Go.Op.load 20 (Go.Operand.tmp 21), type := 20, pos := "element.go:188", after := #[{ on := 3, ground := Go.Ground.data }], guard := none }) (v := ?v22) rfl (by kernel_rfl) (fun _ _ _ h => h) (Or.inl ⟨by rfl, ?hy22⟩) (by assumption) ?rest22
        case hy22 => (intro wz hSw; (try dsimp only at hSw); go_simp; try with_reducible rfl)
        (try simp only [Act.put, List.setIfInBounds_toArray, List.set_cons_zero, List.set_cons_succ])
        refine wpAnyM_take (i := 5) (oi := { dst := some 23, op := Go.Op.typeAssert (Go.Operand.tmp 22) 20 9 false, type := 9, pos := "element.go:188", after := #[{ on := 4, ground := Go.Ground.data }], guard := none }) (v := ?v23) rfl (by kernel_rfl) (fun _ _ _ h => h) (Or.inl ⟨by rfl, ?hy23⟩) (by assumption) ?rest23
        case hy23 => (intro wz hSw; (try dsimp only at hSw); go_simp; try with_reducible rfl)
        (try simp only [Act.put, List.setIfInBounds_toArray, List.set_cons_zero, List.set_cons_succ])
        refine wpAnyM_take (i := 6) (oi := { dst := some 24, op := Go.Op.move (Go.Operand.tmp 0), type := 82, pos := "element.go:188", after := #[], guard := none }) (v := ?v24) rfl (by kernel_rfl) (fun _ _ _ h => h) (Or.inl ⟨by rfl, ?hy24⟩) (by assumption) ?rest24
        case hy24 => (intro wz hSw; (try dsimp only at hSw); go_simp; try with_reducible rfl)
        (try simp only [Act.put, List.setIfInBounds_toArray, List.set_cons_zero, List.set_cons_succ])
        refine wpAnyM_take (i := 7) (oi := { dst := some 25, op := Go.Op.move (Go.Operand.tmp 4), type := 3, pos := "element.go:188", after := #[], guard := none }) (v := ?v25) rfl (by kernel_rfl) (fun _ _ _ h => h) (Or.inl ⟨by rfl, ?hy25⟩) (by assumption) ?rest25
        case hy25 => (intro wz hSw; (try dsimp only at hSw); go_simp; try with_reducible rfl)
        (try simp only [Act.put, List.setIfInBounds_toArray, List.set_cons_zero, List.set_cons_succ])
        refine wpAnyM_take (i := 8) (oi := { dst := some 26, op := Go.Op.binOp Go.BinOp.add 3 (Go.Operand.tmp 25) (Go.Operand.const (Go.Value.int Go.IntKind.i64 1)) 3, type := 3, pos := "element.go:188", after := #[{ on := 7, ground := Go.Ground.data }], guard := none }) (v := ?v26) rfl (by kernel_rfl) (fun _ _ _ h => h) (Or.inl ⟨by rfl, ?hy26⟩) (by assumption) ?rest26
        case hy26 => (intro wz hSw; (try dsimp only at hSw); go_simp; try with_reducible rfl)
        (try simp only [Act.put, List.setIfInBounds_toArray, List.set_cons_zero, List.set_cons_succ])
        refine wpAnyM_take (i := 9) (oi := { dst := some 27, op := Go.Op.indexAddr 82 (Go.Operand.tmp 24) (Go.Operand.tmp 26), type := 0, pos := "element.go:188", after := #[{ on := 6, ground := Go.Ground.data }, { on := 8, ground := Go.Ground.data }], guard := none }) (v := ?v27) rfl (by kernel_rfl) (fun _ _ _ h => h) (Or.inl ⟨by rfl, ?hy27⟩) (by assumption) ?rest27
        case hy27 => (intro wz hSw; (try dsimp only at hSw); go_simp; try with_reducible rfl)
        (try simp only [Act.put, List.setIfInBounds_toArray, List.set_cons_zero, List.set_cons_succ])
        refine wpAnyM_take (i := 10) (oi := { dst := some 28, op := Go.Op.load 20 (Go.Operand.tmp 27), type := 20, pos := "element.go:188", after := #[{ on := 9, ground := Go.Ground.data }], guard := none }) (v := ?v28) rfl (by kernel_rfl) (fun _ _ _ h => h) (Or.inl ⟨by rfl, ?hy28⟩) (by assumption) ?rest28
        case hy28 => (intro wz hSw; (try dsimp only at hSw); go_simp; try with_reducible rfl)
        (try simp only [Act.put, List.setIfInBounds_toArray, List.set_cons_zero, List.set_cons_succ])
        refine wpAnyM_ready (rs := [11]) (by kernel_rfl) (by simp) ?_
        refine AllReadyM.cons (o := { dst := some 29, op := Go.Op.call { callee := Go.Callee.value (Go.Operand.func 94), args := #[Go.Operand.tmp 28], argTypes := #[20] }, type := 107, pos := "element.go:188", after := #[{ on := 10, ground := Go.Ground.data }], guard := none }) rfl (fun K hK => ?_) AllReadyM.nil
        refine step_call _ rfl 94 [.tmp 28] #[20] rfl (by kernel_rfl) [_] rfl (nvi_any _ p.2 _ _ (HT.out.ext (Ext.refl wr).drew)) ?_
        rintro en w5 ⟨x5, rfl, hx5, hE5⟩
        obtain ⟨bx, rfl⟩ := repVal_form hx5
        refine ⟨_, rfl, ?_⟩
        have HX5 := hid hx5
        have HE5 := hid ((Ext.refl wr).drew.trans hE5)
        clear hx5 hE5
        refine hK.out _ _ ?hS29 (fun hHeld => ?_)
        case hS29 => (exact ⟨HE5.out.cellS z0, HE5.out.cellS C1.out, HE5.out.cellS C2.out⟩)
        clear hK K
        (try simp only [Act.put, List.setIfInBounds_toArray, List.set_cons_zero, List.set_cons_succ])
        refine wpAnyM_ready (rs := [12]) (by kernel_rfl) (by simp) ?_
        refine AllReadyM.cons (o := { dst := some 30, op := Go.Op.build 162 #[(0, Go.Operand.tmp 23), (1, Go.Operand.tmp 29)], type := 162, pos := "element.go:188", after := #[{ on := 5, ground := Go.Ground.data }, { on := 11, ground := Go.Ground.data }], guard := none }) rfl (fun K hK => ?_) AllReadyM.nil
        go_simp
        refine hK.out _ _ ?hS30 (fun hHeld => ?_)
        case hS30 => (exact ⟨HE5.out.cellS z0, HE5.out.cellS C1.out, HE5.out.cellS C2.out⟩)
        clear hK K
        (try simp only [Act.put, List.setIfInBounds_toArray, List.set_cons_zero, List.set_cons_succ])
        refine wpAnyM_ready (rs := [13]) (by kernel_rfl) (by simp) ?_
        refine AllReadyM.cons (o := { dst := some 31, op := Go.Op.buildSlice 116 1 #[(0, Go.Operand.tmp 30)], type := 116, pos := "element.go:188", after := #[{ on := 12, ground := Go.Ground.data }], guard := none }) rfl (fun K hK => ?_) AllReadyM.nil
        go_simp
        refine hK.out _ _ ?hS31 (fun hHeld => ?_)
        case hS31 => (exact ⟨(HE5.out.alloc _).cellS z0, (HE5.out.alloc _).cellS C1.out, (HE5.out.alloc _).cellS C2.out⟩)
        clear hK K
        (try simp only [Act.put, List.setIfInBounds_toArray, List.set_cons_zero, List.set_cons_succ])
        refine wpAnyM_ready (rs := [14]) (by kernel_rfl) (by simp) ?_
        refine AllReadyM.cons (o := { dst := some 32, op := Go.Op.call { callee := Go.Callee.builtin Go.Builtin.append, args := #[Go.Operand.tmp 18, Go.Operand.tmp 31], argTypes := #[116, 116] }, type := 116, pos := "element.go:188", after := #[{ on := 0, ground := Go.Ground.data }, { on := 13, ground := Go.Ground.data }, { on := 11, ground := Go.Ground.chain }], guard := none }) rfl (fun K hK => ?_) AllReadyM.nil
        refine step_append_lies _ rfl (.tmp 18) (.tmp 31) 116 rfl w.heap.size 162 i0 _ 2 32 Try.underlying116 hi hz0 hz1 hz2 rfl (by decide) _ k ys rfl ((ownsRow_ext HO.out HE5.out).alloc _) ⟨w5.heap.size, 0, none⟩ 1 1 [.string p.1, .iface 203 (.pointer (some ⟨bx, 0, none⟩))] rfl rfl (cells_new w5 [.string p.1, .iface 203 (.pointer (some ⟨bx, 0, none⟩))] _) (by simp [Value.oneCell']) (by decide) (by unfold maxLen; omega) (by omega) (by have := HS.out; have := HE5.out.size; simp; omega) (w5.heap.size + 1) (by simp) ?_
        intro g6 cap6 w6 hown6 hg6 hat6 hlt6
        have ST := hid (row_step (by have := HS.out; omega) HO.out HE5.out hown6 hg6 hat6)
        have HV6 := hid ((hg6.block (w.heap.size + 1) (by have := HS.out; have := HE5.out.size; simp; omega) HNB.out).trans (((Ext.refl w5).alloc _).block (HE5.out.block HV.out)))
        have HO6 := hid hown6
        clear hown6 hg6 hat6 hlt6
        have z6 := (cell_of_heap HV6.out 0).trans rfl
        have y6 := free_of_heap HV6.out 0
        refine hK.out _ _ ?hS32 (fun hHeld => ?_)
        case hS32 => (exact ⟨z6, below_cell ST.out.2.2.2.2.1 hga C1.out, below_cell ST.out.2.2.2.2.1 hga C2.out⟩)
        clear hK K
        (try simp only [Act.put, List.setIfInBounds_toArray, List.set_cons_zero, List.set_cons_succ])
        refine wpAnyM_ready (rs := [15]) (by kernel_rfl) (by simp) ?_
        refine AllReadyM.behind (o := { dst := none, op := Go.Op.store 116 (Go.Operand.tmp 3) (Go.Operand.tmp 32), type := 0, pos := "element.go:188", after := #[{ on := 14, ground := Go.Ground.data }, { on := 14, ground := Go.Ground.chain }, { on := 0, ground := Go.Ground.phase }, { on := 1, ground := Go.Ground.phase }, { on := 2, ground := Go.Ground.phase }, { on := 3, ground := Go.Ground.phase }, { on := 4, ground := Go.Ground.phase }, { on := 5, ground := Go.Ground.phase }, { on := 6, ground := Go.Ground.phase }, { on := 7, ground := Go.Ground.phase }, { on := 8, ground := Go.Ground.phase }, { on := 9, ground := Go.Ground.phase }, { on := 10, ground := Go.Ground.phase }, { on := 11, ground := Go.Ground.phase }, { on := 12, ground := Go.Ground.phase }, { on := 13, ground := Go.Ground.phase }, { on := 14, ground := Go.Ground.phase }], guard := none }) rfl (by kernel_rfl) (fun K hK => ?_) AllReadyM.nil
        go_simp
        refine hK.out _ _ ?_
        clear hK K
        (try simp only [Act.put, List.setIfInBounds_toArray, List.set_cons_zero, List.set_cons_succ])
        refine wpAnyM_done (by kernel_rfl) ?_ _
        go_wp2_with fail
        have hvar : some (w.heap.size + 1) ≠ (Value.slice (some ⟨g6, 0, none⟩) (k + 1) cap6).ownBlock := fun e => by
          obtain ⟨cur, hc⟩ := own_cells HO6.out _ e.symm
          rw [HV6.out] at hc
          simp at hc
        have HB6 := hid ST.out.2.2.2.2.1
        refine ⟨⟨k + 1, _, _, by go_num, by omega, hid ((setCell_heap HV6.out 0 _).trans rfl), hid (ownsRow_setCell_ne HO6.out hvar _), hid ?_, hid (Below.setCell (Below.trans (B := w.heap.size) HE.out HB6.out) (Nat.le_succ _) _), hid (by have := HS.out; have := ST.out.2.2.2.2.2.1; simp; omega)⟩, by simp [intOf]; omega⟩
        rw [HTK.out]
        refine (HF.out.mono (S' := fun b => b ≠ w.heap.size + 1 ∧ some b ≠ (Value.slice (some ⟨g6, 0, none⟩) (k + 1) cap6).ownBlock) (fun b ob hb hob => ?_) (fun b hb hlt => ⟨hb.1, fun e => ST.out.2.1 b hlt hb.2 (Option.some.inj e)⟩)).snoc HPS.out (HX5.out.mono (fun b ob hb hob => ?_) (fun b hb hlt => ?_))
        · rw [Below.heap_setCell _ _ _ _ (show b ≠ w.heap.size + 1 from hb.1)]
          rcases Nat.lt_or_ge b w.heap.size with h | h
          · exact (Below.block HB6.out b h).trans hob
          · exact ST.out.1 b ob ⟨h, hb.2⟩ hob
        · rcases hb with h | h
          · rw [Below.heap_setCell _ _ _ _ (show b ≠ w.heap.size + 1 by omega)]
            exact (Below.block HB6.out b h).trans ((Below.block HE5.out b (by omega)).symm.trans hob)
          · have h' : wr.heap.size ≤ b := h
            rw [Below.heap_setCell _ _ _ _ (show b ≠ w.heap.size + 1 by omega)]
            exact ST.out.2.2.1 b ob h' hob
        · rcases hb with h | h
          · exact ⟨by omega, fun e => by have h1 : g6 = b := (Option.some.inj e).symm; have := ST.out.2.2.2.2.2.2; omega⟩
          · have h' : wr.heap.size ≤ b := h
            exact ⟨by omega, fun e => ST.out.2.2.2.1 b h' hlt (Option.some.inj e)⟩
    · have hkk : k = fs.length := by omega
      have hn := HL.out
      have t7 : ¬ ((k : Int) * 2 < (n : Int) - 1) := by omega
      have HF' := hid (show RowFs (fun b => b ≠ w.heap.size + 1 ∧ some b ≠ (Value.slice yva k yvc).ownBlock) wr ys fs by have := HF.out; rwa [List.take_of_length_le (by omega)] at this)
      have z0 := (cell_of_heap HV.out 0).trans rfl
      have HNB := hid (show some (w.heap.size + 1) ≠ (Value.slice yva k yvc).ownBlock from fun e => by
        obtain ⟨cur, hc⟩ := own_cells HO.out _ e.symm
        rw [HV.out] at hc
        simp at hc)
      have HK := hid hkk
      clear hn hkk
      go_wp2_with (go_at_call 72; refine (sortFs_any _ fs _ k w.heap.size _ _ HO.out HF'.out (fun b hb => hb.2) hsz).mono ?_; rintro en w8 ⟨rfl, ⟨xs8, h8, r8⟩, g8⟩; have H8 := hid (And.intro h8 (And.intro r8 g8)); clear h8 r8 g8)
      go_ret
      refine ⟨_, rfl, ⟨.slice yva k yvc, ?_, ?_⟩, ?_⟩
      · exact (cell_of_heap ((H8.out.2.2.block (w.heap.size + 1) (by have := HS.out; omega) HNB.out).trans HV.out) 0).trans rfl
      · have h := fs_of_row H8.out.1 (H8.out.2.1.mono (Same.refl _ _) (S' := Any) (fun _ _ _ => trivial)) (fun _ _ => trivial) (by rw [sortP_length]; exact hsz)
        exact h
      · have hge := own_ge HO.out
        refine Below.trans (B := w.heap.size) HE.out ⟨H8.out.2.2.os, H8.out.2.2.tape, H8.out.2.2.output, ?_, fun i hi => ?_⟩
        · have := H8.out.2.2.size; have := HS.out; omega
        · exact H8.out.2.2.block i (by have := HS.out; omega) (fun e => by have := hge i e.symm; omega)
set_option maxHeartbeats 4000000 in
theorem keyBy_any (e : GE) (cs : List Value) (w : World) (hR : RepGE Any w e cs) :
    Calls Try.prog 17 #[.agg cs.toArray] w fun en w' => ∃ cs', en = .returned (.agg cs'.toArray) ∧ RepGE (fun b => w.heap.size ≤ b) w' (fromEl (.key (sortP (keyT e)))) cs' ∧ Ext w w' := by
  obtain ⟨i0, hi, hz0, hz1, hz2⟩ := info_parts info_any
  obtain ⟨ka, kc, la, lc, v0, v1, v2, v3, v4, v5, rfl, -, -, -, hk, hl, -⟩ := hR
  obtain ⟨ka', kb, ko, kc', hke, hks, kat⟩ := hk.at'
  obtain ⟨la', lb, lo, lc', hle, hls, lat⟩ := hl.at'
  simp only [Value.slice.injEq, true_and] at hke hle
  obtain ⟨rfl, rfl⟩ := hke
  obtain ⟨rfl, rfl⟩ := hle
  have HK := hid kat
  have HL := hid lat
  clear hk hl kat lat
  go_enter Try.func17, Try.ntmps17
  have HX := hid (second_heap w (.cells #[.int .i64 e.kind, .string e.s, .slice ka e.keys.length kc, .slice la e.l.length lc, v0, v1, v2, v3, v4, v5, .int .i64 e.n] 34) (.cells #[.int .i64 0, .string ⟨#[]⟩, .slice none 0 0, .slice none 0 0, .int .i64 0, .int .i64 0, .float .f64 0, .string ⟨#[]⟩, .slice none 0 0, .slice none 0 0, .int .i64 0] 34))
  have HXB := hid (first_heap w (.cells #[.int .i64 e.kind, .string e.s, .slice ka e.keys.length kc, .slice la e.l.length lc, v0, v1, v2, v3, v4, v5, .int .i64 e.n] 34) (.cells #[.int .i64 0, .string ⟨#[]⟩, .slice none 0 0, .slice none 0 0, .int .i64 0, .int .i64 0, .float .f64 0, .string ⟨#[]⟩, .slice none 0 0, .slice none 0 0, .int .i64 0] 34))
  have HSZ := hid (show ((w.alloc (.cells #[.int .i64 e.kind, .string e.s, .slice ka e.keys.length kc, .slice la e.l.length lc, v0, v1, v2, v3, v4, v5, .int .i64 e.n] 34)).alloc (.cells #[.int .i64 0, .string ⟨#[]⟩, .slice none 0 0, .slice none 0 0, .int .i64 0, .int .i64 0, .float .f64 0, .string ⟨#[]⟩, .slice none 0 0, .slice none 0 0, .int .i64 0] 34)).heap.size = w.heap.size + 2 by simp)
  have HE1 := hid (show Ext w ((w.alloc (.cells #[.int .i64 e.kind, .string e.s, .slice ka e.keys.length kc, .slice la e.l.length lc, v0, v1, v2, v3, v4, v5, .int .i64 e.n] 34)).alloc (.cells #[.int .i64 0, .string ⟨#[]⟩, .slice none 0 0, .slice none 0 0, .int .i64 0, .int .i64 0, .float .f64 0, .string ⟨#[]⟩, .slice none 0 0, .slice none 0 0, .int .i64 0] 34)) from ((Ext.refl w).alloc _).alloc _)
  go_upto_region 1 with fail
  generalize ((w.alloc (.cells #[.int .i64 e.kind, .string e.s, .slice ka e.keys.length kc, .slice la e.l.length lc, v0, v1, v2, v3, v4, v5, .int .i64 e.n] 34)).alloc (.cells #[.int .i64 0, .string ⟨#[]⟩, .slice none 0 0, .slice none 0 0, .int .i64 0, .int .i64 0, .float .f64 0, .string ⟨#[]⟩, .slice none 0 0, .slice none 0 0, .int .i64 0] 34)) = w1 at *
  obtain ⟨⟨z0, z1, z2, z3, z4, z5, z6, z7, z8, z9, z10⟩, -⟩ := slot11 HXB.out
  go_wp2_with fail
  clear z0 z1 z2 z3 z4 z5 z6 z7 z8 z9 z10
  go_loopw [3, 9] (fun v i wr => ∃ (k n : Nat) (xs : List Value), i = .int .i64 k ∧ k ≤ e.keys.length ∧ Hid (n = ((keyT e).take k).length * 2) ∧ Hid (wr.ownsRow (w.heap.size + 2) 20 1 v n xs) ∧ Hid (RowAny (fun b => w.heap.size + 2 ≤ b ∧ some b ≠ v.ownBlock) wr xs ((keyT e).take k)) ∧ Hid (Below (w.heap.size + 2) w1 wr)) (fun _ i _ => e.keys.length - (intOf i).toNat)
  case atStart => exact ⟨0, 0, [], rfl, Nat.zero_le _, hid rfl, hid (World.ownsRow_nil _ _ _ _), hid (RowAny.nil _ _), hid (Below.refl _ _)⟩
  case round =>
    obtain ⟨k, n, xs, rfl, hk, HN, HO, HR, HB⟩ := hrel
    have HE := hid (show Ext w wr from HE1.out.trans (HB.out.mono (by have := HSZ.out; omega)))
    by_cases h1 : k < e.keys.length
    · obtain ⟨s, hs⟩ : ∃ s, e.keys[k]? = some s := ⟨_, List.getElem?_eq_getElem h1⟩
      obtain ⟨rfl, kc1, hsz⟩ := HK.out k s hs
      have j1 := HE.out.cellS kc1
      have HS0 := hid hs
      have HSS := hid hsz
      have hi0 : (0 : Int) ≤ (k : Int) := by omega
      have hi1 : (k : Int) < (e.keys.length : Int) := by omega
      obtain ⟨⟨z0, z1, z2, z3, z4, z5, z6, z7, z8, z9, z10⟩, -⟩ := slot11 ((Below.block HB.out w.heap.size (by omega)).trans HXB.out)
      clear hs kc1 hsz
      by_cases h2 : k < e.l.length
      · obtain ⟨g, hg⟩ : ∃ g, e.l[k]? = some g := ⟨_, List.getElem?_eq_getElem h2⟩
        obtain ⟨rfl, k1, n1, f1, s1, d1, e1, g1, d1', e1', g1', hc1, hR1⟩ := HL.out k g hg
        obtain ⟨q0, q1, q2, q3, q4, q5⟩ := cells6 (cellsAt_ext HE.out hc1)
        have HG := hid (hR1.ext HE.out)
        have hi2 : (k : Int) < (e.l.length : Int) := by omega
        have HTK := hid (show (keyT e).take (k + 1) = (keyT e).take k ++ [(s, plainT g)] from by
          have e1 : (keyT e)[k]? = some (s, plainT g) := by
            unfold keyT
            rw [List.getElem?_zip_eq_some]
            exact ⟨HS0.out, by rw [plainTs_eq, List.getElem?_map, hg]; rfl⟩
          obtain ⟨hlt, he⟩ := List.getElem?_eq_some_iff.1 e1
          rw [List.take_succ_eq_append_getElem hlt, he])
        have hnb : n ≤ k * 2 := by have := HN.out; rw [List.length_take] at this; omega
        clear hg hc1 hR1
        go_wp2_with (first
          | (go_at_call 51; refine ((plain_any g) _ _ HG.out).mono ?_; rintro en w2 ⟨x, rfl, hT, hE⟩; have HT := hid hT; have HE2 := hid hE; rcases hT.form with rfl | ⟨ty, vv, rfl⟩ <;> clear hE)
          | (at_builtin; (first | (refine wpList_append_lies _ rfl (.tmp 19) (.tmp 28) 82 rfl (w.heap.size + 2) 20 i0 _ 1 16 Try.underlying82 hi hz0 hz1 hz2 rfl (by decide) _ n xs rfl ((ownsRow_ext HO.out HE2.out).alloc _) ⟨w2.heap.size, 0, none⟩ 2 2 [.iface 9 (.string s), .nilIface] rfl rfl (cells_new w2 [.iface 9 (.string s), .nilIface] _) (by simp [Value.oneCell']) (by decide) (by unfold maxLen; omega) (by omega) (by have := HB.out.size; have := HSZ.out; have := HE2.out.size; simp; omega) (w2.heap.size + 1) (by simp) ?_) | (refine wpList_append_lies _ rfl (.tmp 19) (.tmp 28) 82 rfl (w.heap.size + 2) 20 i0 _ 1 16 Try.underlying82 hi hz0 hz1 hz2 rfl (by decide) _ n xs rfl ((ownsRow_ext HO.out HE2.out).alloc _) ⟨w2.heap.size, 0, none⟩ 2 2 [.iface 9 (.string s), .iface ty vv] rfl rfl (cells_new w2 [.iface 9 (.string s), .iface ty vv] _) (by simp [Value.oneCell']) (by decide) (by unfold maxLen; omega) (by omega) (by have := HB.out.size; have := HSZ.out; have := HE2.out.size; simp; omega) (w2.heap.size + 1) (by simp) ?_)); intro g3 cap3 w3 hown3 hg3 hat hlt3; have ST := hid (row_step (by have := HB.out.size; have := HSZ.out; omega) HO.out HE2.out hown3 hg3 hat); have HO3 := hid hown3; clear hown3 hg3 hat hlt3))
        all_goals
          exact ⟨⟨k + 1, n + 2, _, by go_num, by omega, hid (by rw [HTK.out, List.length_append, Nat.add_mul, ← HN.out]; rfl), HO3, hid (by
            rw [HTK.out]
            have k1 := HR.out.mono ST.out.1 (S' := fun b => w.heap.size + 2 ≤ b ∧ some b ≠ (Value.slice (some ⟨g3, 0, none⟩) (n + 2) cap3).ownBlock) (fun b hb hlt => ⟨hb.1, fun e => ST.out.2.1 b hlt hb.2 (Option.some.inj e)⟩)
            refine k1.snoc HSS.out (HT.out.mono ST.out.2.2.1 fun b hb hlt => ⟨by have := HB.out.size; have := HSZ.out; omega, fun e => ST.out.2.2.2.1 b hb hlt (Option.some.inj e)⟩)), hid (HB.out.trans ST.out.2.2.2.2.1)⟩, by simp [intOf]; omega⟩
      · have hd : ¬ ((k : Int) < (e.l.length : Int)) := by omega
        have HTK := hid (show (keyT e).take (k + 1) = (keyT e).take k from by
          have hl : (plainTs e.l).length ≤ k := by rw [plainTs_length]; omega
          unfold keyT
          rw [zip_take_end hl, zip_take_end (by omega)])
        go_wp2_with fail
        exact ⟨⟨k + 1, n, xs, by go_num, by omega, hid (by rw [HTK.out]; exact HN.out), HO, hid (by rw [HTK.out]; exact HR.out), HB⟩, by simp [intOf]; omega⟩
    · have HTK := hid (show (keyT e).take k = keyT e from List.take_of_length_le (by unfold keyT; rw [List.length_zip]; omega))
      have HLEN := hid (show (keyT e).length * 88 ≤ 140737488351232 by unfold keyT; rw [List.length_zip, plainTs_length]; omega)
      have HRR := hid (show RowAny (fun b => b < wr.heap.size) wr xs (keyT e) by have h := HR.out.mono (Same.refl _ _) (S' := fun b => b < wr.heap.size) (fun b _ hlt => hlt); rwa [HTK.out] at h)
      have HX2 := hid ((Below.block HB.out (w.heap.size + 1) (by omega)).trans HX.out)
      go_wp2_with (first
        | (go_at_call 53; refine (pkgKeyBy (keyT e) _ n _ xs _ HO.out HRR.out HLEN.out).mono ?_; rintro en w4 ⟨b, rfl, ⟨v', hc, hr⟩, hE⟩; have HE4 := hid hE; have HREP := hid (And.intro hc hr); clear hc hr hE)
        | (go_at_call 52; refine (fromElem_any Any (.key (sortP (keyT e))) [.pointer none, .pointer (some ⟨b, 0, none⟩), .pointer none, .pointer none] _ ⟨b, 0, trivial, rfl, _, HREP.out.1, HREP.out.2⟩).mono ?_; rintro en w5 ⟨cs5, rfl, hG, hE⟩; obtain ⟨r0, r1, r2, e2, r3, r4, e4, r5, u1, u2, u3, u4, u5, u6, u7, u8, u9, u10, r6, rfl⟩ := form7' hG; have HG := hid (hG.weak (S' := fun b => w.heap.size + 2 ≤ b) (fun b0 hb0 _ => by have h1 := HB.out.size; have h2 := HSZ.out; have h3 := HE4.out.size; have h4 : w4.heap.size ≤ b0 := hb0; omega)); have HE5 := hid (HE4.out.trans hE); clear hE hG; obtain ⟨⟨z0, z1, z2, z3, z4, z5, z6, z7, z8, z9, z10⟩, f0, f1, f2, f3, f4, f5, f6, f7, f8, f9, f10⟩ := slot11 (HE5.out.block HX2.out)))
      change bodyPost _ _ _ _ _ (setL w5 (w.heap.size + 1) 0 [.int .i64 r0, .string r1, .slice r2 e2 r3, .slice r4 e4 r5, .int .i64 u1, .int .i64 u2, .float .f64 u3, .string u4, .slice u5 u6 u7, .slice u8 u9 u10, .int .i64 r6])
      obtain ⟨e6, hr6, x6⟩ := putE (e := fromEl (.key (sortP (keyT e)))) (w := w) (W := w5) (S := fun b => w.heap.size + 2 ≤ b) (vs := [.int .i64 r0, .string r1, .slice r2 e2 r3, .slice r4 e4 r5, .int .i64 u1, .int .i64 u2, .float .f64 u3, .string u4, .slice u5 u6 u7, .slice u8 u9 u10, .int .i64 r6]) (HE5.out.block HX2.out) rfl (Nat.le_succ _) (HE.out.trans HE5.out) HG.out (fun b hb => by have hb2 : w.heap.size + 2 ≤ b := hb; omega) _ rfl
      generalize setL w5 (w.heap.size + 1) 0 [.int .i64 r0, .string r1, .slice r2 e2 r3, .slice r4 e4 r5, .int .i64 u1, .int .i64 u2, .float .f64 u3, .string u4, .slice u5 u6 u7, .slice u8 u9 u10, .int .i64 r6] = WF at *
      obtain ⟨⟨y0, y1, y2, y3, y4, y5, y6, y7, y8, y9, y10⟩, -⟩ := slot11 e6
      refine bodyPost_ret (v := .agg #[.int .i64 r0, .string r1, .slice r2 e2 r3, .slice r4 e4 r5, .int .i64 u1, .int .i64 u2, .float .f64 u3, .string u4, .slice u5 u6 u7, .slice u8 u9 u10, .int .i64 r6]) (by simp [results, Try.results17, go_sem, y0, y1, y2, y3, y4, y5, y6, y7, y8, y9, y10]) rfl ⟨_, rfl, hr6, x6⟩
end Go.Proofs.Ytempfaefopfobaa
end

/- KeyAny: two boxes with their rows of names and of values, while both grow. -/
section
set_option maxRecDepth 100000
namespace Go.Proofs.Ytempfaefopfobaa
open Go.ChangeShapes Go.WideShapes Go.ChangeAt Go.RowKit
set_option linter.unusedVariables false
set_option linter.unusedSimpArgs false
/-- the boxes A and B of two keys to be, what they hold, and the rows (base B3) of the names and the values of both -/
structure K4 (w0 W : World) (O A B B3 : Nat) (pk pl qk ql ak al bk bl : Value) (n1 n2 n3 n4 : Nat) (ka kb : List ByteArray) (xa xb : List Value) (ga gb : List GV) : Prop where
  below : Below O w0 W
  outA : W.heap[A]? = some (.cells #[.int .i64 1, .string ⟨#[]⟩, pk, pl, .int .i64 0, .int .i64 0, .float .f64 0, .string ⟨#[]⟩, .slice none 0 0, .slice none 0 0, .int .i64 0] 34)
  outB : W.heap[B]? = some (.cells #[.int .i64 1, .string ⟨#[]⟩, qk, ql, .int .i64 0, .int .i64 0, .float .f64 0, .string ⟨#[]⟩, .slice none 0 0, .slice none 0 0, .int .i64 0] 34)
  hA : O ≤ A ∧ A < B3
  hB : O ≤ B ∧ B < B3
  hAB : A ≠ B
  hs : B3 ≤ W.heap.size
  rka : W.ownsRow B3 9 1 ak n1 (ka.map Value.string)
  rla : W.ownsRow B3 32 6 al n2 xa
  rkb : W.ownsRow B3 9 1 bk n3 (kb.map Value.string)
  rlb : W.ownsRow B3 32 6 bl n4 xb
  sepK : ak.ownBlock = none ∨ ak.ownBlock ≠ bk.ownBlock
  sepL : al.ownBlock = none ∨ al.ownBlock ≠ bl.ownBlock
  rowA : RowGV (fun b => b < O) W xa ga
  rowB : RowGV (fun b => b < O) W xb gb
theorem sep_symm {a b : Option Nat} (h : a = none ∨ a ≠ b) : b = none ∨ b ≠ a := by
  rcases h with rfl | h
  · cases b with
    | none => exact .inl rfl
    | some x => exact .inr (by simp)
  · exact .inr (Ne.symm h)
/-- a row that has grown is still apart from another one -/
theorem sep_grown {W : World} {base n : Nat} {e : TypeId} {size : Nat} {v v' u : Value} {xs : List Value} (hu : W.ownsRow base e size u n xs) (h : v.ownBlock = none ∨ v.ownBlock ≠ u.ownBlock)
    (hat : ∀ g, v'.ownBlock = some g → v.ownBlock = some g ∨ W.heap.size ≤ g) : v'.ownBlock = none ∨ v'.ownBlock ≠ u.ownBlock := by
  cases hg : v'.ownBlock with
  | none => exact .inl rfl
  | some g =>
    right
    intro e
    rcases hat g hg with h1 | h1
    · rcases h with h | h
      · rw [h] at h1; cases h1
      · exact h (h1.trans e)
    · have := own_lt hu g e.symm
      omega
section
variable {w0 W w3 : World} {O A B B3 n1 n2 n3 n4 : Nat} {pk pl qk ql ak al bk bl : Value} {ka kb : List ByteArray} {xa xb cs : List Value} {ga gb : List GV}
theorem K4.swap (h : K4 w0 W O A B B3 pk pl qk ql ak al bk bl n1 n2 n3 n4 ka kb xa xb ga gb) : K4 w0 W O B A B3 qk ql pk pl bk bl ak al n3 n4 n1 n2 kb ka xb xa gb ga :=
  ⟨h.below, h.outB, h.outA, h.hB, h.hA, Ne.symm h.hAB, h.hs, h.rkb, h.rlb, h.rka, h.rla, sep_symm h.sepK, sep_symm h.sepL, h.rowB, h.rowA⟩
theorem K4.ext (h : K4 w0 W O A B B3 pk pl qk ql ak al bk bl n1 n2 n3 n4 ka kb xa xb ga gb) (E : Ext W w3) : K4 w0 w3 O A B B3 pk pl qk ql ak al bk bl n1 n2 n3 n4 ka kb xa xb ga gb :=
  ⟨below_ext h.below E (by have := h.hA; have := h.hs; omega), E.block h.outA, E.block h.outB, h.hA, h.hB, h.hAB, Nat.le_trans h.hs E.size, ownsRow_ext h.rka E, ownsRow_ext h.rla E, ownsRow_ext h.rkb E, ownsRow_ext h.rlb E, h.sepK, h.sepL, h.rowA.mono (E.same _) (fun _ h _ => h), h.rowB.mono (E.same _) (fun _ h _ => h)⟩
theorem K4.grown (h : K4 w0 W O A B B3 pk pl qk ql ak al bk bl n1 n2 n3 n4 ka kb xa xb ga gb) {row : Option Nat} (hg : W.grownBy w3 row) (hr : ∀ b, row = some b → B3 ≤ b) : Below O w0 w3 ∧ w3.heap[A]? = some (.cells #[.int .i64 1, .string ⟨#[]⟩, pk, pl, .int .i64 0, .int .i64 0, .float .f64 0, .string ⟨#[]⟩, .slice none 0 0, .slice none 0 0, .int .i64 0] 34) ∧ w3.heap[B]? = some (.cells #[.int .i64 1, .string ⟨#[]⟩, qk, ql, .int .i64 0, .int .i64 0, .float .f64 0, .string ⟨#[]⟩, .slice none 0 0, .slice none 0 0, .int .i64 0] 34) ∧ B3 ≤ w3.heap.size ∧ Same (fun b => b < O) W w3 := by
  have h1 := h.hA
  have h2 := h.hB
  have h3 := h.hs
  have key : ∀ b, b < B3 → w3.heap[b]? = W.heap[b]? := fun b hb => hg.block b (by omega) (fun e => by have := hr b e.symm; omega)
  exact ⟨h.below.trans ⟨hg.os, hg.tape, hg.output, by have := hg.size; omega, fun i hi => key i (by omega)⟩, (key A h1.2).trans h.outA, (key B h2.2).trans h.outB, by have := hg.size; omega, fun b o hb hob => (key b (by omega)).trans hob⟩
theorem K4.appK (h : K4 w0 W O A B B3 pk pl qk ql ak al bk bl n1 n2 n3 n4 ka kb xa xb ga gb) (s : ByteArray) {ak' : Value} (hg : W.grownBy w3 ak.ownBlock) (hown : w3.ownsRow B3 9 1 ak' (n1 + 1) (ka.map Value.string ++ [.string s]))
    (hat : ∀ g, ak'.ownBlock = some g → ak.ownBlock = some g ∨ W.heap.size ≤ g) : K4 w0 w3 O A B B3 pk pl qk ql (ak') al bk bl (n1 + 1) n2 n3 n4 (ka ++ [s]) kb xa xb ga gb := by
  obtain ⟨g1, g2, g3, g4, g5⟩ := h.grown hg (own_ge h.rka)
  exact ⟨g1, g2, g3, h.hA, h.hB, h.hAB, g4, by simpa using hown, h.rla.kept hg (own_apart h.rla h.rka (by decide)), h.rkb.kept hg (sep_symm h.sepK), h.rlb.kept hg (own_apart h.rlb h.rka (by decide)), sep_grown h.rkb h.sepK hat, h.sepL, h.rowA.mono g5 (fun _ h _ => h), h.rowB.mono g5 (fun _ h _ => h)⟩
theorem K4.appL (h : K4 w0 W O A B B3 pk pl qk ql ak al bk bl n1 n2 n3 n4 ka kb xa xb ga gb) {gv : GV} {al' : Value} (hg : W.grownBy w3 al.ownBlock) (hown : w3.ownsRow B3 32 6 al' (n2 + 1) (xa ++ cs)) (hT : RepGV (fun b => b < O) W gv cs)
    (hat : ∀ g, al'.ownBlock = some g → al.ownBlock = some g ∨ W.heap.size ≤ g) : K4 w0 w3 O A B B3 pk pl qk ql ak (al') bk bl n1 (n2 + 1) n3 n4 ka kb (xa ++ cs) xb (ga ++ [gv]) gb := by
  obtain ⟨g1, g2, g3, g4, g5⟩ := h.grown hg (own_ge h.rla)
  exact ⟨g1, g2, g3, h.hA, h.hB, h.hAB, g4, h.rka.kept hg (own_apart h.rka h.rla (by decide)), hown, h.rkb.kept hg (own_apart h.rkb h.rla (by decide)), h.rlb.kept hg (sep_symm h.sepL), h.sepK, sep_grown h.rlb h.sepL hat, (h.rowA.mono g5 (fun _ h _ => h)).append (RowGV.one (hT.mono g5 (fun _ h _ => h))), h.rowB.mono g5 (fun _ h _ => h)⟩
theorem K4.put (h : K4 w0 W O A B B3 pk pl qk ql ak al bk bl n1 n2 n3 n4 ka kb xa xb ga gb) (x y : Value) : K4 w0 ((W.setCell ⟨A, 2, none⟩ x).setCell ⟨A, 3, none⟩ y) O A B B3 (x) (y) qk ql ak al bk bl n1 n2 n3 n4 ka kb xa xb ga gb := by
  have h1 := h.hA
  have hne : ∀ (i : Nat) (u : Value) (W : World) (b : Nat), b ≠ A → (W.setCell ⟨A, i, none⟩ u).heap[b]? = W.heap[b]? := fun i u W b hb => Below.heap_setCell _ _ _ _ hb
  have sm : Same (fun b => b < O) W ((W.setCell ⟨A, 2, none⟩ x).setCell ⟨A, 3, none⟩ y) := fun b o hb hob => by
    rw [hne 3 y _ b (by omega), hne 2 x _ b (by omega)]; exact hob
  refine ⟨Below.setCell (Below.setCell h.below h1.1 _) h1.1 _, (setCell_heap ((setCell_heap h.outA 2 _).trans rfl) 3 _).trans rfl, ?_, h.hA, h.hB, h.hAB, by simp; exact h.hs,
    ownsRow_setCell_below (ownsRow_setCell_below h.rka h1.2 _) h1.2 _, ownsRow_setCell_below (ownsRow_setCell_below h.rla h1.2 _) h1.2 _, ownsRow_setCell_below (ownsRow_setCell_below h.rkb h1.2 _) h1.2 _, ownsRow_setCell_below (ownsRow_setCell_below h.rlb h1.2 _) h1.2 _,
    h.sepK, h.sepL, h.rowA.mono sm (fun _ h _ => h), h.rowB.mono sm (fun _ h _ => h)⟩
  rw [hne 3 y _ B (Ne.symm h.hAB), hne 2 x _ B (Ne.symm h.hAB)]
  exact h.outB
end
end Go.Proofs.Ytempfaefopfobaa
end

/- Rot: a list turned round: what stood in the middle comes first. Pure. -/
section
namespace Go.Proofs.Ytempfaefopfobaa
set_option linter.unusedVariables false
set_option linter.unusedSimpArgs false

def rotL {α : Type} (l : List α) (t : Nat) : List α := l.drop t ++ l.take t
theorem rotL_length {α : Type} (l : List α) (t : Nat) : (rotL l t).length = l.length := by
  unfold rotL
  rw [List.length_append, List.length_drop, List.length_take]
  omega
theorem rotL_perm {α : Type} (l : List α) (t : Nat) : (rotL l t).Perm l := by
  unfold rotL
  exact List.perm_append_comm.trans (by rw [List.take_append_drop])
theorem rotL_get {α : Type} {l : List α} {t i : Nat} (ht : t < l.length) (hi : i < l.length) : (rotL l t)[i]? = l[(i + t) % l.length]? := by
  unfold rotL
  by_cases h : i + t < l.length
  · rw [Nat.mod_eq_of_lt h, List.getElem?_append_left (by rw [List.length_drop]; omega), List.getElem?_drop, Nat.add_comm]
  · have : (i + t) % l.length = i + t - l.length := by
      rw [Nat.mod_eq_sub_mod (by omega), Nat.mod_eq_of_lt (by omega)]
    rw [this, List.getElem?_append_right (by rw [List.length_drop]; omega), List.length_drop, List.getElem?_take_of_lt (by omega)]
    congr 1
    omega
theorem rotL_zip {α β : Type} {a : List α} {b : List β} (t : Nat) (h : a.length = b.length) : (rotL a t).zip (rotL b t) = rotL (a.zip b) t := by
  unfold rotL
  rw [List.zip_append (by rw [List.length_drop, List.length_drop, h]), List.zip_eq_zipWith, List.zip_eq_zipWith, List.zip_eq_zipWith, List.drop_zipWith, List.take_zipWith]
theorem nodup_take {l : List ByteArray} {j : Nat} {x : ByteArray} (h : l[j]? = some x) : (l.take (j + 1)).Nodup ↔ (l.take j).Nodup ∧ x ∉ l.take j := by
  obtain ⟨hlt, he⟩ := List.getElem?_eq_some_iff.1 h
  rw [List.take_succ_eq_append_getElem hlt, he, List.nodup_append]
  constructor
  · rintro ⟨h1, -, h2⟩
    exact ⟨h1, fun hx => h2 x hx x (by simp) rfl⟩
  · rintro ⟨h1, h2⟩
    exact ⟨h1, by simp, fun a ha b hb => by simp at hb; subst hb; rintro rfl; exact h2 ha⟩
/-- a turn brought into the range of n, as the law's remainders bring it -/
theorem turn_range (t : Int) (n : Nat) (hn : 0 < n) : ∃ u : Nat, u < n ∧ (t.tmod n + n).tmod n = u := by
  have h1 := Int.tmod_lt_of_pos t (show (0 : Int) < n by omega)
  have h2 : -(n : Int) < t.tmod n := by
    have h := Int.tmod_lt_of_pos (-t) (show (0 : Int) < n by omega)
    rw [Int.neg_tmod] at h
    omega
  have h3 := Int.tmod_lt_of_pos (t.tmod n + n) (show (0 : Int) < n by omega)
  have h4 := Int.tmod_nonneg (a := t.tmod n + n) n (by omega)
  exact ⟨((t.tmod n + n).tmod n).toNat, by omega, by omega⟩
end Go.Proofs.Ytempfaefopfobaa
end

/- Distinct: laws.isKey, laws.distinct: whether a name is in a list; whether no name is twice in it. -/
section
set_option maxRecDepth 100000
namespace Go.Proofs.Ytempfaefopfobaa
open Go.ChangeShapes Go.WideShapes Go.ChangeAt Go.RowKit
set_option linter.unusedVariables false
set_option linter.unusedSimpArgs false

theorem mem_step {l : List ByteArray} {j : Nat} {a x : ByteArray} (h : l[j]? = some a) : decide (x ∈ l.drop j) = (decide (a = x) || decide (x ∈ l.drop (j + 1))) := by
  obtain ⟨hlt, he⟩ := List.getElem?_eq_some_iff.1 h
  rw [List.drop_eq_getElem_cons hlt, he]
  simp only [List.mem_cons, Bool.decide_or]
  congr 1
  exact decide_eq_decide.2 ⟨Eq.symm, Eq.symm⟩
theorem isKey_any (v : Value) (ss : List ByteArray) (x : ByteArray) (w : World) (h : RepStrs Any w v ss) : Calls Try.prog 49 #[v, .string x] w fun e w' => e = .returned (.bool (decide (x ∈ ss))) ∧ Ext w w' := by
  obtain ⟨a, b, o, c, rfl, hsz, hat⟩ := h.at'
  have HAT := hid hat
  clear h hat
  go_enter Try.func49, Try.ntmps49
  go_wp2_with fail
  go_loopw [9] (fun i wr => ∃ j : Nat, i = .int .i64 j ∧ j ≤ ss.length ∧ Hid (decide (x ∈ ss.drop j) = decide (x ∈ ss)) ∧ Hid (Ext w wr)) (fun i _ => ss.length - (intOf i).toNat)
  case atStart => exact ⟨0, rfl, Nat.zero_le _, hid rfl, hid (Ext.refl _)⟩
  case round =>
    obtain ⟨j, rfl, hj, HC, HE⟩ := hrel
    by_cases h1 : j < ss.length
    · obtain ⟨s, hs⟩ : ∃ s, ss[j]? = some s := ⟨_, List.getElem?_eq_getElem h1⟩
      obtain ⟨rfl, k1, -⟩ := HAT.out j s hs
      have q1 := HE.out.cellS k1
      have hst := mem_step (x := x) hs
      rw [HC.out] at hst
      have hi0 : (0 : Int) ≤ (j : Int) := by omega
      have hi1 : (j : Int) < (ss.length : Int) := by omega
      clear hs k1
      by_cases hn : s = x
      · have hne : (s.toList == x.toList) = true := by rw [ba_toList_beq, decide_eq_true hn]
        have RES := hid (show true = decide (x ∈ ss) by rw [hst, decide_eq_true hn]; rfl)
        clear hn hst
        go_wp2_with fail
        go_ret
        exact ⟨congrArg (fun z => Ending.returned (.bool z)) RES.out, HE.out⟩
      · have hne : (s.toList == x.toList) = false := by rw [ba_toList_beq, decide_eq_false hn]
        have HST := hid (show decide (x ∈ ss.drop (j + 1)) = decide (x ∈ ss) by rw [hst, decide_eq_false hn]; rfl)
        clear hn hst
        go_wp2_with fail
        exact ⟨⟨j + 1, by go_num, by omega, HST, HE⟩, by simp [intOf]; omega⟩
    · have RES := hid (show false = decide (x ∈ ss) by rw [← HC.out, List.drop_eq_nil_of_le (by omega)]; rfl)
      go_wp2_with fail
      go_ret
      exact ⟨congrArg (fun z => Ending.returned (.bool z)) RES.out, HE.out⟩
theorem distinct_any (v : Value) (ss : List ByteArray) (w : World) (h : RepStrs Any w v ss) : Calls Try.prog 15 #[v] w fun e w' => e = .returned (.bool (decide ss.Nodup && decide (ss.length ≤ 40))) ∧ Ext w w' := by
  obtain ⟨a, b, o, c, rfl, hsz, hat⟩ := h.at'
  have HAT := hid hat
  have HR := hid h
  have hcc : ss.length ≤ c := by
    obtain ⟨a', b', o', c', e, h1, -⟩ := h
    simp only [Value.slice.injEq] at e
    obtain ⟨-, e2, rfl⟩ := e
    omega
  clear h hat
  go_enter Try.func15, Try.ntmps15
  go_wp2_with fail
  go_loopw [7] (fun i wr => ∃ j : Nat, i = .int .i64 j ∧ j ≤ ss.length ∧ Hid ((ss.take j).Nodup) ∧ Hid (Ext w wr)) (fun i _ => ss.length - (intOf i).toNat)
  case atStart => exact ⟨0, rfl, Nat.zero_le _, hid (by simp), hid (Ext.refl _)⟩
  case round =>
    obtain ⟨j, rfl, hj, HC, HE⟩ := hrel
    by_cases h1 : j < ss.length
    · obtain ⟨s, hs⟩ : ∃ s, ss[j]? = some s := ⟨_, List.getElem?_eq_getElem h1⟩
      obtain ⟨rfl, k1, -⟩ := HAT.out j s hs
      have q1 := HE.out.cellS k1
      have hst := nodup_take hs
      have hi0 : (0 : Int) ≤ (j : Int) := by omega
      have hi1 : (j : Int) < (ss.length : Int) := by omega
      have hi2 : (j : Int) ≤ (c : Int) := by omega
      have HK := hid (fun W (E : Ext w W) => isKey_any _ (ss.take j) s W ((HR.out.ext E).take (m := j) (by omega)))
      obtain ⟨z, hz⟩ : ∃ z, decide (s ∈ ss.take j) = z := ⟨_, rfl⟩
      rw [hz] at HK
      have HZ := hid hz
      have HST := hid hst
      have HS := hid hs
      clear hs k1 hz hst
      cases z
      all_goals
        go_wp2_with (go_at_call 49; refine (HK.out _ HE.out).mono ?_; rintro e w2 ⟨rfl, hE⟩; have HE2 := hid (HE.out.trans hE); clear hE)
      · exact ⟨⟨j + 1, by go_num, by omega, hid (HST.out.2 ⟨HC.out, of_decide_eq_false HZ.out⟩), HE2⟩, by simp [intOf]; omega⟩
      · go_ret
        refine ⟨congrArg (fun z => Ending.returned (.bool z)) ?_, HE2.out⟩
        have h2 : ¬ ss.Nodup := fun h => by
          have h3 := (HST.out.1 (h.sublist (List.take_sublist _ _))).2
          exact h3 (of_decide_eq_true HZ.out)
        rw [decide_eq_false h2]; rfl
    · have HN := hid (show ss.Nodup by have := HC.out; rwa [List.take_of_length_le (by omega)] at this)
      go_wp2_with fail
      go_ret
      refine ⟨congrArg (fun z => Ending.returned (.bool z)) ?_, HE.out⟩
      rw [decide_eq_true HN.out, Bool.true_and]
      first | rfl | (apply decide_eq_decide.2; omega)
end Go.Proofs.Ytempfaefopfobaa
end
