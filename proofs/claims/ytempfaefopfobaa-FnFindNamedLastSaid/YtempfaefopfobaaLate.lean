/- Late: a law for regions that draw their order, where a cell that is loaded is stored to by the region's last operations: a load that each such store waits for may be taken first, though the store changes its cell. -/
import Derived.OrdersHeld
import Derived.StillTail
import Derived.Deep.RegionHeld

namespace Go.Proofs.Ytempfaefopfobaa
set_option linter.unusedVariables false
set_option linter.unusedSimpArgs false

section
variable {P : Program} {ops : Array Oper} {Q : Exit → Act → World → Prop} {md : Region.Mode} {S : World → Prop} {late : List Nat}

/-- no late operation has come up -/
def Clear (late : List Nat) (listed : Array Bool) : Prop := ∀ k ∈ late, listed.getD k false = false
/-- what has come up has what it waits for behind it -/
def Closed (md : Region.Mode) (ops : Array Oper) (listed : Array Bool) : Prop := ∀ j oj, ops[j]? = some oj → listed.getD j false = true → ∀ e ∈ oj.after, Region.binds md e = true → listed.getD e.on false = true
theorem Closed.set {i : Nat} {listed : Array Bool} (h : Closed md ops listed) (hi : i ∈ Region.ready md ops listed) : Closed md ops (listed.setIfInBounds i true) := by
  obtain ⟨_, oi, hoi, hall⟩ := mem_ready.1 hi
  intro j oj hj hl e he hb
  by_cases hij : i = j
  · subst hij
    have : oj = oi := Option.some.inj (hj.symm.trans hoi)
    subst this
    exact getD_set_true (hall e he hb)
  · rw [getD_set_ne false hij] at hl
    exact getD_set_true (h j oj hj hl e he hb)
/-- k waits for i, by way of f others at most -/
def reachB (md : Region.Mode) (ops : Array Oper) : Nat → Nat → Nat → Bool
  | 0, k, i => Region.waitsFor md ops k i
  | f + 1, k, i => Region.waitsFor md ops k i || (List.range ops.size).any fun j => Region.waitsFor md ops k j && reachB md ops f j i
theorem reach_spec {listed : Array Bool} (hc : Closed md ops listed) : ∀ (f k i : Nat), reachB md ops f k i = true → listed.getD k false = true → listed.getD i false = true := by
  have h0 : ∀ k i, Region.waitsFor md ops k i = true → listed.getD k false = true → listed.getD i false = true := fun k i h hk => by
    obtain ⟨ok, hok, e, he, hb, hon⟩ := Region.waitsFor_spec h
    exact hon ▸ hc k ok hok hk e he hb
  intro f
  induction f with
  | zero => exact h0
  | succ f ih =>
    intro k i h hk
    simp only [reachB, Bool.or_eq_true] at h
    rcases h with h | h
    · exact h0 k i h hk
    · obtain ⟨j, -, hj⟩ := List.any_eq_true.1 h
      simp only [Bool.and_eq_true] at hj
      exact ih j i hj.2 (h0 k j hj.1 hk)
/-- each late operation waits for this one -/
def lateB (md : Region.Mode) (ops : Array Oper) (late : List Nat) (i : Nat) : Bool := late.all fun k => reachB md ops 2 k i
theorem clear_of {i : Nat} {listed : Array Bool} (hc : Closed md ops listed) (hl : lateB md ops late i = true) (hun : listed.getD i false = false) : Clear late listed := by
  intro k hk
  cases hkl : listed.getD k false with
  | false => rfl
  | true =>
    have := reach_spec hc 2 k i (List.all_eq_true.1 hl k hk) hkl
    rw [hun] at this
    cases this

/-- whatever order is picked from here on, and S holds behind each operation till a late one has come up -/
def wpAnyM (P : Program) (md : Region.Mode) (ops : Array Oper) (Q : Exit → Act → World → Prop) (S : World → Prop) (late : List Nat) : Nat → Array Bool → Act → World → Prop
  | 0, listed, a, w => Region.ready md ops listed = [] ∧ Q .normal a w
  | fuel + 1, listed, a, w =>
    (Region.ready md ops listed = [] → Q .normal a w) ∧
    ∀ i ∈ Region.ready md ops listed, wpOp P ops Q i (fun a' w' => (Clear late (listed.setIfInBounds i true) → S w') ∧ wpAnyM P md ops Q S late fuel (listed.setIfInBounds i true) a' w') a w
theorem wpAny_of_late : ∀ (fuel : Nat) (listed : Array Bool) (a : Act) (w : World), wpAnyM P md ops Q S late fuel listed a w → wpAny P md ops Q fuel listed a w
  | 0, _, _, _, h => h
  | fuel + 1, _, _, _, h => ⟨h.1, fun i hi => wpOp_mono (fun a' w' h' => wpAny_of_late fuel _ a' w' h'.2) (h.2 i hi)⟩

theorem wpAnyM_first {S' : World → Prop} {i : Nat} {oi : Oper} {v : Value} (hi : ops[i]? = some oi) (hsel : ∀ (j : Nat) (o : Oper) cs b, ops[j]? = some o → o.op ≠ .select cs b)
    (hQ : ∀ c a w, Q (.panic c) (a.put oi.dst v) w → Q (.panic c) a w) (hlt : i ∉ late)
    (hSS : ∀ (listed : Array Bool) (w : World), Closed md ops listed → listed.getD i false = false → (Clear late listed → S w) → S' w) :
    ∀ (fuel : Nat) (listed : Array Bool) (a : Act) (w : World), Closed md ops listed →
      (∀ j oj, ops[j]? = some oj → j ≠ i → listed.getD j true = false → (∀ e ∈ oj.after, Region.binds md e = true → e.on ≠ i) → oi.apart ops oj = true) →
      i ∈ Region.ready md ops listed → YieldsIf P ops S' oi v a → (Clear late listed → S w) →
      wpAnyM P md ops Q S late fuel (listed.setIfInBounds i true) (a.put oi.dst v) w → wpAnyM P md ops Q S late (fuel + 1) listed a w := by
  intro fuel
  have hni : ∀ (listed : Array Bool) (j : Nat), (Clear late (listed.setIfInBounds j true)) → Clear late ((listed.setIfInBounds i true).setIfInBounds j true) := by
    intro listed j hcl k hk
    have hki : k ≠ i := fun e => hlt (e ▸ hk)
    have h := hcl k hk
    by_cases hji : j = i
    · subst hji
      rw [getD_set_ne false (Ne.symm hki), getD_set_ne false (Ne.symm hki)]
      rwa [getD_set_ne false (Ne.symm hki)] at h
    · rw [Array.setIfInBounds_comm _ _ (Ne.symm hji), getD_set_ne false (Ne.symm hki)]
      exact h
  have hni0 : ∀ (listed : Array Bool), Clear late (listed.setIfInBounds i true) → Clear late listed := by
    intro listed hcl k hk
    have hki : k ≠ i := fun e => hlt (e ▸ hk)
    have h := hcl k hk
    rwa [getD_set_ne false (Ne.symm hki)] at h
  induction fuel with
  | zero =>
    intro listed a w hc _ hr hy hS H
    have hS' := hSS listed w hc (getD_both (mem_ready.1 hr).1) hS
    refine ⟨fun h => (by rw [h] at hr; cases hr), fun j hj => ?_⟩
    by_cases hji : j = i
    · subst hji; exact hy.wpOp hi hS' ⟨fun h => hS (hni0 _ h), H⟩
    · have := ready_mono hj hji
      rw [H.1] at this
      cases this
  | succ fuel ih =>
    intro listed a w hc hfree hr hy hS H
    have hS' := hSS listed w hc (getD_both (mem_ready.1 hr).1) hS
    refine ⟨fun h => (by rw [h] at hr; cases hr), fun j hj => ?_⟩
    by_cases hji : j = i
    · subst hji; exact hy.wpOp hi hS' ⟨fun h => hS (hni0 _ h), H⟩
    · have h1 := H.2 j (ready_mono hj hji)
      obtain ⟨hjun, oj, hoj, hall⟩ := mem_ready.1 hj
      have hnot : ∀ e ∈ oj.after, Region.binds md e = true → e.on ≠ i := fun e he hb heq => by
        have h1 := hall e he hb
        have h0 := (mem_ready.1 hr).1
        rw [heq, getD_both h0] at h1
        cases h1
      have h2 := wpOp_putIf hoj (hfree j oj hoj hji hjun hnot) (fun cs b => hsel i oi cs b hi) (fun cs b => hsel j oj cs b hoj) hQ hy h1
      have hfree' : ∀ k ok, ops[k]? = some ok → k ≠ i → (listed.setIfInBounds j true).getD k true = false →
          (∀ e ∈ ok.after, Region.binds md e = true → e.on ≠ i) → oi.apart ops ok = true := fun k ok hk hki hun hno => by
        refine hfree k ok hk hki ?_ hno
        by_cases hjk : j = k
        · subst hjk; exact hjun
        · rw [getD_set_ne true hjk] at hun; exact hun
      refine wpOp_mono (fun a' w' h3 => ⟨fun hcl => h3.2.1 (hni listed j hcl), ih (listed.setIfInBounds j true) a' w' (hc.set hj) hfree' (ready_mono hr (Ne.symm hji)) h3.1 (fun hcl => h3.2.1 (hni listed j hcl)) ?_⟩) h2
      rw [Array.setIfInBounds_comm _ _ hji]
      exact h3.2.2

def closedB (md : Region.Mode) (ops : Array Oper) (listed : Array Bool) : Bool :=
  (List.range ops.size).all fun j => !(listed.getD j false) || ((ops[j]?).map fun oj => oj.after.all fun e => !(Region.binds md e) || listed.getD e.on false).getD true
theorem closed_of {listed : Array Bool} (h : closedB md ops listed = true) : Closed md ops listed := by
  intro j oj hj hl e he hb
  have hlt : j < ops.size := (Array.getElem?_eq_some_iff.1 hj).1
  have h1 := List.all_eq_true.1 h j (List.mem_range.2 hlt)
  simp only [hl, Bool.not_true, Bool.false_or, hj, Option.map_some, Option.getD_some] at h1
  have h2 := Array.all_eq_true'.1 h1 e he
  simpa [hb] using h2

/-- take number i first: each late operation waits for it -/
theorem wpAnyM_take {i : Nat} {oi : Oper} {v : Value} {fuel : Nat} {listed : Array Bool} {a : Act} {w : World} (hi : ops[i]? = some oi)
    (hB : (Region.noSelect ops && Region.free md ops listed i && (Region.ready md ops listed).contains i && lateB md ops late i && closedB md ops listed && !(late.contains i)) = true)
    (hQ : ∀ c a w, Q (.panic c) (a.put oi.dst v) w → Q (.panic c) a w) (hy : YieldsIf P ops S oi v a) (hS : S w)
    (h : wpAnyM P md ops Q S late fuel (listed.setIfInBounds i true) (a.put oi.dst v) w) : wpAnyM P md ops Q S late (fuel + 1) listed a w := by
  simp only [Bool.and_eq_true] at hB
  obtain ⟨⟨⟨⟨⟨h1, h2⟩, h3⟩, h4⟩, h5⟩, h6⟩ := hB
  exact wpAnyM_first (S' := S) hi (Region.noSelect_spec h1) hQ (by simpa using h6) (fun l w hc hun hS => hS (clear_of hc h4 hun)) fuel listed a w (closed_of h5) (Region.free_spec hi h2) (by simpa using h3) hy (fun _ => hS) h
/-- take number i first: it yields in whatever world -/
theorem wpAnyM_takeY {i : Nat} {oi : Oper} {v : Value} {fuel : Nat} {listed : Array Bool} {a : Act} {w : World} (hi : ops[i]? = some oi)
    (hB : (Region.noSelect ops && Region.free md ops listed i && (Region.ready md ops listed).contains i && closedB md ops listed && !(late.contains i)) = true)
    (hQ : ∀ c a w, Q (.panic c) (a.put oi.dst v) w → Q (.panic c) a w) (hy : YieldsIf P ops (fun _ => True) oi v a) (hS : Clear late listed → S w)
    (h : wpAnyM P md ops Q S late fuel (listed.setIfInBounds i true) (a.put oi.dst v) w) : wpAnyM P md ops Q S late (fuel + 1) listed a w := by
  simp only [Bool.and_eq_true] at hB
  obtain ⟨⟨⟨⟨h1, h2⟩, h3⟩, h5⟩, h6⟩ := hB
  exact wpAnyM_first (S' := fun _ => True) hi (Region.noSelect_spec h1) hQ (by simpa using h6) (fun _ _ _ _ _ => trivial) fuel listed a w (closed_of h5) (Region.free_spec hi h2) (by simpa using h3) hy hS h

/-- each of the operations rs comes up next -/
def AllReadyM (P : Program) (md : Region.Mode) (ops : Array Oper) (Q : Exit → Act → World → Prop) (S : World → Prop) (late : List Nat) (fuel : Nat) (listed : Array Bool) (a : Act) (w : World) (rs : List Nat) : Prop :=
  ∀ i ∈ rs, wpOp P ops Q i (fun a' w' => (Clear late (listed.setIfInBounds i true) → S w') ∧ wpAnyM P md ops Q S late fuel (listed.setIfInBounds i true) a' w') a w
theorem AllReadyM.nil {fuel : Nat} {listed : Array Bool} {a : Act} {w : World} : AllReadyM P md ops Q S late fuel listed a w [] := fun _ h => by cases h
/-- an operation behind which S is shown anew -/
theorem AllReadyM.cons {fuel : Nat} {listed : Array Bool} {a : Act} {w : World} {i : Nat} {o : Oper} {rs : List Nat} (ho : ops[i]? = some o)
    (h : ∀ K' : Act → World → Prop, Shut (∀ a w, S w → (S w → wpAnyM P md ops Q S late fuel (listed.setIfInBounds i true) a w) → K' a w) → if Region.wanted o (yielded ops a.tmps) = true then Oper.wp P o a w K' Q else K' (a.put o.dst undef) w)
    (hs : AllReadyM P md ops Q S late fuel listed a w rs) : AllReadyM P md ops Q S late fuel listed a w (i :: rs) := fun j hj => by
  rcases List.mem_cons.1 hj with rfl | hj
  · exact wpOp_step ho (fun K' hK => h K' (fun a w hS hW => hK a w ⟨fun _ => hS, hW hS⟩))
  · exact hs j hj
/-- an operation behind which a late one has come up -/
theorem AllReadyM.behind {fuel : Nat} {listed : Array Bool} {a : Act} {w : World} {i : Nat} {o : Oper} {rs : List Nat} (ho : ops[i]? = some o)
    (hl : late.any (fun k => (listed.setIfInBounds i true).getD k false) = true)
    (h : ∀ K' : Act → World → Prop, Shut (∀ a w, wpAnyM P md ops Q S late fuel (listed.setIfInBounds i true) a w → K' a w) → if Region.wanted o (yielded ops a.tmps) = true then Oper.wp P o a w K' Q else K' (a.put o.dst undef) w)
    (hs : AllReadyM P md ops Q S late fuel listed a w rs) : AllReadyM P md ops Q S late fuel listed a w (i :: rs) := fun j hj => by
  rcases List.mem_cons.1 hj with rfl | hj
  · refine wpOp_step ho (fun K' hK => h K' (fun a w hW => hK a w ⟨fun hc => ?_, hW⟩))
    obtain ⟨k, hk, hk2⟩ := List.any_eq_true.1 hl
    rw [hc k hk] at hk2
    cases hk2
  · exact hs j hj
theorem wpAnyM_ready {rs : List Nat} {fuel : Nat} {listed : Array Bool} {a : Act} {w : World} (hr : Region.ready md ops listed = rs) (hne : rs ≠ [])
    (h : AllReadyM P md ops Q S late fuel listed a w rs) : wpAnyM P md ops Q S late (fuel + 1) listed a w := ⟨fun h0 => absurd (hr ▸ h0) hne, hr ▸ h⟩
theorem wpAnyM_done {listed : Array Bool} {a : Act} {w : World} (hr : Region.ready md ops listed = []) (h : Q .normal a w) :
    ∀ fuel, wpAnyM P md ops Q S late fuel listed a w
  | 0 => ⟨hr, h⟩
  | _ + 1 => ⟨fun _ => h, by rw [hr]; simp⟩
/-- the beginning -/
theorem wp_region_late (S : World → Prop) (late : List Nat) {id : Nat} {a : Act} {w : World} (hm : P.follows .mixedOrders = true) (hS : S w.drew)
    (h : S w.drew → wpAnyM P .any ops Q S late ops.size (Array.replicate ops.size false) a w.drew) : (Code.region id ops true).wp P Q a w :=
  wp_region_any hm (wpAny_of_late _ _ _ _ (h hS))
end
end Go.Proofs.Ytempfaefopfobaa
