/- Base: small lemmas over whatever program: worlds that only grow, methods called through interface values, the frame of a law's statement. -/
import Derived.Test.YtempfaefopfobaaRows
import Derived.WalkKit
import Derived.ProofKit
import Derived.OpenShut
import Derived.WalkSpells
import Derived.WalkLawsBesides

namespace Go.Proofs.Ytempfaefopfobaa
open Go.ChangeShapes Go.WideShapes Go.ChangeAt Go.RowKit
set_option linter.unusedVariables false

theorem hid {p : Prop} (h : p) : Hid p := h

theorem ba_beq (a b : ByteArray) : (a == b) = decide (a = b) := by
  show (a.data == b.data) = _
  rw [Bool.eq_iff_iff]; simp [ByteArray.ext_iff]
instance : LawfulBEq ByteArray where
  eq_of_beq h := by rw [ba_beq] at h; simpa using h
  rfl := by intro a; rw [ba_beq]; simp
theorem ba_toList_inj {a b : ByteArray} (h : a.toList = b.toList) : a = b := by
  rw [Go.ByteArray.toList_eq, Go.ByteArray.toList_eq] at h
  exact ByteArray.ext (Array.toList_inj.mp h)
theorem ba_toList_beq (a b : ByteArray) : (a.toList == b.toList) = decide (a = b) := by
  by_cases h : a = b
  · subst h; simp
  · rw [decide_eq_false h, beq_eq_false_iff_ne]; exact fun e => h (ba_toList_inj e)

@[go_sem] theorem run_store_float' {P : Program} {w : World} {a : Addr} {m : Mode} (k : FloatKind) (b : Nat) : (store a (.float k b) m).run P w = stored P w a (.float k b) m := run_store P w a _ m rfl
@[go_sem] theorem run_store_map' {P : Program} {w : World} {a : Addr} {m : Mode} (r : Option Nat) : (store a (.map r) m).run P w = stored P w a (.map r) m := run_store P w a _ m rfl

/-- w' is w with new blocks: all that was there is as it was. -/
abbrev Ext (w w' : World) : Prop := Below w.heap.size w w'
theorem Ext.refl (w : World) : Ext w w := Below.refl _ _
theorem Ext.trans {a b c : World} (h : Ext a b) (k : Ext b c) : Ext a c := Below.trans h (k.mono h.size)
theorem Ext.cellS {w w' : World} (h : Ext w w') {a : Addr} {v : Value} (hc : w.cell? a = some v) : w'.cell? a = some v :=
  (Below.cell h (World.block_lt_of_cell? w a hc)).trans hc
theorem Ext.block {w w' : World} (h : Ext w w') {b : Nat} {o : Obj} (hc : w.heap[b]? = some o) : w'.heap[b]? = some o :=
  (Below.block h b (Array.getElem?_eq_some_iff.1 hc).1).trans hc
theorem Ext.alloc {w w' : World} (h : Ext w w') (o : Obj) : Ext w (w'.alloc o) := Below.alloc h h.size o
theorem Ext.grownBy {w w' : World} (h : Ext w w') (row : Option Nat) : w.grownBy w' row := ⟨h.os, h.tape, h.output, h.size, fun k hk _ => Below.block h k hk⟩
theorem ext_grownBy {w w' : World} (h : w.grownBy w' none) : Ext w w' := ⟨h.os, h.tape, h.output, h.size, fun k hk => h.block k hk (by simp)⟩
theorem ownsRow_ext {w w' : World} {base : Nat} {e : TypeId} {size : Nat} {v : Value} {n : Nat} {xs : List Value} (h : w.ownsRow base e size v n xs) (he : Ext w w') : w'.ownsRow base e size v n xs :=
  h.kept (he.grownBy none) (by cases v.ownBlock <;> simp)
theorem below_ext {B : Nat} {a w w' : World} (h : Below B a w) (he : Ext w w') (hB : B ≤ w.heap.size) : Below B a w' := h.trans (he.mono hB)
theorem below_cell {B : Nat} {a w : World} (h : Below B a w) {p : Addr} {v : Value} (hp : p.block < B) (hc : a.cell? p = some v) : w.cell? p = some v := (Below.cell h hp).trans hc
theorem ext_of_below {w w' : World} {o : Obj} (h : Below (w.heap.size + 1) (w.alloc o) w') : Ext w w' := ((Ext.refl w).alloc o).trans (h.mono (by simp))
theorem Ext.drew {w w' : World} (h : Ext w w') : Ext w w'.drew := Below.drew h

theorem boxes1 (w : World) (a : Obj) (W : World) (h : Below (w.heap.size + 1) (w.alloc a) W) : W.heap[w.heap.size]? = some a ∧ Ext w W :=
  ⟨(Below.block h _ (by omega)).trans (heap_alloc_new w a), ext_of_below h⟩
theorem boxes2 (w : World) (a b : Obj) (W : World) (h : Below (w.heap.size + 2) ((w.alloc a).alloc b) W) : W.heap[w.heap.size]? = some a ∧ W.heap[w.heap.size + 1]? = some b ∧ Ext w W := by
  have e : (w.alloc a).heap.size = w.heap.size + 1 := by simp
  obtain ⟨h1, h2⟩ := boxes1 (w.alloc a) b W (by rw [e]; exact h)
  obtain ⟨h3, h4⟩ := boxes1 w a W (Below.mono (((Ext.refl (w.alloc a)).trans h2)) (by omega))
  exact ⟨h3, by rw [← e]; exact h1, h4⟩
theorem boxes3 (w : World) (a b c : Obj) (W : World) (h : Below (w.heap.size + 3) (((w.alloc a).alloc b).alloc c) W) : W.heap[w.heap.size]? = some a ∧ W.heap[w.heap.size + 1]? = some b ∧ W.heap[w.heap.size + 2]? = some c ∧ Ext w W := by
  have e : (w.alloc a).heap.size = w.heap.size + 1 := by simp
  obtain ⟨h1, h2, h3⟩ := boxes2 (w.alloc a) b c W (by rw [e]; exact h)
  obtain ⟨h4, h5⟩ := boxes1 w a W (Below.mono (((Ext.refl (w.alloc a)).trans h3)) (by omega))
  rw [e] at h1 h2
  exact ⟨h4, h1, h2, h5⟩
theorem cell_of_heap {w : World} {b : Nat} {c : Array Value} {t : TypeId} {fr : Nat × Nat} (h : w.heap[b]? = some (.cells c t fr)) (j : Nat) : w.cell? ⟨b, j, none⟩ = c[j]? := by simp [World.cell?, h]
theorem free_of_heap {w : World} {b : Nat} {c : Array Value} {t : TypeId} (h : w.heap[b]? = some (.cells c t)) (j : Nat) : w.frozen? ⟨b, j, none⟩ = false := by simp [World.frozen?, h]

theorem setCell_heap {W : World} {O : Nat} {c : Array Value} {t : TypeId} {fr : Nat × Nat} (h : W.heap[O]? = some (.cells c t fr)) (j : Nat) (v : Value) : (W.setCell ⟨O, j, none⟩ v).heap[O]? = some (.cells (c.setIfInBounds j v) t fr) := by
  simp [World.setCell, Array.getElem?_modify, h]
def set6 (W : World) (b : Nat) (v0 v1 v2 v3 v4 v5 : Value) : World := (((((W.setCell ⟨b, 0, none⟩ v0).setCell ⟨b, 1, none⟩ v1).setCell ⟨b, 2, none⟩ v2).setCell ⟨b, 3, none⟩ v3).setCell ⟨b, 4, none⟩ v4).setCell ⟨b, 5, none⟩ v5
theorem set6_heap {W : World} {b : Nat} {c0 c1 c2 c3 c4 c5 : Value} {t : TypeId} (h : W.heap[b]? = some (.cells #[c0, c1, c2, c3, c4, c5] t)) (v0 v1 v2 v3 v4 v5 : Value) :
    (set6 W b v0 v1 v2 v3 v4 v5).heap[b]? = some (.cells #[v0, v1, v2, v3, v4, v5] t) :=
  (setCell_heap (setCell_heap (setCell_heap (setCell_heap (setCell_heap (setCell_heap h 0 v0) 1 v1) 2 v2) 3 v3) 4 v4) 5 v5).trans rfl
theorem slot6 {W : World} {b : Nat} {c0 c1 c2 c3 c4 c5 : Value} {t : TypeId} (h : W.heap[b]? = some (.cells #[c0, c1, c2, c3, c4, c5] t)) :
    (W.cell? ⟨b, 0, none⟩ = some c0 ∧ W.cell? ⟨b, 1, none⟩ = some c1 ∧ W.cell? ⟨b, 2, none⟩ = some c2 ∧ W.cell? ⟨b, 3, none⟩ = some c3 ∧ W.cell? ⟨b, 4, none⟩ = some c4 ∧ W.cell? ⟨b, 5, none⟩ = some c5) ∧
    (W.frozen? ⟨b, 0, none⟩ = false ∧ W.frozen? ⟨b, 1, none⟩ = false ∧ W.frozen? ⟨b, 2, none⟩ = false ∧ W.frozen? ⟨b, 3, none⟩ = false ∧ W.frozen? ⟨b, 4, none⟩ = false ∧ W.frozen? ⟨b, 5, none⟩ = false) :=
  ⟨⟨(cell_of_heap h 0).trans rfl, (cell_of_heap h 1).trans rfl, (cell_of_heap h 2).trans rfl, (cell_of_heap h 3).trans rfl, (cell_of_heap h 4).trans rfl, (cell_of_heap h 5).trans rfl⟩,
   ⟨free_of_heap h 0, free_of_heap h 1, free_of_heap h 2, free_of_heap h 3, free_of_heap h 4, free_of_heap h 5⟩⟩
theorem set6_other {W : World} {b i : Nat} (h : i ≠ b) (v0 v1 v2 v3 v4 v5 : Value) : (set6 W b v0 v1 v2 v3 v4 v5).heap[i]? = W.heap[i]? := by
  simp only [set6]
  iterate 6 rw [Below.heap_setCell _ _ _ _ h]
theorem set6_below {B : Nat} {a W : World} (h : Below B a W) {b : Nat} (hb : B ≤ b) (v0 v1 v2 v3 v4 v5 : Value) : Below B a (set6 W b v0 v1 v2 v3 v4 v5) :=
  (((((h.setCell hb v0).setCell hb v1).setCell hb v2).setCell hb v3).setCell hb v4).setCell hb v5
theorem set6_own {W : World} {base : Nat} {e : TypeId} {size : Nat} {v : Value} {n : Nat} {xs : List Value} (h : W.ownsRow base e size v n xs) {b : Nat} (hb : b < base) (v0 v1 v2 v3 v4 v5 : Value) : (set6 W b v0 v1 v2 v3 v4 v5).ownsRow base e size v n xs :=
  ownsRow_setCell_below (ownsRow_setCell_below (ownsRow_setCell_below (ownsRow_setCell_below (ownsRow_setCell_below (ownsRow_setCell_below h hb v0) hb v1) hb v2) hb v3) hb v4) hb v5

theorem ssaWrap_ptr (ts : Array TypeId) (t : TypeId) (a : Addr) (s : String) : Builtin.ssaWrapNilChk_ ts t #[.pointer (some a), strVal "", strVal s] = pure (.pointer (some a)) := rfl
theorem run_und {P : Program} {t : TypeId} {d : TypeDesc} (h : P.underlying t = some d) (w : World) : (underlying t).run P w = .ok d w := by simp [underlying, h]
/-- A method with a value receiver, called on a pointer in an interface value. -/
theorem run_method_ptrval {P : Program} {t elem : TypeId} {name : String} {f : FuncId} {a : Addr} {v : Value} {k : Nat} {w : World}
    (h2 : ((P.info? t).bind fun i => (i.methods.find? (·.name == name)).map fun m => (m.path, m.func)) = some (#[], some (f, false))) (h5 : P.underlying t = some (.pointer elem))
    (h6 : (loadVar elem a).run P w = .ok v w) :
    (method (k+1) t (.pointer (some a)) name).run P w = .ok (f, v) w := by
  obtain ⟨i, h1, h2⟩ := Option.bind_eq_some_iff.1 h2
  obtain ⟨m, h2, h3⟩ := Option.map_eq_some_iff.1 h2
  simp only [Prod.mk.injEq] at h3
  obtain ⟨h3, h4⟩ := h3
  have h7 : (typeInfo t).run P w = .ok i w := by simp [typeInfo, h1]
  have hr : (receiverAt t (.val (.pointer (some a))) false (some ((name.splitOn ".").getLastD name))).run P w = .ok v w := by
    simp only [receiverAt, Sem.run_bind, run_und h5, Result.andThen_ok, Place.get, Sem.run_pure, ssaWrap_ptr, asAddr, h6]
  simp only [method, Sem.run_bind, h7, Result.andThen_ok, h2, h3, h4, follow, Sem.run_pure, hr, Array.isEmpty, if_true, List.size_toArray, List.length_nil, decide_true]
/-- A method with a pointer receiver, called on a pointer in an interface value. -/
theorem run_method_ptr {P : Program} {t elem : TypeId} {name : String} {f : FuncId} {a : Addr} {k : Nat} {w : World}
    (h2 : ((P.info? t).bind fun i => (i.methods.find? (·.name == name)).map fun m => (m.path, m.func)) = some (#[], some (f, true))) (h5 : P.underlying t = some (.pointer elem)) :
    (method (k+1) t (.pointer (some a)) name).run P w = .ok (f, .pointer (some a)) w := by
  obtain ⟨i, h1, h2⟩ := Option.bind_eq_some_iff.1 h2
  obtain ⟨m, h2, h3⟩ := Option.map_eq_some_iff.1 h2
  simp only [Prod.mk.injEq] at h3
  obtain ⟨h3, h4⟩ := h3
  have h7 : (typeInfo t).run P w = .ok i w := by simp [typeInfo, h1]
  have hr : (receiverAt t (.val (.pointer (some a))) true (some ((name.splitOn ".").getLastD name))).run P w = .ok (.pointer (some a)) w := by
    simp only [receiverAt, Sem.run_bind, run_und h5, Result.andThen_ok, Place.get, Sem.run_pure]
  simp only [method, Sem.run_bind, h7, Result.andThen_ok, h2, h3, h4, follow, Sem.run_pure, hr, Array.isEmpty, if_true, List.size_toArray, List.length_nil, decide_true]

/-! ### The frame of a law -/
theorem trodAll_below {H : Type} {enc : TypeId × Value → H} {P : Program} (hl : laidOutB P = true) {W W' : World} (hb : Below W.heap.size W W') :
    ∀ {ts : List TypeId} {vs : List Value} {ds : List (DataW H)} {ps : List MemPlace}, (∀ t ∈ ts, P.readableRec t = true ∧ t < P.types.size) →
      DataW.TrodAll enc P W 0 (fun _ => true) true ts vs ds ps → (∀ x ∈ ps, x.block < W.heap.size) →
      DataW.TrodAll enc P W' 0 (fun b => decide (b < W.heap.size)) true ts vs ds ps
  | [], [], [], _, _, h, _ => h
  | t :: ts, v :: vs, d :: ds, _, hr, ⟨p, q, h1, h2, e⟩, hlt => by
    subst e
    exact ⟨p, q, Below.trod hl (hr t (by simp)).1 (hr t (by simp)).2 h1 hb (fun x hx => hlt x (List.mem_append_left _ hx)),
      trodAll_below hl hb (fun t' ht' => hr t' (by simp [ht'])) h2 (fun x hx => hlt x (List.mem_append_right _ hx)), rfl⟩
  | [], _ :: _, _, _, _, h, _ => h.elim
  | [], [], _ :: _, _, _, h, _ => h.elim
  | _ :: _, [], _, _, _, h, _ => h.elim
  | _ :: _, _ :: _, [], _, _, h, _ => h.elim

theorem trodAll_len {H : Type} {enc : TypeId × Value → H} {P : Program} {w : World} {base : Nat} {sp : Nat → Bool} {held : Bool} :
    ∀ {ts : List TypeId} {vs : List Value} {ds : List (DataW H)} {ps : List MemPlace}, DataW.TrodAll enc P w base sp held ts vs ds ps → ds.length = ts.length
  | [], [], [], _, _ => rfl
  | _ :: _, _ :: _, _ :: _, _, ⟨_, _, _, h2, _⟩ => by simp [trodAll_len h2]
  | [], _ :: _, _, _, h => h.elim
  | [], [], _ :: _, _, h => h.elim
  | _ :: _, [], _, _, h => h.elim
  | _ :: _, _ :: _, [], _, h => h.elim

theorem law_lifted {C : Checked} {os : Os} {f : FuncId} {fn : Func} {s : ChangeSpec} {H : Type} {enc : TypeId × Value → H}
    (own : ownKnob C.prog.godebug = none) (started : os.Started) (noInit : C.prog.inits.idxOf? f = none) (hfn : C.prog.funcs[f]? = some fn)
    (hl : laidOutB C.prog = true) (hread : ∀ t ∈ fn.params.toList, C.prog.readableRec t = true ∧ t < C.prog.types.size)
    (hres : (fn.resultTypes.toList.map C.prog.underlying) = [some .bool])
    (hv : s.vars = [])
    (hs : ∀ ds : List (DataW H), ds.length = fn.params.toList.length → (s.fn H ds).results = [.lit (.bool true)] ∧ (s.fn H ds).args = ds ∧ (s.fn H ds).vars = [])
    (witness : ∃ (w : World) (tape : Tape) (i : Input), w.os = os ∧ (w.forCall tape i).Shaped C.prog ∧ i.vars = [] ∧ Input.okWide C.prog (w.forCall tape i) .any w.heap.size f i ∧
      s.pre6 enc C.prog fn [] false (w.forCall tape i).memory i.args ∧ ({} : Assume).holds C.prog (lone (Frame.enter C.prog f i.args .normal) [] (w.forCall tape i)))
    (contract : ∀ (W : World) (base : Nat) (args : Array Value) (ds : List (DataW H)) (p : List MemPlace),
      (∀ (j : Nat) t v, fn.params[j]? = some t → args[j]? = some v → Value.okWide C.prog W .any base t v) →
      DataW.TrodAll enc C.prog W 0 (fun _ => true) true fn.params.toList args.toList ds p →
      (DataW.weightsEach C.prog fn.params.toList ds).all (· ≤ reachBytes) = true →
      Calls C.prog f args W fun e W' => e = .returned (.bool true) ∧ Ext W W') :
    ReturnsInHanded {} C os f .any (s.pre6 enc C.prog fn [] false) (s.post enc C.prog fn false true false false) := by
  refine returnsInHanded_of_change_sized own started noInit hfn witness ?_
  intro W base args ds gs before hval hW _ hsz _
  have hW0 := hW
  obtain ⟨p, q, hA, hV, rfl, hfz, hnd⟩ := hW
  rw [hv] at hV
  obtain ⟨rfl, rfl⟩ : gs = [] ∧ q = [] := by
    cases gs with
    | nil => exact ⟨rfl, hV⟩
    | cons => exact hV.elim
  have hlen := trodAll_len hA
  have hvt : s.plain.varTypes C.prog = [] := by simp [DataSpec.varTypes, ChangeSpec.plain, hv]
  rw [hvt] at hsz
  simp only [List.append_nil] at hsz hW0
  refine (contract W base args ds p hval hA hsz).mono fun e W' ⟨he, hb⟩ => ⟨_, he, ?_⟩
  obtain ⟨h1, h2, h3⟩ := hs ds hlen
  obtain ⟨tb, htb⟩ : ∃ tb, fn.resultTypes = #[tb] := by
    have := congrArg List.length hres
    match hr : fn.resultTypes, this with
    | ⟨[tb]⟩, _ => exact ⟨tb, rfl⟩
  have hub : C.prog.underlying tb = some .bool := by rw [htb] at hres; simpa using hres
  refine ⟨ds, [], p, [], p, [], by rw [hv]; simpa [hv] using hW0, ?_, ?_, ?_, hb.frame _, fun h => by cases h⟩
  · rw [List.append_nil, h1, htb]
    exact trodAll_mk1 (shut_bool hub true)
  · rw [List.append_nil, h2]
    exact trodAll_below hl hb hread hA (fun x hx => by simpa using hW0.lt x hx)
  · rw [List.append_nil, h3, hv]
    rfl
end Go.Proofs.Ytempfaefopfobaa
