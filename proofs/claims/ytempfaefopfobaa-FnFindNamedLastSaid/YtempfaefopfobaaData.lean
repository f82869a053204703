/- Data: what lies in memory, as plain Lean data: the values that come in (GV), the trees that the package takes for objects (Tree). -/
import Derived.Test.YtempfaefopfobaaBase
import Derived.Deep.Slices

namespace Go.Proofs.Ytempfaefopfobaa
open Go.ChangeShapes Go.WideShapes Go.ChangeAt Go.RowKit
set_option linter.unusedVariables false
set_option linter.unusedSimpArgs false

/-- impl.Value -/
inductive GV where
  | mk (kind n : Int) (f : Nat) (s : ByteArray) (keys : List ByteArray) (l : List GV)
/-- what lies behind an 'any' of the package -/
inductive Tree where
  | null | bool (b : Bool) | int (n : Int) | flt (f : Nat) | str (s : ByteArray)
  | list (l : List Tree) | map (m : List (ByteArray × Tree))

def GV.kind : GV → Int | .mk k _ _ _ _ _ => k
def GV.n : GV → Int | .mk _ n _ _ _ _ => n
def GV.f : GV → Nat | .mk _ _ f _ _ _ => f
def GV.s : GV → ByteArray | .mk _ _ _ s _ _ => s
def GV.keys : GV → List ByteArray | .mk _ _ _ _ ks _ => ks
def GV.l : GV → List GV | .mk _ _ _ _ _ l => l

theorem sizeOf_of_getElem? {α : Type} [SizeOf α] {l : List α} {i : Nat} {x : α} (h : l[i]? = some x) : SizeOf.sizeOf x < SizeOf.sizeOf l :=
  List.sizeOf_lt_of_mem (List.mem_of_getElem? h)
theorem GV.size_mk (k n : Int) (f : Nat) (s : ByteArray) (ks : List ByteArray) (l : List GV) {i : Nat} {g : GV} (h : l[i]? = some g) : SizeOf.sizeOf g < SizeOf.sizeOf (GV.mk k n f s ks l) := by
  have := sizeOf_of_getElem? h
  simp; omega

theorem GV.size_l {g : GV} {i : Nat} {x : GV} (h : g.l[i]? = some x) : SizeOf.sizeOf x < SizeOf.sizeOf g := by
  cases g
  exact GV.size_mk _ _ _ _ _ _ h

def cellsAt (w : World) (b o : Nat) (cs : List Value) : Prop := ∀ j v, cs[j]? = some v → w.cell? ⟨b, o + j, none⟩ = some v

def RepStrs (S : Nat → Prop) (w : World) (v : Value) (ss : List ByteArray) : Prop :=
  ∃ (a : Option Addr) (b o cap : Nat), v = .slice a ss.length cap ∧ ss.length ≤ cap ∧ ss.length * 16 ≤ 140737488351232 ∧ (0 < ss.length → a = some ⟨b, o, none⟩ ∧ S b) ∧
    (∀ i s, ss[i]? = some s → w.cell? ⟨b, o + i, none⟩ = some (.string s)) ∧ (∀ s ∈ ss, s.size ≤ 140737488351232)

inductive RepGV (S : Nat → Prop) (w : World) : GV → List Value → Prop
  | mk {k n : Int} {f : Nat} {s : ByteArray} {keys : List ByteArray} {l : List GV} {kv : Value} {la : Option Addr} {lb lo lc : Nat}
      (hk : (Lit.int .i64 k).wf = true) (hn : (Lit.int .i64 n).wf = true) (hf : f < 2 ^ 64) (hs : s.size ≤ 140737488351232) (hks : RepStrs S w kv keys)
      (hle : l.length ≤ lc) (hsz : l.length * 88 ≤ 140737488351232) (ha : 0 < l.length → la = some ⟨lb, lo, none⟩ ∧ S lb)
      (hcs : ∀ i, i < l.length → ∃ cs, cs.length = 6 ∧ cellsAt w lb (lo + i * 6) cs)
      (hl : ∀ i g cs, l[i]? = some g → cs.length = 6 → cellsAt w lb (lo + i * 6) cs → RepGV S w g cs) :
      RepGV S w (.mk k n f s keys l) [.int .i64 k, .int .i64 n, .float .f64 f, .string s, kv, .slice la l.length lc]

theorem RepGV.form {S : Nat → Prop} {w : World} {g : GV} {cs : List Value} (h : RepGV S w g cs) : ∃ k n f s a b c a' b' c', cs = [.int .i64 k, .int .i64 n, .float .f64 f, .string s, .slice a b c, .slice a' b' c'] := by
  cases h with
  | mk hk hn hf hs hks hle hsz ha hcs hl =>
    obtain ⟨a, b, o, cap, rfl, _⟩ := hks
    exact ⟨_, _, _, _, _, _, _, _, _, _, rfl⟩
theorem cells6 {w : World} {b o : Nat} {c0 c1 c2 c3 c4 c5 : Value} (h : cellsAt w b o [c0, c1, c2, c3, c4, c5]) :
    w.cell? ⟨b, o, none⟩ = some c0 ∧ w.cell? ⟨b, o + 1, none⟩ = some c1 ∧ w.cell? ⟨b, o + 2, none⟩ = some c2 ∧ w.cell? ⟨b, o + 3, none⟩ = some c3 ∧ w.cell? ⟨b, o + 4, none⟩ = some c4 ∧ w.cell? ⟨b, o + 5, none⟩ = some c5 :=
  ⟨by simpa using h 0 c0 rfl, h 1 _ rfl, h 2 _ rfl, h 3 _ rfl, h 4 _ rfl, h 5 _ rfl⟩
theorem cellsAt_unique {w : World} {b o : Nat} {cs cs' : List Value} (h : cellsAt w b o cs) (h' : cellsAt w b o cs') (hl : cs.length = cs'.length) : cs = cs' := by
  apply List.ext_getElem? 
  intro i
  by_cases hi : i < cs.length
  · have e1 := h i _ (List.getElem?_eq_getElem hi)
    have e2 := h' i _ (List.getElem?_eq_getElem (hl ▸ hi))
    rw [e1] at e2
    rw [List.getElem?_eq_getElem hi, List.getElem?_eq_getElem (hl ▸ hi)]
    exact e2
  · rw [List.getElem?_eq_none (by omega), List.getElem?_eq_none (by omega)]

/-! ### in later worlds -/
theorem cellsAt_ext {w w' : World} (h : Ext w w') {b o : Nat} {cs : List Value} (hc : cellsAt w b o cs) : cellsAt w' b o cs := fun j v hv => h.cellS (hc j v hv)
/-- The blocks of S are there in w' as in w. -/
def Same (S : Nat → Prop) (w w' : World) : Prop := ∀ b o, S b → w.heap[b]? = some o → w'.heap[b]? = some o
theorem Same.cell {S : Nat → Prop} {w w' : World} (h : Same S w w') {a : Addr} {v : Value} (hs : S a.block) (hc : w.cell? a = some v) : w'.cell? a = some v := by
  unfold World.cell? at hc ⊢
  cases hb : w.heap[a.block]? with
  | none => rw [hb] at hc; cases hc
  | some o => rw [hb] at hc; rw [h _ _ hs hb]; exact hc
theorem Same.trans {S : Nat → Prop} {a b c : World} (h : Same S a b) (k : Same S b c) : Same S a c := fun i o hi ho => k i o hi (h i o hi ho)
theorem Same.refl (S : Nat → Prop) (w : World) : Same S w w := fun _ _ _ h => h
theorem Same.weak {S S' : Nat → Prop} {a b : World} (h : Same S a b) (hs : ∀ b, S' b → S b) : Same S' a b := fun i o hi ho => h i o (hs i hi) ho
theorem same_grownBy {S : Nat → Prop} {w w' : World} {row : Option Nat} (h : w.grownBy w' row) (hS : ∀ b, S b → some b ≠ row) : Same S w w' :=
  fun b o hb ho => (h.block b (Array.getElem?_eq_some_iff.1 ho).1 (hS b hb)).trans ho
theorem same_below {S : Nat → Prop} {B : Nat} {w w' : World} (h : Below B w w') (hS : ∀ b, S b → b < B) : Same S w w' :=
  fun b o hb ho => (h.block b (hS b hb)).trans ho
theorem Ext.same {w w' : World} (h : Ext w w') (S : Nat → Prop) : Same S w w' := fun b o _ ho => h.block ho
theorem RepStrs.mono {S S' : Nat → Prop} {w w' : World} (h : Same S w w') (hS : ∀ b, S b → b < w.heap.size → S' b) {v : Value} {ss : List ByteArray} : RepStrs S w v ss → RepStrs S' w' v ss := by
  rintro ⟨a, b, o, cap, h1, h2, h3, h4, h5, h6⟩
  have hpos : ∀ i s, ss[i]? = some s → 0 < ss.length := fun i s hs => by have := (List.getElem?_eq_some_iff.1 hs).1; omega
  refine ⟨a, b, o, cap, h1, h2, h3, fun h0 => ⟨(h4 h0).1, hS _ (h4 h0).2 ?_⟩, fun i s hs => h.cell (h4 (hpos i s hs)).2 (h5 i s hs), h6⟩
  exact World.block_lt_of_cell? w _ (h5 0 _ (List.getElem?_eq_getElem h0))
theorem RepGV.mono {S S' : Nat → Prop} {w w' : World} (h : Same S w w') (hS : ∀ b, S b → b < w.heap.size → S' b) {g : GV} {cs : List Value} (hr : RepGV S w g cs) : RepGV S' w' g cs := by
  induction hr with
  | @mk k n f s keys l kv la lb lo lc hk hn hf hs hks hle hsz ha hcs hl ih =>
    have hsame : ∀ {i cs}, i < l.length → cellsAt w lb (lo + i * 6) cs → cellsAt w' lb (lo + i * 6) cs := fun hi hc j v hv => h.cell (ha (by omega)).2 (hc j v hv)
    refine .mk hk hn hf hs (hks.mono h hS) hle hsz (fun h0 => ⟨(ha h0).1, hS _ (ha h0).2 ?_⟩) (fun i hi => ?_) (fun i g cs hg hlen hc => ?_)
    · obtain ⟨cs, h1, h2⟩ := hcs 0 h0
      exact World.block_lt_of_cell? w _ (h2 0 _ (List.getElem?_eq_getElem (by omega)))
    · obtain ⟨cs, h1, h2⟩ := hcs i hi
      exact ⟨cs, h1, hsame hi h2⟩
    · have hi := (List.getElem?_eq_some_iff.1 hg).1
      obtain ⟨cs', h1, h2⟩ := hcs i hi
      obtain rfl := cellsAt_unique hc (hsame hi h2) (hlen.trans h1.symm)
      exact ih i g cs hg hlen h2
theorem RepStrs.ext {S : Nat → Prop} {w w' : World} (h : Ext w w') {v : Value} {ss : List ByteArray} (hr : RepStrs S w v ss) : RepStrs S w' v ss := hr.mono (h.same S) (fun _ h _ => h)
theorem RepGV.ext {S : Nat → Prop} {w w' : World} (h : Ext w w') {g : GV} {cs : List Value} (hr : RepGV S w g cs) : RepGV S w' g cs := hr.mono (h.same S) (fun _ h _ => h)
theorem RepStrs.weak {S S' : Nat → Prop} {w : World} (hS : ∀ b, S b → b < w.heap.size → S' b) {v : Value} {ss : List ByteArray} (hr : RepStrs S w v ss) : RepStrs S' w v ss := hr.mono (Same.refl S w) hS
theorem RepGV.weak {S S' : Nat → Prop} {w : World} (hS : ∀ b, S b → b < w.heap.size → S' b) {g : GV} {cs : List Value} (hr : RepGV S w g cs) : RepGV S' w g cs := hr.mono (Same.refl S w) hS
/-- anywhere -/
def Any : Nat → Prop := fun _ => True

/-! ### opening what came in -/
section
variable {H : Type} {enc : TypeId × Value → H} {P : Program} {w : World} {base : Nat} {spare : Nat → Bool} {held : Bool}
def Wt (P : Program) (t : TypeId) (d : DataW H) : Prop := ∀ n ∈ d.weights P t, n ≤ 140737488351232

theorem addr_add {a : Addr} (h : a.spot = none) (i : Nat) : a.add i = ⟨a.block, a.off + i, none⟩ := by
  unfold Addr.add
  split
  · cases a; simp_all
  · simp
theorem cells?_spot {a : Addr} {n : Nat} {cs : List Value} (h : w.cells? base a n = some cs) (hn : 0 < n) : a.spot = none := by
  have h1 := (World.cells?_some h).2.2 0 hn
  simp only [Addr.add, if_true] at h1
  cases hs : a.spot with
  | none => rfl
  | some s =>
    have := (World.cells?_some h).2.1
    unfold World.cell? at h1
    rw [hs] at h1
    rw [List.getElem?_eq_getElem (by omega)] at h1
    split at h1 <;> simp at h1
theorem cells?_at {a : Addr} {n : Nat} {cs : List Value} (h : w.cells? base a n = some cs) (hn : 0 < n) : cs.length = n ∧ cellsAt w a.block a.off cs := by
  have hs := cells?_spot h hn
  obtain ⟨_, h1, h2⟩ := World.cells?_some h
  refine ⟨h1, fun j v hv => ?_⟩
  have hj := (List.getElem?_eq_some_iff.1 hv).1
  have := h2 j (by omega)
  rw [addr_add hs] at this
  rw [this]; exact hv
/-- A slice, opened at every index. -/
theorem open_sl {t e : TypeId} {fuel : Nat} {cs : List Value} {x : DataW H × List MemPlace} (ht : P.underlying t = some (.slice e)) (he : 0 < P.cellsOf e) (h : DataW.trod enc P w base spare held fuel t cs = some x) (hw : Wt P t x.1) :
    ∃ (a : Option Addr) (b o len cap : Nat), cs = [.slice a len cap] ∧ len ≤ cap ∧ len * P.bytesOf e ≤ 140737488351232 ∧ (0 < len → a = some ⟨b, o, none⟩) ∧
      ∀ i, i < len → ∃ n cs' y, fuel = n + 1 ∧ cs'.length = P.cellsOf e ∧ cellsAt w b (o + i * P.cellsOf e) cs' ∧ DataW.trod enc P w base spare held n e cs' = some y ∧ Wt P e y.1 := by
  rcases DataW.trod_slice ht h with ⟨rfl, rfl⟩ | ⟨a, len, cap, elems, rest, n, rfl, rfl, rfl, hb, hl, hm, hlen, hel, hsp, hns⟩
  · exact ⟨none, 0, 0, 0, 0, rfl, Nat.le_refl _, by simp, fun h => absurd h (by omega), fun i hi => absurd hi (by omega)⟩
  have key : ∀ i, i < len → ∃ cs' y, w.cells? base (a.add (i * P.cellsOf e)) (P.cellsOf e) = some cs' ∧ DataW.trod enc P w base spare held n e cs' = some y ∧ elems[i]? = some y := by
    intro i hi
    have h1 := hel i hi
    rw [List.getElem?_eq_getElem (by omega)] at h1
    obtain ⟨cs', h2, h3⟩ := Option.bind_eq_some_iff.1 h1
    exact ⟨cs', _, h2, h3, List.getElem?_eq_getElem (by omega)⟩
  have hspot : 0 < len → a.spot = none := by
    intro h0
    obtain ⟨cs', y, h1, _⟩ := key 0 h0
    have := cells?_spot h1 he
    simpa [Addr.add] using this
  refine ⟨some a, a.block, a.off, len, cap, rfl, hl, ?_, fun h0 => ?_, fun i hi => ?_⟩
  · have := hw ((elems.map (·.1)).length * P.bytesOf e + (rest.map (·.1)).length * P.bytesOf e) (by simp [DataW.weights, ht, Nat.add_mul])
    simp [hlen] at this
    omega
  · have := hspot h0
    cases a; simp_all
  · obtain ⟨cs', y, h1, h2, h3⟩ := key i hi
    have hs := hspot (by omega)
    rw [addr_add hs] at h1
    obtain ⟨h4, h5⟩ := cells?_at h1 he
    refine ⟨n, cs', y, rfl, h4, h5, h2, fun m hm => hw m ?_⟩
    have hmem : y.1 ∈ elems.map (·.1) := List.mem_map_of_mem (List.mem_of_getElem? h3)
    simp only [DataW.weights, ht]
    refine List.mem_cons_of_mem _ (List.mem_append_left _ ?_)
    clear hw hel key hsp hns h1 h2 h3 h4 h5
    revert hmem
    generalize elems.map (·.1) = ds
    intro hmem
    induction ds with
    | nil => simp at hmem
    | cons d r ih =>
      simp only [DataW.weightsAll, List.mem_append]
      rcases List.mem_cons.1 hmem with rfl | hr
      · exact .inl hm
      · exact .inr (ih hr)
theorem weightsEach_mem {ts : List TypeId} {ds : List (DataW H)} {j : Nat} {t : TypeId} {d : DataW H} (ht : ts[j]? = some t) (hd : ds[j]? = some d) (h : ∀ n ∈ DataW.weightsEach P ts ds, n ≤ 140737488351232) : Wt P t d :=
  fun n hn => h n (DataW.weights_mem_each ht hd n hn)
/-- A struct's field. -/
theorem open_field {t : TypeId} {fs : Array Field} {fuel : Nat} {cs : List Value} {x : DataW H × List MemPlace} (ht : P.underlying t = some (.struct fs)) (h : DataW.trod enc P w base spare held fuel t cs = some x) (hw : Wt P t x.1) :
    ∃ n, fuel = n + 1 ∧ cs.length = P.cellsOf t ∧ ∀ (i : Nat) (ft fo : Nat), (fs[i]?).map (fun f => (f.type, f.offset)) = some (ft, fo) → ∃ y, DataW.trod enc P w base spare held n ft ((cs.drop fo).take (P.cellsOf ft)) = some y ∧ Wt P ft y.1 := by
  obtain ⟨xs, n, rfl, rfl, h1, h2, h3⟩ := DataW.trod_struct ht h
  refine ⟨n, rfl, h1, fun i ft fo hf => ?_⟩
  obtain ⟨f, hf', e⟩ := Option.map_eq_some_iff.1 hf
  simp only [Prod.mk.injEq] at e
  obtain ⟨rfl, rfl⟩ := e
  have hi : i < fs.size := (Array.getElem?_eq_some_iff.1 hf').1
  have h4 := h3 i f hf'
  rw [List.getElem?_eq_getElem (by omega)] at h4
  refine ⟨_, h4, ?_⟩
  refine weightsEach_mem (ts := fs.toList.map (·.type)) (ds := xs.map (·.1)) (j := i) (by simp [hf']) (by simp [List.getElem?_eq_getElem (show i < xs.length by omega)]) ?_
  intro m hm
  exact hw m (by simp only [DataW.weights, ht]; exact hm)
theorem open_float {t : TypeId} {k : FloatKind} {fuel : Nat} {cs : List Value} {x : DataW H × List MemPlace} (ht : P.underlying t = some (.float k)) (h : DataW.trod enc P w base spare held fuel t cs = some x) : ∃ f, cs = [.float k f] ∧ (Lit.float k f).wf = true := by
  cases fuel with
  | zero => simp [DataW.trod] at h
  | succ n =>
    unfold DataW.trod at h
    rw [ht] at h
    split at h <;> simp_all
theorem open_str {t : TypeId} {fuel : Nat} {cs : List Value} {x : DataW H × List MemPlace} (ht : P.underlying t = some .string) (h : DataW.trod enc P w base spare held fuel t cs = some x) (hw : Wt P t x.1) : ∃ s : ByteArray, cs = [.string s] ∧ s.size ≤ 140737488351232 := by
  obtain ⟨s, rfl, rfl, _⟩ := DataW.trod_string ht h
  exact ⟨s, rfl, by have := hw s.data.toList.length (by simp [DataW.weights]); simpa using this⟩
theorem open_strs {t e : TypeId} {fuel : Nat} {cs : List Value} {x : DataW H × List MemPlace} (ht : P.underlying t = some (.slice e)) (he : P.underlying e = some .string) (h1 : P.cellsOf e = 1) (h16 : P.bytesOf e = 16)
    (h : DataW.trod enc P w base spare held fuel t cs = some x) (hw : Wt P t x.1) : ∃ v ss, cs = [v] ∧ RepStrs Any w v ss := by
  obtain ⟨a, b, o, len, cap, rfl, hl, hb, ha, hel⟩ := open_sl ht (by omega) h hw
  have key : ∀ i, i < len → ∃ s : ByteArray, w.cell? ⟨b, o + i, none⟩ = some (.string s) ∧ s.size ≤ 140737488351232 := by
    intro i hi
    obtain ⟨n, cs', y, _, h3, h4, h5, h6⟩ := hel i hi
    obtain ⟨s, rfl, hs⟩ := open_str he h5 h6
    exact ⟨s, by have := h4 0 (.string s) rfl; rwa [h1, Nat.mul_one, Nat.add_zero] at this, hs⟩
  obtain ⟨f, hf⟩ := Deep.choose_lt (α := ByteArray) key
  refine ⟨_, (List.range len).map f, rfl, a, b, o, cap, by simp, by simpa using hl, by simpa [h16] using hb, fun h0 => ⟨ha (by simpa using h0), trivial⟩, ?_, ?_⟩
  · intro i s hs
    simp only [List.getElem?_map, Option.map_eq_some_iff] at hs
    obtain ⟨j, hj, rfl⟩ := hs
    obtain ⟨hj1, hj2⟩ := List.getElem?_eq_some_iff.1 hj
    simp at hj1 hj2
    subst hj2
    exact (hf i hj1).1
  · intro s hs
    obtain ⟨j, hj, rfl⟩ := List.mem_map.1 hs
    exact (hf j (List.mem_range.1 hj)).2
end
section
variable {H : Type} {enc : TypeId × Value → H} {w : World} {base : Nat} {spare : Nat → Bool} {held : Bool}
theorem cellsV : Try.prog.cellsOf 32 = 6 := by kernel_rfl
theorem bytesV : Try.prog.bytesOf 32 = 88 := by kernel_rfl
theorem cellsStr : Try.prog.cellsOf 9 = 1 := by kernel_rfl
theorem bytesStr : Try.prog.bytesOf 9 = 16 := by kernel_rfl
theorem cells_int : Try.prog.cellsOf 3 = 1 := by kernel_rfl
theorem cells_int64 : Try.prog.cellsOf 2 = 1 := by kernel_rfl
theorem cells_f64 : Try.prog.cellsOf 30 = 1 := by kernel_rfl
theorem cells_strs : Try.prog.cellsOf 26 = 1 := by kernel_rfl
theorem cells_vals : Try.prog.cellsOf 27 = 1 := by kernel_rfl

set_option maxRecDepth 100000 in
/-- An impl.Value that came in. -/
theorem open_gv : ∀ (fuel : Nat) (cs : List Value) (x : DataW H × List MemPlace), DataW.trod enc Try.prog w base spare held fuel 32 cs = some x → Wt Try.prog 32 x.1 → ∃ g, RepGV Any w g cs := by
  intro fuel
  induction fuel using Nat.strongRecOn with
  | ind fuel ih =>
    intro cs x h hw
    obtain ⟨n, rfl, hlen, hf⟩ := open_field Try.underlying32 h hw
    rw [cellsV] at hlen
    obtain ⟨c0, c1, c2, c3, c4, c5, rfl⟩ : ∃ c0 c1 c2 c3 c4 c5, cs = [c0, c1, c2, c3, c4, c5] := by
      match cs, hlen with
      | [c0, c1, c2, c3, c4, c5], _ => exact ⟨c0, c1, c2, c3, c4, c5, rfl⟩
    obtain ⟨y0, h0, _⟩ := hf 0 3 0 rfl
    obtain ⟨y1, h1, _⟩ := hf 1 2 1 rfl
    obtain ⟨y2, h2, _⟩ := hf 2 30 2 rfl
    obtain ⟨y3, h3, w3⟩ := hf 3 9 3 rfl
    obtain ⟨y4, h4, w4⟩ := hf 4 26 4 rfl
    obtain ⟨y5, h5, w5⟩ := hf 5 27 5 rfl
    simp only [cells_int, cells_int64, cells_f64, cells_strs, cells_vals, cellsStr, List.drop, List.take] at h0 h1 h2 h3 h4 h5
    obtain ⟨k, e0, _, wk⟩ := DataW.trod_int Try.underlying3 h0
    obtain ⟨m, e1, _, wm⟩ := DataW.trod_int Try.underlying2 h1
    obtain ⟨f, e2, wf⟩ := open_float Try.underlying30 h2
    obtain ⟨s, e3, hs⟩ := open_str Try.underlying9 h3 w3
    obtain ⟨kv, ks, e4, hks⟩ := open_strs Try.underlying26 Try.underlying9 cellsStr bytesStr h4 w4
    obtain ⟨a, b, o, len, cap, e5, hl, hb, ha, hel⟩ := open_sl Try.underlying27 (by rw [cellsV]; omega) h5 w5
    rw [bytesV] at hb
    rw [cellsV] at hel
    simp only [List.cons.injEq, and_true] at e0 e1 e2 e3 e4 e5
    subst e0 e1 e2 e3 e4 e5
    have key : ∀ i, i < len → ∃ g, ∃ cs', cs'.length = 6 ∧ cellsAt w b (o + i * 6) cs' ∧ RepGV Any w g cs' := by
      intro i hi
      obtain ⟨n', cs', y, hn', h6, h7, h8, h9⟩ := hel i hi
      obtain ⟨g, hg⟩ := ih n' (by omega) cs' y h8 h9
      exact ⟨g, cs', h6, h7, hg⟩
    haveI : Inhabited GV := ⟨.mk 0 0 0 ByteArray.empty [] []⟩
    obtain ⟨fg, hfg⟩ := Deep.choose_lt (α := GV) key
    have hlen' : ((List.range len).map fg).length = len := by simp
    have hR := RepGV.mk (S := Any) (w := w) (l := (List.range len).map fg) (lc := cap) (la := a) (lb := b) (lo := o) wk wm (by simpa [Lit.wf] using wf) hs hks (by simpa using hl) (by simpa using hb) (fun h0 => ⟨ha (by simpa using h0), trivial⟩)
      (fun i hi => by
        obtain ⟨cs', h6, h7, _⟩ := hfg i (by simpa using hi)
        exact ⟨cs', h6, h7⟩)
      (fun i g cs' hg hlen hc => by
        simp only [List.getElem?_map, Option.map_eq_some_iff] at hg
        obtain ⟨j, hj, rfl⟩ := hg
        obtain ⟨hj1, hj2⟩ := List.getElem?_eq_some_iff.1 hj
        simp at hj1 hj2
        subst hj2
        obtain ⟨cs2, h6, h7, h8⟩ := hfg i hj1
        obtain rfl := cellsAt_unique hc h7 (hlen.trans h6.symm)
        exact h8)
    rw [hlen'] at hR
    exact ⟨_, hR⟩
end
end Go.Proofs.Ytempfaefopfobaa
