/- Schema: the types of a schema as data (GS), how they lie in memory as they come in (RepGS) and as the package's own (RepS); opening what came in. -/
import Derived.Test.YtempfaefopfobaaAppend
import Derived.Test.YtempfaefopfobaaTree

namespace Go.Proofs.Ytempfaefopfobaa
open Go.ChangeShapes Go.WideShapes Go.ChangeAt Go.RowKit
set_option linter.unusedVariables false
set_option linter.unusedSimpArgs false

/-- a part of a schema -/
inductive GS where
  | ref (named : Bool) (name : ByteArray) (atom : GS) (rel : ByteArray)
  | atom (sc : ByteArray) (lists maps : List GS)
  | lst (elem : GS) (rel : ByteArray) (keys : List ByteArray)
  | mp (fields : List GS) (elem : GS) (rel : ByteArray)
  | fld (name : ByteArray) (type : GS) (dft : List GV)
def GS.tag : GS → Nat | .ref .. => 1 | .atom .. => 2 | .lst .. => 3 | .mp .. => 4 | .fld .. => 5

/-- values of a slice, at every index: plain -/
def SlAt (S : Nat → Prop) (w : World) (k : Nat) (a : Option Addr) (b o len cap : Nat) : Prop :=
  len ≤ cap ∧ (0 < len → a = some ⟨b, o, none⟩ ∧ S b) ∧ ∀ i, i < len → ∃ cs, cs.length = k ∧ cellsAt w b (o + i * k) cs
theorem SlAt.mono {S S' : Nat → Prop} {w w' : World} (h : Same S w w') (hS : ∀ b, S b → b < w.heap.size → S' b) {k : Nat} (hk : 0 < k) {a : Option Addr} {b o len cap : Nat} (hs : SlAt S w k a b o len cap) : SlAt S' w' k a b o len cap := by
  obtain ⟨h1, h2, h3⟩ := hs
  refine ⟨h1, fun h0 => ⟨(h2 h0).1, hS _ (h2 h0).2 ?_⟩, fun i hi => ?_⟩
  · obtain ⟨cs, h4, h5⟩ := h3 0 h0
    exact World.block_lt_of_cell? w _ (h5 0 _ (List.getElem?_eq_getElem (by omega)))
  · obtain ⟨cs, h4, h5⟩ := h3 i hi
    exact ⟨cs, h4, fun j v hv => h.cell (h2 (by omega)).2 (h5 j v hv)⟩
theorem SlAt.back {S : Nat → Prop} {w w' : World} (h : Same S w w') {k : Nat} {a : Option Addr} {b o len cap : Nat} (hs : SlAt S w k a b o len cap) {i : Nat} (hi : i < len) {cs : List Value} (hl : cs.length = k) (hc : cellsAt w' b (o + i * k) cs) : cellsAt w b (o + i * k) cs := by
  obtain ⟨h1, h2, h3⟩ := hs
  obtain ⟨cs', h4, h5⟩ := h3 i hi
  have h6 : cellsAt w' b (o + i * k) cs' := fun j v hv => h.cell (h2 (by omega)).2 (h5 j v hv)
  obtain rfl := cellsAt_unique hc h6 (hl.trans h4.symm)
  exact h5

inductive RepGS (S : Nat → Prop) (w : World) : GS → List Value → Prop
  | ref {nm : Bool} {name rel : ByteArray} {a : GS} {c0 c1 c2 : Value} (h1 : name.size ≤ 140737488351232) (h2 : rel.size ≤ 140737488351232) (ht : a.tag = 2) (ha : RepGS S w a [c0, c1, c2]) : RepGS S w (.ref nm name a rel) [.bool nm, .string name, c0, c1, c2, .string rel]
  | atom {sc : ByteArray} {ls ms : List GS} {la ma : Option Addr} {lb lo lc mb mo mc : Nat} (h1 : sc.size ≤ 140737488351232)
      (hL : SlAt S w 8 la lb lo ls.length lc) (hlt : ∀ g ∈ ls, g.tag = 3) (hl : ∀ (i : Nat) (g : GS) (cs : List Value), ls[i]? = some g → cs.length = 8 → cellsAt w lb (lo + i * 8) cs → RepGS S w g cs)
      (hM : SlAt S w 8 ma mb mo ms.length mc) (hmt : ∀ g ∈ ms, g.tag = 4) (hm : ∀ (i : Nat) (g : GS) (cs : List Value), ms[i]? = some g → cs.length = 8 → cellsAt w mb (mo + i * 8) cs → RepGS S w g cs) :
      RepGS S w (.atom sc ls ms) [.string sc, .slice la ls.length lc, .slice ma ms.length mc]
  | lst {e : GS} {rel : ByteArray} {keys : List ByteArray} {kv c0 c1 c2 c3 c4 c5 : Value} (h1 : rel.size ≤ 140737488351232) (ht : e.tag = 1) (he : RepGS S w e [c0, c1, c2, c3, c4, c5]) (hks : RepStrs S w kv keys) :
      RepGS S w (.lst e rel keys) [c0, c1, c2, c3, c4, c5, .string rel, kv]
  | mp {fs : List GS} {e : GS} {rel : ByteArray} {fa : Option Addr} {fb fo fc : Nat} {c0 c1 c2 c3 c4 c5 : Value} (h1 : rel.size ≤ 140737488351232) (ht : e.tag = 1) (he : RepGS S w e [c0, c1, c2, c3, c4, c5])
      (hb : fs.length * 144 ≤ 140737488351232) (hF : SlAt S w 8 fa fb fo fs.length fc) (hft : ∀ g ∈ fs, g.tag = 5) (hf : ∀ (i : Nat) (g : GS) (cs : List Value), fs[i]? = some g → cs.length = 8 → cellsAt w fb (fo + i * 8) cs → RepGS S w g cs) :
      RepGS S w (.mp fs e rel) [.slice fa fs.length fc, c0, c1, c2, c3, c4, c5, .string rel]
  | fld {name : ByteArray} {t : GS} {ds : List GV} {c0 c1 c2 c3 c4 c5 : Value} {da : Option Addr} {db dO dc : Nat} (h1 : name.size ≤ 140737488351232) (ht : t.tag = 1) (he : RepGS S w t [c0, c1, c2, c3, c4, c5])
      (hD : SlAt S w 6 da db dO ds.length dc) (hd : ∀ (i : Nat) (g : GV) (cs : List Value), ds[i]? = some g → cs.length = 6 → cellsAt w db (dO + i * 6) cs → RepGV S w g cs) :
      RepGS S w (.fld name t ds) [.string name, c0, c1, c2, c3, c4, c5, .slice da ds.length dc]

theorem RepGS.mono {S S' : Nat → Prop} {w w' : World} (h : Same S w w') (hS : ∀ b, S b → b < w.heap.size → S' b) {g : GS} {cs : List Value} (hr : RepGS S w g cs) : RepGS S' w' g cs := by
  induction hr with
  | ref h1 h2 ht ha ih => exact .ref h1 h2 ht ih
  | atom h1 hL hlt hl hM hmt hm ihl ihm =>
    exact .atom h1 (hL.mono h hS (by omega)) hlt (fun i g cs hg hlen hc => ihl i g cs hg hlen (hL.back h (List.getElem?_eq_some_iff.1 hg).1 hlen hc)) (hM.mono h hS (by omega)) hmt
      (fun i g cs hg hlen hc => ihm i g cs hg hlen (hM.back h (List.getElem?_eq_some_iff.1 hg).1 hlen hc))
  | lst h1 ht he hks ih => exact .lst h1 ht ih (hks.mono h hS)
  | mp h1 ht he hb hF hft hf ihe ihf => exact .mp h1 ht ihe hb (hF.mono h hS (by omega)) hft (fun i g cs hg hlen hc => ihf i g cs hg hlen (hF.back h (List.getElem?_eq_some_iff.1 hg).1 hlen hc))
  | fld h1 ht he hD hd ihe => exact .fld h1 ht ihe (hD.mono h hS (by omega)) (fun i g cs hg hlen hc => (hd i g cs hg hlen (hD.back h (List.getElem?_eq_some_iff.1 hg).1 hlen hc)).mono h hS)
theorem RepGS.ext {S : Nat → Prop} {w w' : World} (h : Ext w w') {g : GS} {cs : List Value} (hr : RepGS S w g cs) : RepGS S w' g cs := hr.mono (h.same S) (fun _ h _ => h)

/-! ### the package's own -/
/-- a pointer to a string, or none if it is empty -/
def StrP (S : Nat → Prop) (w : World) (T : TypeId) (s : ByteArray) (v : Value) : Prop := (s.size = 0 ∧ v = .pointer none) ∨ (s.size ≠ 0 ∧ ∃ b, v = .pointer (some ⟨b, 0, none⟩) ∧ S b ∧ w.heap[b]? = some (.cells #[.string s] T))
theorem StrP.mono {S S' : Nat → Prop} {w w' : World} (h : Same S w w') (hS : ∀ b, S b → b < w.heap.size → S' b) {T : TypeId} {s : ByteArray} {v : Value} (hr : StrP S w T s v) : StrP S' w' T s v := by
  rcases hr with h1 | ⟨h1, b, h2, h3, h4⟩
  · exact .inl h1
  · exact .inr ⟨h1, b, h2, hS b h3 (Array.getElem?_eq_some_iff.1 h4).1, h b _ h3 h4⟩
theorem StrP.form {S : Nat → Prop} {w : World} {T : TypeId} {s : ByteArray} {v : Value} (hr : StrP S w T s v) : ∃ p, v = .pointer p := by
  rcases hr with ⟨_, rfl⟩ | ⟨_, b, rfl, _⟩ <;> exact ⟨_, rfl⟩

inductive RepS (S : Nat → Prop) (w : World) : GS → List Value → Prop
  | refN {name rel : ByteArray} {a : GS} {nb : Nat} {rp : Value} (hN : S nb) (hn : w.heap[nb]? = some (.cells #[.string name] 9)) (h1 : name.size ≤ 140737488351232) (h2 : rel.size ≤ 140737488351232) (hr : StrP S w 127 rel rp) :
      RepS S w (.ref true name a rel) [.pointer (some ⟨nb, 0, none⟩), .pointer none, .pointer none, .pointer none, rp, .bool false]
  | refA {name rel : ByteArray} {a : GS} {c0 c1 c2 rp : Value} (ht : a.tag = 2) (ha : RepS S w a [c0, c1, c2]) (h2 : rel.size ≤ 140737488351232) (hr : StrP S w 127 rel rp) :
      RepS S w (.ref false name a rel) [.pointer none, c0, c1, c2, rp, .bool false]
  | atom {sc : ByteArray} {ls ms : List GS} {sp lp mp : Value} {lb mb : Nat} {lcs mcs : List Value} (h1 : sc.size ≤ 140737488351232) (hs : StrP S w 189 sc sp)
      (hl0 : lp = if ls.length = 0 then .pointer none else .pointer (some ⟨lb, 0, none⟩)) (hlb : 0 < ls.length → S lb ∧ w.heap[lb]? = some (.cells lcs.toArray 129)) (hl : ∀ (g : GS), ls[0]? = some g → g.tag = 3 → RepS S w g lcs)
      (hm0 : mp = if ms.length = 0 then .pointer none else .pointer (some ⟨mb, 0, none⟩)) (hmb : 0 < ms.length → S mb ∧ w.heap[mb]? = some (.cells mcs.toArray 195)) (hm : ∀ (g : GS), ms[0]? = some g → g.tag = 4 → RepS S w g mcs) :
      RepS S w (.atom sc ls ms) [sp, lp, mp]
  | lst {e : GS} {rel : ByteArray} {keys : List ByteArray} {kv c0 c1 c2 c3 c4 c5 : Value} (h1 : rel.size ≤ 140737488351232) (ht : e.tag = 1) (he : RepS S w e [c0, c1, c2, c3, c4, c5]) (hks : RepStrs S w kv keys) :
      RepS S w (.lst e rel keys) [c0, c1, c2, c3, c4, c5, .string rel, kv]
  | mp {fs : List GS} {e : GS} {rel : ByteArray} {fa : Option Addr} {fb fo fc : Nat} {c0 c1 c2 c3 c4 c5 : Value} (h1 : rel.size ≤ 140737488351232) (ht : e.tag = 1) (he : RepS S w e [c0, c1, c2, c3, c4, c5])
      (hn : (fs.length = 0 → fa = none) ∧ fs.length * 144 ≤ 140737488351232) (hF : SlAt S w 8 fa fb fo fs.length fc) (hft : ∀ g ∈ fs, g.tag = 5) (hf : ∀ (i : Nat) (g : GS) (cs : List Value), fs[i]? = some g → cs.length = 8 → cellsAt w fb (fo + i * 8) cs → RepS S w g cs) :
      RepS S w (.mp fs e rel) [.slice fa fs.length fc, .slice none 0 0, c0, c1, c2, c3, c4, c5, .string rel]
  | fld {name : ByteArray} {t : GS} {ds : List GV} {c0 c1 c2 c3 c4 c5 x : Value} (h1 : name.size ≤ 140737488351232) (ht : t.tag = 1) (he : RepS S w t [c0, c1, c2, c3, c4, c5]) (hd : RepT S w ((ds[0]?).elim .null plainT) x) :
      RepS S w (.fld name t ds) [.string name, c0, c1, c2, c3, c4, c5, x]
theorem RepS.mono {S S' : Nat → Prop} {w w' : World} (h : Same S w w') (hS : ∀ b, S b → b < w.heap.size → S' b) {g : GS} {cs : List Value} (hr : RepS S w g cs) : RepS S' w' g cs := by
  have hb : ∀ {b o}, S b → w.heap[b]? = some o → S' b ∧ w'.heap[b]? = some o := fun h1 h2 => ⟨hS _ h1 (Array.getElem?_eq_some_iff.1 h2).1, h _ _ h1 h2⟩
  induction hr with
  | refN hN hn h1 h2 hr => exact .refN (hb hN hn).1 (hb hN hn).2 h1 h2 (hr.mono h hS)
  | refA ht ha h2 hr ih => exact .refA ht ih h2 (hr.mono h hS)
  | atom h1 hs hl0 hlb hl hm0 hmb hm ihl ihm => exact .atom h1 (hs.mono h hS) hl0 (fun h0 => hb (hlb h0).1 (hlb h0).2) (fun g hg ht => ihl g hg ht) hm0 (fun h0 => hb (hmb h0).1 (hmb h0).2) (fun g hg ht => ihm g hg ht)
  | lst h1 ht he hks ih => exact .lst h1 ht ih (hks.mono h hS)
  | mp h1 ht he hn hF hft hf ihe ihf => exact .mp h1 ht ihe hn (hF.mono h hS (by omega)) hft (fun i g cs hg hlen hc => ihf i g cs hg hlen (hF.back h (List.getElem?_eq_some_iff.1 hg).1 hlen hc))
  | fld h1 ht he hd ih => exact .fld h1 ht ih (hd.mono h hS)
theorem RepS.ext {S : Nat → Prop} {w w' : World} (h : Ext w w') {g : GS} {cs : List Value} (hr : RepS S w g cs) : RepS S w' g cs := hr.mono (h.same S) (fun _ h _ => h)
theorem RepS.weak {S S' : Nat → Prop} {w : World} (hS : ∀ b, S b → b < w.heap.size → S' b) {g : GS} {cs : List Value} (hr : RepS S w g cs) : RepS S' w g cs := hr.mono (Same.refl S w) hS

/-! ### opening what came in -/
section
variable {H : Type} {enc : TypeId × Value → H} {w : World} {base : Nat} {spare : Nat → Bool} {held : Bool}
theorem pick {α : Type} [Inhabited α] {n : Nat} {P : Nat → α → Prop} (h : ∀ i, i < n → ∃ x, P i x) : ∃ l : List α, l.length = n ∧ ∀ i x, l[i]? = some x → P i x := by
  obtain ⟨f, hf⟩ := Deep.choose_lt (α := α) h
  refine ⟨(List.range n).map f, by simp, fun i x hx => ?_⟩
  simp only [List.getElem?_map, Option.map_eq_some_iff] at hx
  obtain ⟨j, hj, rfl⟩ := hx
  obtain ⟨h1, h2⟩ := List.getElem?_eq_some_iff.1 hj
  simp at h1 h2
  subst h2
  exact hf i h1
theorem sl_pick {α : Type} [Inhabited α] {k : Nat} {R : α → List Value → Prop} {a : Option Addr} {b o len cap : Nat} (hl : len ≤ cap) (ha : 0 < len → a = some ⟨b, o, none⟩)
    (h : ∀ i, i < len → ∃ x, ∃ cs', cs'.length = k ∧ cellsAt w b (o + i * k) cs' ∧ R x cs') :
    ∃ l : List α, l.length = len ∧ SlAt Any w k a b o len cap ∧ (∀ x ∈ l, ∃ cs, R x cs) ∧ ∀ (i : Nat) (x : α) (cs : List Value), l[i]? = some x → cs.length = k → cellsAt w b (o + i * k) cs → R x cs := by
  obtain ⟨l, hlen, hp⟩ := pick h
  refine ⟨l, hlen, ⟨hl, fun h0 => ⟨ha h0, trivial⟩, fun i hi => ?_⟩, fun x hx => ?_, fun i x cs hx hcs hc => ?_⟩
  · obtain ⟨x, hx⟩ : ∃ x, l[i]? = some x := ⟨_, List.getElem?_eq_getElem (by omega)⟩
    obtain ⟨cs, h1, h2, _⟩ := hp i x hx
    exact ⟨cs, h1, h2⟩
  · obtain ⟨i, hi⟩ := List.mem_iff_getElem?.1 hx
    obtain ⟨cs, _, _, h3⟩ := hp i x hi
    exact ⟨cs, h3⟩
  · obtain ⟨cs', h1, h2, h3⟩ := hp i x hx
    obtain rfl := cellsAt_unique hc h2 (hcs.trans h1.symm)
    exact h3
def OpenAt (enc : TypeId × Value → H) (w : World) (base : Nat) (spare : Nat → Bool) (held : Bool) (tag : Nat) (ty : TypeId) (fuel : Nat) : Prop :=
  ∀ (cs : List Value) (x : DataW H × List MemPlace), DataW.trod enc Try.prog w base spare held fuel ty cs = some x → Wt Try.prog ty x.1 → ∃ g : GS, g.tag = tag ∧ RepGS Any w g cs
theorem cells_bool : Try.prog.cellsOf 4 = 1 := by kernel_rfl
theorem cellsRef : Try.prog.cellsOf 55 = 6 := by kernel_rfl
theorem cellsAtom : Try.prog.cellsOf 53 = 3 := by kernel_rfl
theorem cellsList : Try.prog.cellsOf 57 = 8 := by kernel_rfl
theorem cellsMap : Try.prog.cellsOf 153 = 8 := by kernel_rfl
theorem cellsFld : Try.prog.cellsOf 156 = 8 := by kernel_rfl
theorem cellsLists : Try.prog.cellsOf 50 = 1 := by kernel_rfl
theorem cellsMaps : Try.prog.cellsOf 51 = 1 := by kernel_rfl
theorem cellsFlds : Try.prog.cellsOf 151 = 1 := by kernel_rfl
theorem bytesFld : Try.prog.bytesOf 156 = 144 := by kernel_rfl
instance : Inhabited GS := ⟨.atom ByteArray.empty [] []⟩
instance : Inhabited GV := ⟨.mk 0 0 0 ByteArray.empty [] []⟩
set_option maxRecDepth 100000 in
set_option maxHeartbeats 1000000 in
theorem open_gs : ∀ (fuel : Nat), OpenAt enc w base spare held 1 55 fuel ∧ OpenAt enc w base spare held 2 53 fuel ∧ OpenAt enc w base spare held 3 57 fuel ∧ OpenAt enc w base spare held 4 153 fuel ∧ OpenAt enc w base spare held 5 156 fuel := by
  intro fuel
  induction fuel using Nat.strongRecOn with
  | ind fuel ih =>
    refine ⟨?_, ?_, ?_, ?_, ?_⟩
    · intro cs x h hw
      obtain ⟨n, rfl, hlen, hf⟩ := open_field Try.underlying55 h hw
      rw [cellsRef] at hlen
      obtain ⟨c0, c1, c2, c3, c4, c5, rfl⟩ : ∃ c0 c1 c2 c3 c4 c5, cs = [c0, c1, c2, c3, c4, c5] := by
        match cs, hlen with
        | [c0, c1, c2, c3, c4, c5], _ => exact ⟨c0, c1, c2, c3, c4, c5, rfl⟩
      obtain ⟨y0, h0, _⟩ := hf 0 4 0 rfl
      obtain ⟨y1, h1, w1⟩ := hf 1 9 1 rfl
      obtain ⟨y2, h2, w2⟩ := hf 2 53 2 rfl
      obtain ⟨y3, h3, w3⟩ := hf 3 9 5 rfl
      simp only [cells_bool, cellsStr, cellsAtom, List.drop, List.take] at h0 h1 h2 h3
      obtain ⟨b, e0, _⟩ := DataW.trod_bool Try.underlying4 h0
      obtain ⟨s, e1, hs⟩ := open_str Try.underlying9 h1 w1
      obtain ⟨s', e3, hs'⟩ := open_str Try.underlying9 h3 w3
      obtain ⟨g, hg, hr⟩ := (ih n (by omega)).2.1 _ _ h2 w2
      simp only [List.cons.injEq, and_true] at e0 e1 e3
      subst e0 e1 e3
      exact ⟨.ref b s g s', rfl, .ref hs hs' hg hr⟩
    · intro cs x h hw
      obtain ⟨n, rfl, hlen, hf⟩ := open_field Try.underlying53 h hw
      rw [cellsAtom] at hlen
      obtain ⟨c0, c1, c2, rfl⟩ : ∃ c0 c1 c2, cs = [c0, c1, c2] := by
        match cs, hlen with
        | [c0, c1, c2], _ => exact ⟨c0, c1, c2, rfl⟩
      obtain ⟨y0, h0, w0⟩ := hf 0 9 0 rfl
      obtain ⟨y1, h1, w1⟩ := hf 1 50 1 rfl
      obtain ⟨y2, h2, w2⟩ := hf 2 51 2 rfl
      simp only [cellsStr, cellsLists, cellsMaps, List.drop, List.take] at h0 h1 h2
      obtain ⟨s, e0, hs⟩ := open_str Try.underlying9 h0 w0
      obtain ⟨a, b, o, len, cap, e1, hl, hb, ha, hel⟩ := open_sl Try.underlying50 (by rw [cellsList]; omega) h1 w1
      obtain ⟨a', b', o', len', cap', e2, hl', hb', ha', hel'⟩ := open_sl Try.underlying51 (by rw [cellsMap]; omega) h2 w2
      rw [cellsList] at hel
      rw [cellsMap] at hel'
      simp only [List.cons.injEq, and_true] at e0 e1 e2
      subst e0 e1 e2
      obtain ⟨l, rfl, hS, ht, hR⟩ := sl_pick (k := 8) (R := fun (g : GS) cs => g.tag = 3 ∧ RepGS Any w g cs) hl ha (fun i hi => by
        obtain ⟨n', cs', y, hn', h6, h7, h8, h9⟩ := hel i hi
        obtain ⟨g, hg, hr⟩ := (ih n' (by omega)).2.2.1 _ _ h8 h9
        exact ⟨g, cs', h6, h7, hg, hr⟩)
      obtain ⟨l', rfl, hS', ht', hR'⟩ := sl_pick (k := 8) (R := fun (g : GS) cs => g.tag = 4 ∧ RepGS Any w g cs) hl' ha' (fun i hi => by
        obtain ⟨n', cs', y, hn', h6, h7, h8, h9⟩ := hel' i hi
        obtain ⟨g, hg, hr⟩ := (ih n' (by omega)).2.2.2.1 _ _ h8 h9
        exact ⟨g, cs', h6, h7, hg, hr⟩)
      exact ⟨.atom s l l', rfl, .atom hs hS (fun g hg => (ht g hg).elim fun _ h => h.1) (fun i g cs h1 h2 h3 => (hR i g cs h1 h2 h3).2) hS' (fun g hg => (ht' g hg).elim fun _ h => h.1) (fun i g cs h1 h2 h3 => (hR' i g cs h1 h2 h3).2)⟩
    · intro cs x h hw
      obtain ⟨n, rfl, hlen, hf⟩ := open_field Try.underlying57 h hw
      rw [cellsList] at hlen
      obtain ⟨c0, c1, c2, c3, c4, c5, c6, c7, rfl⟩ : ∃ c0 c1 c2 c3 c4 c5 c6 c7, cs = [c0, c1, c2, c3, c4, c5, c6, c7] := by
        match cs, hlen with
        | [c0, c1, c2, c3, c4, c5, c6, c7], _ => exact ⟨c0, c1, c2, c3, c4, c5, c6, c7, rfl⟩
      obtain ⟨y0, h0, w0⟩ := hf 0 55 0 rfl
      obtain ⟨y1, h1, w1⟩ := hf 1 9 6 rfl
      obtain ⟨y2, h2, w2⟩ := hf 2 26 7 rfl
      simp only [cellsStr, cellsRef, cells_strs, List.drop, List.take] at h0 h1 h2
      obtain ⟨s, e1, hs⟩ := open_str Try.underlying9 h1 w1
      obtain ⟨kv, ks, e2, hks⟩ := open_strs Try.underlying26 Try.underlying9 cellsStr bytesStr h2 w2
      obtain ⟨g, hg, hr⟩ := (ih n (by omega)).1 _ _ h0 w0
      simp only [List.cons.injEq, and_true] at e1 e2
      subst e1 e2
      exact ⟨.lst g s ks, rfl, .lst hs hg hr hks⟩
    · intro cs x h hw
      obtain ⟨n, rfl, hlen, hf⟩ := open_field Try.underlying153 h hw
      rw [cellsMap] at hlen
      obtain ⟨c0, c1, c2, c3, c4, c5, c6, c7, rfl⟩ : ∃ c0 c1 c2 c3 c4 c5 c6 c7, cs = [c0, c1, c2, c3, c4, c5, c6, c7] := by
        match cs, hlen with
        | [c0, c1, c2, c3, c4, c5, c6, c7], _ => exact ⟨c0, c1, c2, c3, c4, c5, c6, c7, rfl⟩
      obtain ⟨y0, h0, w0⟩ := hf 0 151 0 rfl
      obtain ⟨y1, h1, w1⟩ := hf 1 55 1 rfl
      obtain ⟨y2, h2, w2⟩ := hf 2 9 7 rfl
      simp only [cellsStr, cellsRef, cellsFlds, List.drop, List.take] at h0 h1 h2
      obtain ⟨a, b, o, len, cap, e0, hl, hb, ha, hel⟩ := open_sl Try.underlying151 (by rw [cellsFld]; omega) h0 w0
      rw [bytesFld] at hb
      rw [cellsFld] at hel
      obtain ⟨s, e2, hs⟩ := open_str Try.underlying9 h2 w2
      obtain ⟨g, hg, hr⟩ := (ih n (by omega)).1 _ _ h1 w1
      simp only [List.cons.injEq, and_true] at e0 e2
      subst e0 e2
      obtain ⟨l, rfl, hS, ht, hR⟩ := sl_pick (k := 8) (R := fun (g : GS) cs => g.tag = 5 ∧ RepGS Any w g cs) hl ha (fun i hi => by
        obtain ⟨n', cs', y, hn', h6, h7, h8, h9⟩ := hel i hi
        obtain ⟨g, hg, hr⟩ := (ih n' (by omega)).2.2.2.2 _ _ h8 h9
        exact ⟨g, cs', h6, h7, hg, hr⟩)
      exact ⟨.mp l g s, rfl, .mp hs hg hr hb hS (fun g hg => (ht g hg).elim fun _ h => h.1) (fun i g cs h1 h2 h3 => (hR i g cs h1 h2 h3).2)⟩
    · intro cs x h hw
      obtain ⟨n, rfl, hlen, hf⟩ := open_field Try.underlying156 h hw
      rw [cellsFld] at hlen
      obtain ⟨c0, c1, c2, c3, c4, c5, c6, c7, rfl⟩ : ∃ c0 c1 c2 c3 c4 c5 c6 c7, cs = [c0, c1, c2, c3, c4, c5, c6, c7] := by
        match cs, hlen with
        | [c0, c1, c2, c3, c4, c5, c6, c7], _ => exact ⟨c0, c1, c2, c3, c4, c5, c6, c7, rfl⟩
      obtain ⟨y0, h0, w0⟩ := hf 0 9 0 rfl
      obtain ⟨y1, h1, w1⟩ := hf 1 55 1 rfl
      obtain ⟨y2, h2, w2⟩ := hf 2 27 7 rfl
      simp only [cellsStr, cellsRef, cells_vals, List.drop, List.take] at h0 h1 h2
      obtain ⟨s, e0, hs⟩ := open_str Try.underlying9 h0 w0
      obtain ⟨a, b, o, len, cap, e2, hl, hb, ha, hel⟩ := open_sl Try.underlying27 (by rw [cellsV]; omega) h2 w2
      rw [cellsV] at hel
      obtain ⟨g, hg, hr⟩ := (ih n (by omega)).1 _ _ h1 w1
      simp only [List.cons.injEq, and_true] at e0 e2
      subst e0 e2
      obtain ⟨l, rfl, hS, ht, hR⟩ := sl_pick (k := 6) (R := RepGV Any w) hl ha (fun i hi => by
        obtain ⟨n', cs', y, hn', h6, h7, h8, h9⟩ := hel i hi
        obtain ⟨v, hv⟩ := open_gv n' cs' y h8 h9
        exact ⟨v, cs', h6, h7, hv⟩)
      exact ⟨.fld s g l, rfl, .fld hs hg hr hS hR⟩
end
end Go.Proofs.Ytempfaefopfobaa
