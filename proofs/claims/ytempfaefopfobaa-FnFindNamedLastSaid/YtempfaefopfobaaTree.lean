/- Tree: how the package's trees lie in memory (RepT), maps with string keys: update, look-up; conversions of values to trees as plain functions. -/
import Derived.Test.YtempfaefopfobaaData
import Derived.Maps.RangeRun

namespace Go.Proofs.Ytempfaefopfobaa
open Go.ChangeShapes Go.WideShapes Go.ChangeAt Go.RowKit
open Go.ChangeMaps (setBlock heap_setBlock_same heap_setBlock_other)
set_option linter.unusedVariables false
set_option linter.unusedSimpArgs false

def insKV : List (ByteArray × Tree) → ByteArray → Tree → List (ByteArray × Tree)
  | [], k, t => [(k, t)]
  | p :: m, k, t => if p.1 = k then (k, t) :: m else p :: insKV m k t
def lookKV : List (ByteArray × Tree) → ByteArray → Option Tree
  | [], _ => none
  | p :: m, k => if p.1 = k then some p.2 else lookKV m k

mutual
def plainT : GV → Tree
  | .mk k n f s ks l =>
    if k = 1 then .bool (n != 0) else if k = 2 then .int n else if k = 3 then .flt f else if k = 4 then .str s
    else if k = 5 then .list (plainTs l) else if k = 6 then .map (foldKV (ks.zip (plainTs l)) []) else .null
def plainTs : List GV → List Tree
  | [] => []
  | g :: l => plainT g :: plainTs l
/-- the fields one after the other into a map -/
def foldKV : List (ByteArray × Tree) → List (ByteArray × Tree) → List (ByteArray × Tree)
  | [], m => m
  | p :: r, m => foldKV r (insKV m p.1 p.2)
end
def plainMapT (g : GV) : List (ByteArray × Tree) := foldKV (g.keys.zip (plainTs g.l)) []
theorem plainTs_eq (l : List GV) : plainTs l = l.map plainT := by
  induction l with
  | nil => rfl
  | cons g l ih => simp [plainTs, ih]
theorem plainTs_length (l : List GV) : (plainTs l).length = l.length := by simp [plainTs_eq]
theorem plainTs_get {l : List GV} {j : Nat} {t : Tree} (h : (plainTs l)[j]? = some t) : ∃ g, l[j]? = some g ∧ t = plainT g := by
  rw [plainTs_eq, List.getElem?_map] at h
  obtain ⟨g, h1, h2⟩ := Option.map_eq_some_iff.1 h
  exact ⟨g, h1, h2.symm⟩
theorem foldKV_append (a b m : List (ByteArray × Tree)) : foldKV (a ++ b) m = foldKV b (foldKV a m) := by
  induction a generalizing m with
  | nil => rfl
  | cons p a ih => simp [foldKV, ih]

/-! ### in memory -/
inductive RepT (S : Nat → Prop) (w : World) : Tree → Value → Prop
  | null : RepT S w .null .nilIface
  | bool (b : Bool) : RepT S w (.bool b) (.iface 4 (.bool b))
  | int (n : Int) (hn : (Lit.int .i64 n).wf = true) : RepT S w (.int n) (.iface 2 (.int .i64 n))
  | flt (f : Nat) (hf : f < 2 ^ 64) : RepT S w (.flt f) (.iface 30 (.float .f64 f))
  | str (s : ByteArray) (hs : s.size ≤ 140737488351232) : RepT S w (.str s) (.iface 9 (.string s))
  | list {l : List Tree} {a : Option Addr} {b o cap : Nat} (hle : l.length ≤ cap) (hsz : l.length * 88 ≤ 140737488351232) (ha : 0 < l.length → a = some ⟨b, o, none⟩ ∧ S b)
      (hc : ∀ i, i < l.length → ∃ v, w.cell? ⟨b, o + i, none⟩ = some v)
      (hl : ∀ (i : Nat) (t : Tree) (v : Value), l[i]? = some t → w.cell? ⟨b, o + i, none⟩ = some v → RepT S w t v) : RepT S w (.list l) (.iface 82 (.slice a l.length cap))
  | map {m : List (ByteArray × Tree)} {r : Nat} {es : Array MapEntry} {clock : Nat} (hr : w.heap[r]? = some (.map es clock)) (hS : S r) (hk : es.toList.map (·.key) = m.map fun p => Value.string p.1)
      (hsz : m.length * 88 ≤ 140737488351232) (hks : ∀ p ∈ m, p.1.size ≤ 140737488351232) (hnd : (m.map (·.1)).Nodup) (hb : es.toList.Pairwise fun x y => x.born < y.born) (hcl : ∀ x ∈ es.toList, x.born < clock)
      (hv : ∀ (i : Nat) (p : ByteArray × Tree) (e : MapEntry), m[i]? = some p → es[i]? = some e → RepT S w p.2 e.val) : RepT S w (.map m) (.iface 159 (.map (some r)))
theorem RepT.form {S : Nat → Prop} {w : World} {t : Tree} {v : Value} (h : RepT S w t v) : v = .nilIface ∨ ∃ ty x, v = .iface ty x := by
  cases h <;> first | exact .inl rfl | exact .inr ⟨_, _, rfl⟩
/-- block r of w is a map that reads as m -/
def RepM (S : Nat → Prop) (w : World) (m : List (ByteArray × Tree)) (r : Nat) : Prop :=
  ∃ es clock, w.heap[r]? = some (.map es clock) ∧ es.toList.map (·.key) = m.map (fun p => Value.string p.1) ∧ m.length * 88 ≤ 140737488351232 ∧ (∀ p ∈ m, p.1.size ≤ 140737488351232) ∧ (m.map (·.1)).Nodup ∧
    es.toList.Pairwise (fun x y => x.born < y.born) ∧ (∀ x ∈ es.toList, x.born < clock) ∧ ∀ (i : Nat) (p : ByteArray × Tree) (e : MapEntry), m[i]? = some p → es[i]? = some e → RepT S w p.2 e.val
theorem RepM.toT {S : Nat → Prop} {w : World} {m : List (ByteArray × Tree)} {r : Nat} (h : RepM S w m r) (hS : S r) : RepT S w (.map m) (.iface 159 (.map (some r))) := by
  obtain ⟨es, clock, h1, h2, h3, h4, h5, h6, h7, h8⟩ := h
  exact .map h1 hS h2 h3 h4 h5 h6 h7 h8
theorem RepT.toM {S : Nat → Prop} {w : World} {m : List (ByteArray × Tree)} {v : Value} (h : RepT S w (.map m) v) : ∃ r, v = .iface 159 (.map (some r)) ∧ S r ∧ RepM S w m r := by
  cases h with
  | map hr hS hk hsz hks hnd hb hcl hv => exact ⟨_, rfl, hS, _, _, hr, hk, hsz, hks, hnd, hb, hcl, hv⟩

theorem RepT.mono {S S' : Nat → Prop} {w w' : World} (h : Same S w w') (hS : ∀ b, S b → b < w.heap.size → S' b) {t : Tree} {v : Value} (hr : RepT S w t v) : RepT S' w' t v := by
  induction hr with
  | null => exact .null
  | bool b => exact .bool b
  | int n hn => exact .int n hn
  | flt f hf => exact .flt f hf
  | str s hs => exact .str s hs
  | @list l a b o cap hle hsz ha hc hl ih =>
    refine .list hle hsz (fun h0 => ⟨(ha h0).1, hS _ (ha h0).2 ?_⟩) (fun i hi => ?_) (fun i t v ht hv => ?_)
    · obtain ⟨v, hv⟩ := hc 0 h0
      exact World.block_lt_of_cell? w _ hv
    · obtain ⟨v, hv⟩ := hc i hi
      exact ⟨v, h.cell (ha (by omega)).2 hv⟩
    · have hi : i < l.length := (List.getElem?_eq_some_iff.1 ht).1
      obtain ⟨v', hv'⟩ := hc i hi
      have hv2 := h.cell (ha (by omega)).2 hv'
      rw [hv] at hv2
      cases hv2
      exact ih i t v ht hv'
  | map hr hS' hk hsz hks hnd hb hcl hv ih => exact .map (h _ _ hS' hr) (hS _ hS' (Array.getElem?_eq_some_iff.1 hr).1) hk hsz hks hnd hb hcl fun i p e hp he => ih i p e hp he
theorem RepT.ext {S : Nat → Prop} {w w' : World} (h : Ext w w') {t : Tree} {v : Value} (hr : RepT S w t v) : RepT S w' t v := hr.mono (h.same S) (fun _ h _ => h)
theorem RepT.weak {S S' : Nat → Prop} {w : World} (hS : ∀ b, S b → b < w.heap.size → S' b) {t : Tree} {v : Value} (hr : RepT S w t v) : RepT S' w t v := hr.mono (fun _ _ _ h => h) hS
theorem RepT.lt {S : Nat → Prop} {w : World} {t : Tree} {v : Value} (hr : RepT S w t v) : RepT (fun b => S b ∧ b < w.heap.size) w t v := hr.weak fun b h1 h2 => ⟨h1, h2⟩
theorem RepM.mono {S S' : Nat → Prop} {w w' : World} (h : Same S w w') (hS : ∀ b, S b → b < w.heap.size → S' b) {m : List (ByteArray × Tree)} {r : Nat} (hr : RepM S w m r) (hb : w'.heap[r]? = w.heap[r]?) : RepM S' w' m r := by
  obtain ⟨es, clock, h1, h2, h3, h4, h5, h6, h7, h8⟩ := hr
  exact ⟨es, clock, hb.trans h1, h2, h3, h4, h5, h6, h7, fun i p e hp he => (h8 i p e hp he).mono h hS⟩
theorem RepM.ext {S : Nat → Prop} {w w' : World} (h : Ext w w') {m : List (ByteArray × Tree)} {r : Nat} (hr : RepM S w m r) : RepM S w' m r := by
  have h0 := hr
  obtain ⟨es, clock, h1, _⟩ := h0
  exact hr.mono (h.same S) (fun _ h _ => h) ((h.block h1).trans h1.symm)

/-! ### the fields of a map -/
theorem findNow_m (k : ByteArray) : ∀ (m : List (ByteArray × Tree)) (es : List MapEntry) (i : Nat), es.map (·.key) = m.map (fun p => Value.string p.1) →
    (lookKV m k = none ∧ (∀ p ∈ m, p.1 ≠ k) ∧ Instr.findNow .string (.string k) es i = some none) ∨
    ∃ j e t, es[j]? = some e ∧ m[j]? = some (k, t) ∧ lookKV m k = some t ∧ Instr.findNow .string (.string k) es i = some (some (i + j, e.val)) ∧ ∀ t', insKV m k t' = m.set j (k, t')
  | [], [], i, _ => .inl ⟨rfl, by simp, rfl⟩
  | p :: m, e :: es, i, h => by
    simp only [List.map_cons, List.cons.injEq] at h
    by_cases hp : p.1 = k
    · right
      refine ⟨0, e, p.2, rfl, by simp [← hp], by simp [lookKV, hp], ?_, by simp [insKV, hp]⟩
      simp [Instr.findNow, Instr.sameNow, h.1, hp]
    · have hne : (k == p.1) = false := by rw [beq_eq_false_iff_ne]; exact fun e => hp e.symm
      rcases findNow_m k m es (i + 1) h.2 with ⟨h1, h2, h3⟩ | ⟨j, e', t, h1, h2, h3, h4, h5⟩
      · left
        refine ⟨by simp [lookKV, hp, h1], by simp [hp]; exact fun a b hab => h2 _ hab, ?_⟩
        simp [Instr.findNow, Instr.sameNow, h.1, hne, h3]
      · right
        refine ⟨j + 1, e', t, h1, h2, by simp [lookKV, hp, h3], ?_, fun t' => by simp [insKV, hp, h5]⟩
        simp only [Instr.findNow, Instr.sameNow, h.1, hne]
        rw [h4]
        simp; omega
  | [], _ :: _, _, h => by simp at h
  | _ :: _, [], _, h => by simp at h
theorem RepT.list_row {S S' : Nat → Prop} {w : World} {base g k cap : Nat} {xs : List Value} {l : List Tree} (hown : w.ownsRow base 20 1 (.slice (some ⟨g, 0, none⟩) k cap) k xs) (hk : k = l.length)
    (hX : ∀ (j : Nat) (t : Tree) (x : Value), l[j]? = some t → xs[j]? = some x → RepT S' w t x) (hS : ∀ b, S' b → b < w.heap.size → S b) (hg : S g) (hsz : k * 88 ≤ 140737488351232) :
    RepT S w (.list l) (.iface 82 (.slice (some ⟨g, 0, none⟩) k cap)) := by
  subst hk
  have hl := hown.1
  have hc := hown.cells (g := g) rfl
  have hle : l.length ≤ cap := by
    rcases hown.2 with ⟨h, _⟩ | ⟨g', cap', cur, h, _, _, h1, _⟩
    · cases h
    · cases h; exact h1
  have hcell : ∀ i, i < l.length → ∃ v, xs[i]? = some v ∧ w.cell? ⟨g, 0 + i, none⟩ = some v := by
    intro i hi
    refine ⟨xs[i], List.getElem?_eq_getElem (by omega), ?_⟩
    have := hc i _ (List.getElem?_eq_getElem (show i < xs.length by omega))
    rwa [addr_add rfl] at this
  refine .list (b := g) (o := 0) hle hsz (fun _ => ⟨rfl, hg⟩) (fun i hi => ?_) (fun i t v ht hv => ?_)
  · obtain ⟨v, _, h⟩ := hcell i hi
    exact ⟨v, h⟩
  · obtain ⟨v', h1, h2⟩ := hcell i (List.getElem?_eq_some_iff.1 ht).1
    rw [hv] at h2; cases h2
    exact (hX i t v ht h1).weak hS
theorem insKV_new (k : ByteArray) (t : Tree) : ∀ (m : List (ByteArray × Tree)), (∀ p ∈ m, p.1 ≠ k) → insKV m k t = m ++ [(k, t)]
  | [], _ => rfl
  | p :: m, h => by
    rw [insKV, if_neg (h p (by simp)), insKV_new k t m fun q hq => h q (by simp [hq])]
    rfl
theorem insKV_length (k : ByteArray) (t : Tree) (m : List (ByteArray × Tree)) : m.length ≤ (insKV m k t).length ∧ (insKV m k t).length ≤ m.length + 1 := by
  induction m with
  | nil => simp [insKV]
  | cons p m ih =>
    unfold insKV
    split <;> simp <;> omega
theorem foldKV_length (l m : List (ByteArray × Tree)) : (foldKV l m).length ≤ m.length + l.length := by
  induction l generalizing m with
  | nil => simp [foldKV]
  | cons p l ih =>
    have := ih (insKV m p.1 p.2)
    have := (insKV_length p.1 p.2 m).2
    simp [foldKV]; omega
section
variable {P : Program} {S : Nat → Prop} {w : World} {m : List (ByteArray × Tree)} {r : Nat} {T K E : TypeId}
theorem run_checkKey_str (b : Bool) (n : Nat) (hK : P.underlying K = some .string) (k : Value) (w : World) : (Instr.checkKey b (n + 1) K k).run P w = .ok () w := by
  unfold Instr.checkKey
  simp only [Sem.run_bind, run_und hK, Result.andThen_ok]
  cases k <;> rfl
theorem run_findKey_str {o : Option (Nat × Value)} {es : List MapEntry} {k : Value} (hK : P.underlying K = some .string) (h : Instr.findNow .string k es 0 = some o) (w : World) : (Instr.findKey K k es).run P w = .ok o w := by
  unfold Instr.findKey
  simp only [Sem.run_bind, run_und hK, Result.andThen_ok, h, Sem.run_pure]
/-- m[k] = v -/
theorem RepM.update (hT : P.underlying T = some (.map K E)) (hK : P.underlying K = some .string) (h : RepM S w m r) (hSr : ¬ S r) {k : ByteArray} {t : Tree} {v : Value} (ht : RepT S w t v) (hsz : (m.length + 1) * 88 ≤ 140737488351232) (hks : k.size ≤ 140737488351232) :
    ∃ w', (Instr.mapUpdate T (.map (some r)) (.string k) v).run P w = .ok () w' ∧ RepM S w' (insKV m k t) r ∧ w.grownBy w' (some r) := by
  obtain ⟨es, clock, h1, h2, h3, h4, h5, h6, h7, h8⟩ := h
  have hrlt := (Array.getElem?_eq_some_iff.1 h1).1
  have hgo : ∀ o, w.grownBy (setBlock w r o) (some r) := fun o => ⟨rfl, rfl, rfl, by simp [setBlock], fun i _ hi => heap_setBlock_other h1 _ (fun e => hi (by rw [e]))⟩
  have hsame : ∀ o, Same S w (setBlock w r o) := fun o b ob hb hob => (heap_setBlock_other h1 _ (fun e => hSr (e ▸ hb))).trans hob
  have hset : ∀ o, (setObj r o).run P w = .ok () (setBlock w r o) := fun o => by simp [setObj, Sem.run, h1, setBlock]
  have hlen : es.toList.length = m.length := by have := congrArg List.length h2; simpa using this
  rcases findNow_m k m es.toList 0 h2 with ⟨hl, hne, hf⟩ | ⟨j, e, t0, he, hm, hl, hf, hins⟩
  · refine ⟨setBlock w r (.map (es.push ⟨.string k, v, clock⟩) (clock + 1)), ?_, ?_, hgo _⟩
    · simp only [Instr.mapUpdate, Sem.run_bind, run_und hT, Result.andThen_ok, getObj, Sem.run, h1, run_checkKey_str false 9999 hK, run_findKey_str hK hf, hset]
    · rw [insKV_new k t m hne]
      refine ⟨_, _, heap_setBlock_same h1 _, by simp [h2], by simpa using hsz, ?_, ?_, ?_, ?_, ?_⟩
      · intro p hp
        rcases List.mem_append.1 hp with hp | hp
        · exact h4 p hp
        · simp at hp; subst hp; exact hks
      · rw [List.map_append, List.nodup_append]
        refine ⟨h5, by simp, ?_⟩
        intro a ha b hb
        simp at hb
        obtain ⟨p, hp, rfl⟩ := List.mem_map.1 ha
        subst hb
        exact hne p hp
      · simp only [Array.toList_push, List.pairwise_append]
        exact ⟨h6, by simp, fun x hx y hy => by simp at hy; subst hy; exact h7 x hx⟩
      · intro x hx
        simp only [Array.toList_push, List.mem_append, List.mem_singleton] at hx
        rcases hx with hx | rfl
        · have := h7 x hx; omega
        · simp
      · intro i p e hp he
        by_cases hi : i < m.length
        · rw [List.getElem?_append_left hi] at hp
          rw [Array.getElem?_push] at he
          rw [if_neg (by simp at hlen; omega)] at he
          exact (h8 i p e hp he).mono (hsame _) (fun _ h _ => h)
        · have hi' : i = m.length := by
            have := (List.getElem?_eq_some_iff.1 hp).1
            simp at this; omega
          subst hi'
          simp at hp
          rw [Array.getElem?_push, if_pos (by simp at hlen; omega)] at he
          cases he
          subst hp
          exact ht.mono (hsame _) (fun _ h _ => h)
  · have hj : j < m.length := (List.getElem?_eq_some_iff.1 hm).1
    have hje : es[j]? = some e := by simpa using he
    have hkey : e.key = .string k := by
      have e1 : (es.toList.map (·.key))[j]? = some e.key := by simp [hje]
      rw [h2] at e1
      simp [hm] at e1
      exact e1.symm
    refine ⟨setBlock w r (.map (es.modify j fun e => { e with key := .string k, val := v }) clock), ?_, ?_, hgo _⟩
    · have hkts : (Instr.keyThatStays (((es[j]?).map (·.key)).getD (.string k)) (.string k)).run P w = .ok (.string k) w := by
        simp [hje, hkey, Instr.keyThatStays, Instr.sameBits]
      simp only [Nat.zero_add] at hf
      simp only [Instr.mapUpdate, Sem.run_bind, run_und hT, Result.andThen_ok, getObj, Sem.run, h1, run_checkKey_str false 9999 hK, run_findKey_str hK hf, hkts, hset]
    · rw [hins]
      have hmod : ∀ i e', (es.modify j fun e => { e with key := .string k, val := v })[i]? = some e' → (i ≠ j ∧ es[i]? = some e') ∨ (i = j ∧ e' = { e with key := .string k, val := v }) := by
        intro i e' h
        rw [Array.getElem?_modify] at h
        by_cases hij : j = i
        · subst hij; right; simp [hje] at h; exact ⟨rfl, h.symm⟩
        · left; rw [if_neg hij] at h; exact ⟨fun h => hij h.symm, h⟩
      refine ⟨_, _, heap_setBlock_same h1 _, ?_, by simpa using h3, ?_, ?_, ?_, ?_, ?_⟩
      · apply List.ext_getElem?
        intro i
        have h2i : (es.toList.map (·.key))[i]? = (m.map fun p => Value.string p.1)[i]? := by rw [h2]
        simp only [List.getElem?_map, Array.getElem?_toList, Array.getElem?_modify, List.getElem?_set] at h2i ⊢
        by_cases hij : j = i
        · subst hij
          simp [hje, hj]
        · simp [hij, h2i]
      · intro p hp
        rcases List.mem_or_eq_of_mem_set hp with hp | rfl
        · exact h4 p hp
        · exact hks
      · have : (m.set j (k, t)).map (·.1) = m.map (·.1) := by
          apply List.ext_getElem?
          intro i
          simp only [List.getElem?_map, List.getElem?_set]
          by_cases hij : j = i
          · subst hij; simp [hj, (List.getElem?_eq_some_iff.1 hm).2]
          · simp [hij]
        rw [this]; exact h5
      · rw [List.pairwise_iff_getElem] at h6 ⊢
        intro i1 i2 hi1 hi2 hlt
        simp only [Array.getElem_toList, Array.getElem_modify, Array.length_toList, Array.size_modify] at hi1 hi2 ⊢
        have := h6 i1 i2 (by simpa using hi1) (by simpa using hi2) hlt
        simp only [Array.getElem_toList] at this
        (repeat' split) <;> simpa using this
      · intro x hx
        obtain ⟨i, hi⟩ := List.mem_iff_getElem?.1 hx
        rw [Array.getElem?_toList] at hi
        rcases hmod i x hi with ⟨_, hx'⟩ | ⟨_, rfl⟩
        · exact h7 x (by rw [Array.mem_toList_iff]; exact Array.mem_of_getElem? hx')
        · exact h7 e (by rw [Array.mem_toList_iff]; exact Array.mem_of_getElem? hje)
      · intro i p e' hp he'
        rw [List.getElem?_set] at hp
        rcases hmod i e' he' with ⟨hij, hx'⟩ | ⟨rfl, rfl⟩
        · rw [if_neg (fun h => hij h.symm)] at hp
          exact (h8 i p e' hp hx').mono (hsame _) (fun _ h _ => h)
        · simp [hj] at hp
          subst hp
          exact ht.mono (hsame _) (fun _ h _ => h)
/-- v, ok := m[k] -/
theorem RepM.look (hT : P.underlying T = some (.map K E)) (hK : P.underlying K = some .string) (hE : (zeroValue E).run P w = .ok .nilIface w) (h : RepM S w m r) (k : ByteArray) :
    (lookKV m k = none ∧ (Instr.lookup T (.map (some r)) (.string k) true).run P w = .ok (.tuple #[.nilIface, .bool false]) w ∧ (Instr.lookup T (.map (some r)) (.string k) false).run P w = .ok .nilIface w) ∨
    ∃ t v, lookKV m k = some t ∧ RepT S w t v ∧ (Instr.lookup T (.map (some r)) (.string k) true).run P w = .ok (.tuple #[v, .bool true]) w ∧ (Instr.lookup T (.map (some r)) (.string k) false).run P w = .ok v w := by
  obtain ⟨es, clock, h1, h2, h3, h4, h5, h6, h7, h8⟩ := h
  rcases findNow_m k m es.toList 0 h2 with ⟨hl, hne, hf⟩ | ⟨j, e, t0, he, hm, hl, hf, hins⟩
  · left
    refine ⟨hl, ?_, ?_⟩ <;> simp only [Instr.lookup, Sem.run_bind, run_und hT, Result.andThen_ok, getObj, Sem.run, Sem.run_pure, Sem.run_pure', h1, run_checkKey_str _ 9999 hK, run_findKey_str hK hf, hE, if_true, Bool.false_eq_true, if_false]
  · right
    refine ⟨t0, e.val, hl, h8 j _ e hm (by simpa using he), ?_, ?_⟩ <;> simp only [Instr.lookup, Sem.run_bind, run_und hT, Result.andThen_ok, getObj, Sem.run, Sem.run_pure, Sem.run_pure', h1, run_checkKey_str _ 9999 hK, run_findKey_str hK hf, if_true, Bool.false_eq_true, if_false]
theorem RepM.new (S : Nat → Prop) (w : World) : RepM S (w.alloc (.map #[] 0)) [] w.heap.size :=
  ⟨#[], 0, (MapKept.heap_alloc w _).1, by simp, by simp, by simp, by simp, by simp, by simp, by simp⟩
/-- m[k] = v, at the operation -/
theorem wpList_mapUpdate_M {ops : Array Oper} {rest : List Oper} {o : Oper} {a : Act} {Q : Exit → Act → World → Prop}
    (hg : o.guard = none) (mo x v : Operand) (hop : o.op = Op.mapUpdate T mo x v) (hT : P.underlying T = some (.map K E)) (hK : P.underlying K = some .string)
    (hm : a.eval mo = .map (some r)) {k : ByteArray} (hx : a.eval x = .string k) {val : Value} (hv : a.eval v = val) {t : Tree}
    (h : RepM S w m r) (hSr : ¬ S r) (ht : RepT S w t val) (hsz : (m.length + 1) * 88 ≤ 140737488351232) (hks : k.size ≤ 140737488351232)
    (hK' : ∀ w', RepM S w' (insKV m k t) r → w.grownBy w' (some r) → wpList P ops Q rest (a.put o.dst undef) w') :
    wpList P ops Q (o :: rest) a w := by
  refine wpList_plain hg fun K' hK2 => ?_
  obtain ⟨w', hrun, r1, r2⟩ := h.update hT hK hSr ht hsz hks
  unfold Oper.wp
  simp [execOp, hop, hm, hx, hv, hrun, Result.andThen]
  exact hK2 _ _ (hK' w' r1 r2)
end
end Go.Proofs.Ytempfaefopfobaa
