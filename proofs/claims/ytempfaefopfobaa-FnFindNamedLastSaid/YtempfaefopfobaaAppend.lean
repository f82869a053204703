/- Append: laws over whatever program: parts of slices; append of a part of a slice (nil, empty or not) onto a slice of the call's own, at a plain region's list and at a step of a region that draws its order. -/
import Derived.Test.YtempfaefopfobaaData
import Derived.Maps.AppendAt
import Derived.Deep.RegionLaw
import Derived.Deep.QuietTactic
import Derived.BigQuiet

namespace Go.Proofs.Ytempfaefopfobaa
open Go.ChangeShapes Go.WideShapes Go.ChangeAt Go.RowKit
set_option linter.unusedVariables false
set_option linter.unusedSimpArgs false

section
variable {P : Program}
theorem run_sizeOf' {e : TypeId} {i : TypeInfo} (hi : P.info? e = some i) (w : World) : (sizeOf e).run P w = .ok i.size w := by simp [sizeOf, typeInfo, hi]
/-- x[:i] -/
theorem run_slice_to {t e : TypeId} {info : TypeInfo} (ht : P.underlying t = some (.slice e)) (hi : P.info? e = some info) (a : Option Addr) (n c i : Nat) (h : i ≤ c) (w : World) :
    (Instr.slice t (.slice a n c) none (some (.int .i64 (i : Int))) none).run P w = .ok (.slice a i c) w := by
  have hb : (Instr.sliceBounds true n c none (some (.int .i64 (i : Int))) none).run P w = .ok (0, i, c) w := by
    have := run_sliceBound (P := P) (w := w) .i64 (i : Int) c .sliceAcap (by omega) (by omega)
    simp [Instr.sliceBounds, this]
  simp only [Instr.slice, Sem.run_bind, run_und ht, Result.andThen_ok, hb, run_sizeOf' hi, Sem.run_pure]
  congr 2
  · split
    · rfl
    · cases a <;> simp [Addr.add]
/-- x[i:] -/
theorem run_slice_from {t e : TypeId} {info : TypeInfo} (ht : P.underlying t = some (.slice e)) (hi : P.info? e = some info) (a : Option Addr) (n c i : Nat) (h : i ≤ n) (hc : n ≤ c) :
    ∃ ao, (∀ w, (Instr.slice t (.slice a n c) (some (.int .i64 (i : Int))) none none).run P w = .ok (.slice ao (n - i) (c - i)) w) ∧
      (∀ b o, a = some ⟨b, o, none⟩ → i < n → ao = some ⟨b, o + i * info.size, none⟩) ∧ (a = none → ao = none) := by
  refine ⟨if c = i then a else a.map (·.add (i * info.size)), fun w => ?_, ?_, ?_⟩
  · have hb : (Instr.sliceBounds true n c (some (.int .i64 (i : Int))) none none).run P w = .ok (i, n, c) w := by
      have := run_sliceBound (P := P) (w := w) .i64 (i : Int) n .sliceB (by omega) (by omega)
      simp [Instr.sliceBounds, this]
    simp only [Instr.slice, Sem.run_bind, run_und ht, Result.andThen_ok, hb, run_sizeOf' hi, Sem.run_pure]
  · rintro b o rfl hlt
    rw [if_neg (by omega)]
    simp [addr_add]
  · rintro rfl
    simp

/-- Where the cells that are appended lie: nowhere, if there are none. -/
def SrcAt (w : World) (ao : Option Addr) (m : Nat) (news : List Value) : Prop := (ao = none ∧ m = 0) ∨ ∃ ad, ao = some ad ∧ ∀ j u, news[j]? = some u → w.cell? (ad.add j) = some u

theorem run_append_none' (w : World) (base : Nat) (t ty e : TypeId) (i : TypeInfo) (size : Nat) (ht : P.underlying t = some (.slice e)) (hi : P.info? e = some i)
    (v : Value) (n : Nat) (xs : List Value) (hown : w.ownsRow base e size v n xs) (c : Nat) :
    (Builtin.append_ #[t, t] ty #[v, .slice none 0 c]).run P w = .ok v w := by
  rcases hown.2 with ⟨rfl, rfl⟩ | ⟨g, cap, cur, rfl, _, _, hnc, _⟩
  · simp [Builtin.append_, run_underlying ht, sizeOf, typeInfo, hi, Builtin.lenOf, Builtin.firstCells]
  · simp [Builtin.append_, run_underlying ht, sizeOf, typeInfo, hi, Builtin.lenOf, Builtin.firstCells, hnc, storeCells]
theorem run_append_src (w : World) (t ty : TypeId) (base : Nat) (e : TypeId) (i : TypeInfo) (z : Value) (size bytes : Nat) (ht : P.underlying t = some (.slice e)) (hi : P.info? e = some i) (hz : i.zero = some z)
    (hsize : i.size = size) (hby : i.bytes = bytes) (hzs : z.cells.size = size) (hsz : 0 < size)
    (v : Value) (n : Nat) (xs : List Value) (hown : w.ownsRow base e size v n xs)
    (ao : Option Addr) (m c : Nat) (news : List Value) (hl : news.length = m * size) (hsrc : SrcAt w ao m news) (h1 : ∀ u ∈ news, u.oneCell' = true)
    (h63 : n + m ≤ maxLen) (hbytes : (n + m) * bytes ≤ 140737488355328) (hbase : base ≤ w.heap.size) :
    ∃ a' c' w', (Builtin.append_ #[t, t] ty #[v, .slice ao m c]).run P w = .ok (.slice a' (n + m) c') w' ∧ w'.ownsRow base e size (.slice a' (n + m) c') (n + m) (xs ++ news) ∧ w.grownBy w' v.ownBlock ∧
      (a' = v.ownBlock.map (fun g => ⟨g, 0, none⟩) ∨ a' = some ⟨w.heap.size, 0, none⟩) := by
  have form : ∀ (v' : Value) (w' : World), w'.ownsRow base e size v' (n + m) (xs ++ news) → (v'.ownBlock = v.ownBlock ∨ v'.ownBlock = some w.heap.size) → ∃ a' c', v' = .slice a' (n + m) c' ∧ (a' = v.ownBlock.map (fun g => ⟨g, 0, none⟩) ∨ a' = some ⟨w.heap.size, 0, none⟩) := by
    intro v' w' ho hb
    rcases ho.2 with ⟨rfl, h0⟩ | ⟨g, cap, cur, rfl, _⟩
    · refine ⟨none, 0, by rw [h0], ?_⟩
      rcases hb with hb | hb
      · left; rw [← hb]; rfl
      · simp [Value.ownBlock] at hb
    · refine ⟨_, _, rfl, ?_⟩
      rcases hb with hb | hb
      · left; rw [← hb]; rfl
      · right; simp [Value.ownBlock] at hb; rw [hb]
  rcases hsrc with ⟨rfl, rfl⟩ | ⟨ad, rfl, hc⟩
  · have hn : news = [] := List.eq_nil_of_length_eq_zero (by simpa using hl)
    subst hn
    have hr := run_append_none' (P := P) w base t ty e i size ht hi v n xs hown c
    have ho : w.ownsRow base e size v (n + 0) (xs ++ []) := by simpa using hown
    obtain ⟨a', c', rfl, hb⟩ := form v w ho (.inl rfl)
    exact ⟨a', c', w, hr, ho, World.grownBy.refl _ _, hb⟩
  · obtain ⟨v', w', hr, ho, hg, _, hb⟩ := run_append_own_at (P := P) w base t ty e i z size bytes ht hi hz hsize hby hzs hsz v n xs hown ad m c news hl hc h1 h63 hbytes hbase
    obtain ⟨a', c', rfl, hb2⟩ := form v' w' ho hb
    exact ⟨a', c', w', hr, ho, hg, hb2⟩
theorem wp_append_src {o : Oper} {a : Act} {K : Act → World → Prop} {Q : Exit → Act → World → Prop} (w : World) (s x : Operand) (t : TypeId)
    (ho : o.op = .call { callee := .builtin .append, args := #[s, x], argTypes := #[t, t] })
    (base : Nat) (e : TypeId) (i : TypeInfo) (z : Value) (size bytes : Nat) (ht : P.underlying t = some (.slice e)) (hi : P.info? e = some i) (hz : i.zero = some z)
    (hsize : i.size = size) (hby : i.bytes = bytes) (hzs : z.cells.size = size) (hsz : 0 < size)
    (v : Value) (n : Nat) (xs : List Value) (hs : a.eval s = v) (hown : w.ownsRow base e size v n xs)
    (ao : Option Addr) (m c : Nat) (news : List Value) (hx : a.eval x = .slice ao m c) (hl : news.length = m * size) (hsrc : SrcAt w ao m news) (h1 : ∀ u ∈ news, u.oneCell' = true)
    (h63 : n + m ≤ maxLen) (hbytes : (n + m) * bytes ≤ 140737488355328) (hbase : base ≤ w.heap.size)
    (h : ∀ a' c' w', w'.ownsRow base e size (.slice a' (n + m) c') (n + m) (xs ++ news) → w.grownBy w' v.ownBlock → (a' = v.ownBlock.map (fun g => ⟨g, 0, none⟩) ∨ a' = some ⟨w.heap.size, 0, none⟩) → K (a.put o.dst (.slice a' (n + m) c')) w') : o.wp P a w K Q := by
  obtain ⟨a', c', w', hr, h2, h3, h4⟩ := run_append_src (P := P) w t o.type base e i z size bytes ht hi hz hsize hby hzs hsz v n xs hown ao m c news hl hsrc h1 h63 hbytes hbase
  unfold Oper.wp execOp
  simp only [ho, resolve, invoke, builtin, Sem.run_bind, Sem.run_pure, Result.andThen_ok, List.map_toArray, List.map_cons, List.map_nil, hs, hx, hr]
  exact h a' c' w' h2 h3 h4
/-- at a plain region's list -/
theorem wpList_append_src {ops : Array Oper} {rest : List Oper} {o : Oper} {a : Act} {Q : Exit → Act → World → Prop} (w : World) (hgd : o.guard = none) (s x : Operand) (t : TypeId)
    (ho : o.op = .call { callee := .builtin .append, args := #[s, x], argTypes := #[t, t] })
    (base : Nat) (e : TypeId) (i : TypeInfo) (z : Value) (size bytes : Nat) (ht : P.underlying t = some (.slice e)) (hi : P.info? e = some i) (hz : i.zero = some z)
    (hsize : i.size = size) (hby : i.bytes = bytes) (hzs : z.cells.size = size) (hsz : 0 < size)
    (v : Value) (n : Nat) (xs : List Value) (hs : a.eval s = v) (hown : w.ownsRow base e size v n xs)
    (ao : Option Addr) (m c : Nat) (news : List Value) (hx : a.eval x = .slice ao m c) (hl : news.length = m * size) (hsrc : SrcAt w ao m news) (h1 : ∀ u ∈ news, u.oneCell' = true)
    (h63 : n + m ≤ maxLen) (hbytes : (n + m) * bytes ≤ 140737488355328) (hbase : base ≤ w.heap.size)
    (h : ∀ a' c' w', w'.ownsRow base e size (.slice a' (n + m) c') (n + m) (xs ++ news) → w.grownBy w' v.ownBlock → (a' = v.ownBlock.map (fun g => ⟨g, 0, none⟩) ∨ a' = some ⟨w.heap.size, 0, none⟩) → wpList P ops Q rest (a.put o.dst (.slice a' (n + m) c')) w') : wpList P ops Q (o :: rest) a w :=
  wpList_plain hgd fun _ hK => wp_append_src w s x t ho base e i z size bytes ht hi hz hsize hby hzs hsz v n xs hs hown ao m c news hx hl hsrc h1 h63 hbytes hbase fun a' c' w' h2 h3 h4 => hK _ _ (h a' c' w' h2 h3 h4)
/-- at a step of a region that draws its order -/
theorem step_append_src {ops : Array Oper} {o : Oper} {a : Act} {K : Act → World → Prop} {Q : Exit → Act → World → Prop} {E : Prop} (w : World) (hgd : o.guard = none) (s x : Operand) (t : TypeId)
    (ho : o.op = .call { callee := .builtin .append, args := #[s, x], argTypes := #[t, t] })
    (base : Nat) (e : TypeId) (i : TypeInfo) (z : Value) (size bytes : Nat) (ht : P.underlying t = some (.slice e)) (hi : P.info? e = some i) (hz : i.zero = some z)
    (hsize : i.size = size) (hby : i.bytes = bytes) (hzs : z.cells.size = size) (hsz : 0 < size)
    (v : Value) (n : Nat) (xs : List Value) (hs : a.eval s = v) (hown : w.ownsRow base e size v n xs)
    (ao : Option Addr) (m c : Nat) (news : List Value) (hx : a.eval x = .slice ao m c) (hl : news.length = m * size) (hsrc : SrcAt w ao m news) (h1 : ∀ u ∈ news, u.oneCell' = true)
    (h63 : n + m ≤ maxLen) (hbytes : (n + m) * bytes ≤ 140737488355328) (hbase : base ≤ w.heap.size)
    (h : ∀ a' c' w', w'.ownsRow base e size (.slice a' (n + m) c') (n + m) (xs ++ news) → w.grownBy w' v.ownBlock → (a' = v.ownBlock.map (fun g => ⟨g, 0, none⟩) ∨ a' = some ⟨w.heap.size, 0, none⟩) → K (a.put o.dst (.slice a' (n + m) c')) w') :
    if Region.wanted o (yielded ops a.tmps) = true then Oper.wp P o a w K Q else E := by
  rw [if_pos (by simp [Region.wanted, hgd])]
  exact wp_append_src w s x t ho base e i z size bytes ht hi hz hsize hby hzs hsz v n xs hs hown ao m c news hx hl hsrc h1 h63 hbytes hbase h
end
/-! ### parts of what was opened -/
theorem src_strs {S : Nat → Prop} {w : World} {a : Option Addr} {n c : Nat} {ss : List ByteArray} (h : RepStrs S w (.slice a n c) ss) {i j : Nat} (hj : j ≤ ss.length) {ao : Option Addr}
    (hao : ∀ b o, a = some ⟨b, o, none⟩ → i < j → ao = some ⟨b, o + i, none⟩) (hnone : ao = none ∨ ∃ ad, ao = some ad) (hij : i ≤ j) : SrcAt w ao (j - i) (((ss.take j).drop i).map Value.string) := by
  obtain ⟨a', b, o, cap, h1, h2, h3, h4, h5, h6⟩ := h
  cases h1
  by_cases hlt : i < j
  · right
    obtain ⟨ha, _⟩ := h4 (by omega)
    refine ⟨_, hao b o ha hlt, fun k u hu => ?_⟩
    rw [List.getElem?_map, List.getElem?_drop, List.getElem?_take] at hu
    obtain ⟨s, hs, rfl⟩ := Option.map_eq_some_iff.1 hu
    split at hs
    · rw [addr_add rfl]
      have := h5 _ s hs
      rwa [← Nat.add_assoc] at this
    · cases hs
  · obtain rfl : i = j := by omega
    have hnil : ((ss.take i).drop i).map Value.string = [] := by simp
    rw [hnil]
    rcases hnone with rfl | ⟨ad, rfl⟩
    · exact .inl ⟨rfl, by omega⟩
    · exact .inr ⟨ad, rfl, fun k u hu => by simp at hu⟩
/-! ### rows of values -/
/-- the cells xs read, six by six, as the values gs -/
def RowGV (S : Nat → Prop) (w : World) (xs : List Value) (gs : List GV) : Prop := xs.length = gs.length * 6 ∧ ∀ i g, gs[i]? = some g → RepGV S w g ((xs.drop (i * 6)).take 6)
theorem RowGV.nil (S : Nat → Prop) (w : World) : RowGV S w [] [] := ⟨rfl, fun i g h => by simp at h⟩
theorem RowGV.mono {S S' : Nat → Prop} {w w' : World} {xs : List Value} {gs : List GV} (h : RowGV S w xs gs) (hs : Same S w w') (hS : ∀ b, S b → b < w.heap.size → S' b) : RowGV S' w' xs gs :=
  ⟨h.1, fun i g hg => (h.2 i g hg).mono hs hS⟩
theorem RowGV.append {S : Nat → Prop} {w : World} {xs ys : List Value} {gs hs : List GV} (h : RowGV S w xs gs) (k : RowGV S w ys hs) : RowGV S w (xs ++ ys) (gs ++ hs) := by
  refine ⟨by rw [List.length_append, h.1, k.1, List.length_append]; omega, fun i g hg => ?_⟩
  by_cases hi : i < gs.length
  · rw [List.getElem?_append_left hi] at hg
    have := h.2 i g hg
    rwa [List.drop_append_of_le_length (by rw [h.1]; omega), List.take_append_of_le_length (by rw [List.length_drop, h.1]; omega)]
  · rw [List.getElem?_append_right (by omega)] at hg
    have := k.2 _ g hg
    rw [List.drop_append, List.drop_of_length_le (by rw [h.1]; omega), List.nil_append, h.1]
    rwa [show i * 6 - gs.length * 6 = (i - gs.length) * 6 by omega]
theorem RowGV.take {S : Nat → Prop} {w : World} {xs : List Value} {gs : List GV} (h : RowGV S w xs gs) (n : Nat) : RowGV S w (xs.take (n * 6)) (gs.take n) := by
  refine ⟨by rw [List.length_take, List.length_take, h.1]; omega, fun i g hg => ?_⟩
  rw [List.getElem?_take] at hg
  split at hg
  · have := h.2 i g hg
    rwa [List.drop_take, List.take_take, Nat.min_eq_left (by omega)]
  · cases hg
theorem RowGV.drop {S : Nat → Prop} {w : World} {xs : List Value} {gs : List GV} (h : RowGV S w xs gs) (n : Nat) : RowGV S w (xs.drop (n * 6)) (gs.drop n) := by
  refine ⟨by rw [List.length_drop, List.length_drop, h.1]; omega, fun i g hg => ?_⟩
  rw [List.getElem?_drop] at hg
  have := h.2 _ g hg
  rwa [List.drop_drop, ← Nat.add_mul]
theorem RowGV.one {S : Nat → Prop} {w : World} {cs : List Value} {g : GV} (h : RepGV S w g cs) : RowGV S w cs [g] := by
  obtain ⟨k, n, f, s, a, b, c, a', b', c', rfl⟩ := h.form
  refine ⟨rfl, fun i g' hg => ?_⟩
  cases i with
  | zero => simp at hg; subst hg; exact h
  | succ i => simp at hg
theorem rep_oneCell {S : Nat → Prop} {w : World} {g : GV} {cs : List Value} (h : RepGV S w g cs) : ∀ u ∈ cs, u.oneCell' = true := by
  obtain ⟨k, n, f, s, a, b, c, a', b', c', rfl⟩ := h.form
  intro u hu
  simp at hu
  rcases hu with rfl | rfl | rfl | rfl | rfl | rfl <;> rfl
theorem RowGV.oneCell {S : Nat → Prop} {w : World} {xs : List Value} {gs : List GV} (h : RowGV S w xs gs) : ∀ u ∈ xs, u.oneCell' = true := by
  intro u hu
  obtain ⟨j, hj⟩ := List.mem_iff_getElem?.1 hu
  have hlt := (List.getElem?_eq_some_iff.1 hj).1
  rw [h.1] at hlt
  obtain ⟨g, hg⟩ : ∃ g, gs[j / 6]? = some g := ⟨_, List.getElem?_eq_getElem (by omega)⟩
  refine rep_oneCell (h.2 _ g hg) u (List.mem_iff_getElem?.2 ⟨j % 6, ?_⟩)
  rw [List.getElem?_take, if_pos (by omega), List.getElem?_drop, ← hj]
  congr 1; omega
theorem strs_oneCell (ss : List ByteArray) : ∀ u ∈ ss.map Value.string, u.oneCell' = true := by
  intro u hu
  obtain ⟨s, _, rfl⟩ := List.mem_map.1 hu
  rfl
/-- the cells of a slice of values that was opened -/
theorem row_of_rep {S : Nat → Prop} {w : World} {lb lo : Nat} {l : List GV} (hcs : ∀ i, i < l.length → ∃ cs, cs.length = 6 ∧ cellsAt w lb (lo + i * 6) cs)
    (hl : ∀ i g cs, l[i]? = some g → cs.length = 6 → cellsAt w lb (lo + i * 6) cs → RepGV S w g cs) :
    ∃ xs, RowGV S w xs l ∧ ∀ j u, xs[j]? = some u → w.cell? ⟨lb, lo + j, none⟩ = some u := by
  have key : ∀ j, j < l.length * 6 → ∃ u, w.cell? ⟨lb, lo + j, none⟩ = some u := by
    intro j hj
    obtain ⟨cs, h1, h2⟩ := hcs (j / 6) (by omega)
    have := h2 (j % 6) _ (List.getElem?_eq_getElem (show j % 6 < cs.length by omega))
    rw [show lo + j / 6 * 6 + j % 6 = lo + j by omega] at this
    exact ⟨_, this⟩
  let xs := (List.range (l.length * 6)).map fun j => (w.cell? ⟨lb, lo + j, none⟩).getD .nilIface
  have hx : ∀ j u, xs[j]? = some u → w.cell? ⟨lb, lo + j, none⟩ = some u := by
    intro j u hu
    simp only [xs, List.getElem?_map, Option.map_eq_some_iff] at hu
    obtain ⟨k, hk, rfl⟩ := hu
    obtain ⟨h1, h2⟩ := List.getElem?_eq_some_iff.1 hk
    simp at h1 h2
    subst h2
    obtain ⟨u, hu⟩ := key j h1
    rw [hu]; rfl
  refine ⟨xs, ⟨by simp [xs], fun i g hg => ?_⟩, hx⟩
  have hi := (List.getElem?_eq_some_iff.1 hg).1
  refine hl i g _ hg (by simp [xs]; omega) (fun j v hv => ?_)
  rw [List.getElem?_take] at hv
  split at hv
  · rw [List.getElem?_drop] at hv
    have := hx _ v hv
    rwa [← Nat.add_assoc] at this
  · cases hv
theorem src_row {w : World} {lb lo : Nat} {xs : List Value} (hx : ∀ j u, xs[j]? = some u → w.cell? ⟨lb, lo + j, none⟩ = some u) {a ao : Option Addr} {i j : Nat} (hpos : i < j → a = some ⟨lb, lo, none⟩)
    (hao : a = some ⟨lb, lo, none⟩ → i < j → ao = some ⟨lb, lo + i * 6, none⟩) (hij : i ≤ j) : SrcAt w ao (j - i) ((xs.take (j * 6)).drop (i * 6)) := by
  by_cases hlt : i < j
  · right
    refine ⟨_, hao (hpos hlt) hlt, fun k u hu => ?_⟩
    rw [List.getElem?_drop, List.getElem?_take] at hu
    split at hu
    · rw [addr_add rfl]
      have := hx _ u hu
      rwa [← Nat.add_assoc] at this
    · cases hu
  · obtain rfl : i = j := by omega
    have hnil : (xs.take (i * 6)).drop (i * 6) = [] := List.drop_of_length_le (List.length_take_le _ _)
    rw [hnil]
    cases ao with
    | none => exact .inl ⟨rfl, by omega⟩
    | some ad => exact .inr ⟨ad, rfl, fun k u hu => by simp at hu⟩
theorem src_block (w : World) (cs : List Value) (t : TypeId) (m : Nat) : SrcAt (w.alloc (.cells cs.toArray t)) (some ⟨w.heap.size, 0, none⟩) m cs :=
  .inr ⟨_, rfl, fun j u hu => by rw [addr_add rfl]; simpa using hu⟩
theorem cells_new (w : World) (cs : List Value) (t : TypeId) : ∀ j u, cs[j]? = some u → (w.alloc (.cells cs.toArray t)).cell? ((⟨w.heap.size, 0, none⟩ : Addr).add j) = some u := by
  intro j u hu
  rw [addr_add rfl]; simpa using hu
theorem SrcAt.drew {w : World} {ao : Option Addr} {m : Nat} {news : List Value} (h : SrcAt w ao m news) : SrcAt w.drew ao m news := h
/-- a row of strings, of the call's own, as a slice of strings -/
theorem strs_of_row {S : Nat → Prop} {w : World} {base n c : Nat} {a : Option Addr} {ss : List ByteArray} {e : TypeId} (hown : w.ownsRow base e 1 (.slice a n c) n (ss.map Value.string)) (hS : ∀ b, base ≤ b → S b) (hsz : ss.length * 16 ≤ 140737488351232)
    (hks : ∀ s ∈ ss, s.size ≤ 140737488351232) : RepStrs S w (.slice a n c) ss := by
  have hn : n = ss.length := by have := hown.1; simp at this; omega
  subst hn
  rcases hown.2 with ⟨h, h0⟩ | ⟨g, cap, cur, h, hb, hg, hle, _⟩
  · simp only [Value.slice.injEq] at h
    obtain ⟨rfl, h1, rfl⟩ := h
    exact ⟨none, 0, 0, 0, rfl, by omega, hsz, fun h => absurd h (by omega), fun i s hs => by
      have := (List.getElem?_eq_some_iff.1 hs).1; omega, hks⟩
  · cases h
    refine ⟨_, g, 0, _, rfl, hle, hsz, fun _ => ⟨rfl, hS g hb⟩, fun i s hs => ?_, hks⟩
    have := hown.cells (g := g) rfl i (.string s) (by simp [hs])
    rwa [addr_add rfl] at this
/-- a row of values, of the call's own, read as a list of values: what the cells of impl.Value.L owe -/
theorem vals_of_row {S : Nat → Prop} {w : World} {base n c : Nat} {a : Option Addr} {xs : List Value} {gs : List GV} {e : TypeId} (hown : w.ownsRow base e 6 (.slice a n c) n xs) (hrow : RowGV S w xs gs) (hS : ∀ b, base ≤ b → S b) :
    n = gs.length ∧ gs.length ≤ c ∧ ∃ lb, (0 < gs.length → a = some ⟨lb, 0, none⟩ ∧ S lb) ∧ (∀ i, i < gs.length → ∃ cs, cs.length = 6 ∧ cellsAt w lb (0 + i * 6) cs) ∧
      ∀ i g cs, gs[i]? = some g → cs.length = 6 → cellsAt w lb (0 + i * 6) cs → RepGV S w g cs := by
  have hn : n = gs.length := by have := hown.1; have := hrow.1; omega
  refine ⟨hn, ?_⟩
  subst hn
  rcases hown.2 with ⟨h, h0⟩ | ⟨g, cap, cur, h, hb, hg, hle, _⟩
  · simp only [Value.slice.injEq] at h
    obtain ⟨rfl, h1, rfl⟩ := h
    exact ⟨by omega, 0, fun h => absurd h (by omega), fun i hi => absurd hi (by omega), fun i g cs hg => by have := (List.getElem?_eq_some_iff.1 hg).1; omega⟩
  · cases h
    refine ⟨hle, g, fun _ => ⟨rfl, hS g hb⟩, ?_⟩
    have hc := hown.cells (g := g) rfl
    have hat : ∀ i, i < gs.length → cellsAt w g (0 + i * 6) ((xs.drop (i * 6)).take 6) := by
      intro i hi j v hv
      rw [List.getElem?_take] at hv
      split at hv
      · rw [List.getElem?_drop] at hv
        have := hc _ v hv
        rw [addr_add rfl] at this
        rwa [← Nat.add_assoc] at this
      · cases hv
    have hlen : ∀ i, i < gs.length → ((xs.drop (i * 6)).take 6).length = 6 := by
      intro i hi
      rw [List.length_take, List.length_drop, hrow.1]; omega
    refine ⟨fun i hi => ⟨_, hlen i hi, hat i hi⟩, fun i g' cs hg' hcs hca => ?_⟩
    have hi := (List.getElem?_eq_some_iff.1 hg').1
    obtain rfl := cellsAt_unique hca (hat i hi) (hcs.trans (hlen i hi).symm)
    exact hrow.2 i g' hg'
end Go.Proofs.Ytempfaefopfobaa
