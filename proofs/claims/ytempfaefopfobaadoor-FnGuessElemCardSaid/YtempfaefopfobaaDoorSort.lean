/- Sort: FieldList.Sort on a row of fields of the call's own: the fields in the order of their names. -/
import Derived.Test.YtempfaefopfobaaDoorElemIn
import Derived.Test.YtempfaefopfobaaDoorSortP
import Derived.Deep.QuietTactic
import Derived.BigQuiet
import Derived.RegionTactic
import Derived.Deep.RegionHeld3

set_option maxRecDepth 100000
namespace Go.Proofs.YtempfaefopfobaaDoor
open Go.ChangeShapes Go.WideShapes Go.ChangeAt Go.RowKit
set_option linter.unusedVariables false
set_option linter.unusedSimpArgs false

/-- the cells of some fields -/
def flatP : List (ByteArray × Nat) → List Value
  | [] => []
  | p :: l => .string p.1 :: .iface 85 (.pointer (some ⟨p.2, 0, none⟩)) :: flatP l
theorem flatP_length (l : List (ByteArray × Nat)) : (flatP l).length = l.length * 2 := by
  induction l with
  | nil => rfl
  | cons p l ih => simp [flatP, ih]; omega
theorem flatP_get {l : List (ByteArray × Nat)} {i : Nat} {p : ByteArray × Nat} (h : l[i]? = some p) : (flatP l)[i * 2]? = some (.string p.1) ∧ (flatP l)[i * 2 + 1]? = some (.iface 85 (.pointer (some ⟨p.2, 0, none⟩))) := by
  induction l generalizing i with
  | nil => simp at h
  | cons q l ih =>
    cases i with
    | zero => simp at h; subst h; exact ⟨rfl, rfl⟩
    | succ i =>
      obtain ⟨h1, h2⟩ := ih (i := i) (by simpa using h)
      rw [show (i + 1) * 2 = i * 2 + 2 by omega]
      exact ⟨h1, h2⟩
theorem flatP_set {l : List (ByteArray × Nat)} {i : Nat} (hi : i < l.length) (p : ByteArray × Nat) : ((flatP l).set (i * 2) (.string p.1)).set (i * 2 + 1) (.iface 85 (.pointer (some ⟨p.2, 0, none⟩))) = flatP (l.set i p) := by
  induction l generalizing i with
  | nil => simp at hi
  | cons q l ih =>
    cases i with
    | zero => rfl
    | succ i =>
      have := ih (i := i) (by simpa using hi)
      rw [show (i + 1) * 2 = i * 2 + 2 by omega]
      simp only [flatP, List.set_cons_succ]
      rw [this]
theorem grownBy_trans {a b c : World} {row : Option Nat} (h : a.grownBy b row) (k : b.grownBy c row) : a.grownBy c row :=
  ⟨k.os.trans h.os, k.tape.trans h.tape, k.output.trans h.output, Nat.le_trans h.size k.size, fun i hi hr => (k.block i (Nat.lt_of_lt_of_le hi h.size) hr).trans (h.block i hi hr)⟩
/-- the row while it is sorted -/
structure RSt (w W : World) (base g n cap : Nat) (cur : List (ByteArray × Nat)) : Prop where
  row : W.ownsRow base 55 2 (.slice (some ⟨g, 0, none⟩) n cap) n (flatP cur)
  gr : w.grownBy W (some g)
section
variable {w W : World} {base g n cap : Nat} {cur : List (ByteArray × Nat)}
theorem RSt.draws (h : RSt w W base g n cap cur) (q : Nat) : RSt w (W.drewN q) base g n cap cur := ⟨ownsRow_ext h.row (show Ext W (W.drewN q) from ⟨rfl, rfl, rfl, Nat.le_refl _, fun _ _ => rfl⟩), grown_draws h.gr q⟩
theorem RSt.len (h : RSt w W base g n cap cur) : cur.length = n := by have := h.row.1; rw [flatP_length] at this; omega
theorem RSt.cells (h : RSt w W base g n cap cur) {i : Nat} {p : ByteArray × Nat} (hp : cur[i]? = some p) : W.cell? ⟨g, i * 2, none⟩ = some (.string p.1) ∧ W.cell? ⟨g, i * 2 + 1, none⟩ = some (.iface 85 (.pointer (some ⟨p.2, 0, none⟩))) := by
  have hi := (List.getElem?_eq_some_iff.1 hp).1
  have := h.len
  obtain ⟨h1, h2⟩ := flatP_get hp
  exact ⟨(h.row.cellAt _ (by omega)).trans h1, (h.row.cellAt _ (by omega)).trans h2⟩
theorem RSt.put (h : RSt w W base g n cap cur) {i : Nat} (hi : i < n) (p : ByteArray × Nat) : RSt w ((W.setCell ⟨g, i * 2, none⟩ (.string p.1)).setCell ⟨g, i * 2 + 1, none⟩ (.iface 85 (.pointer (some ⟨p.2, 0, none⟩)))) base g n cap (cur.set i p) := by
  obtain ⟨o1, g1⟩ := h.row.stored (i * 2) (.string p.1)
  obtain ⟨o2, g2⟩ := o1.stored (i * 2 + 1) (.iface 85 (.pointer (some ⟨p.2, 0, none⟩)))
  rw [flatP_set (by rw [h.len]; exact hi)] at o2
  exact ⟨o2, grownBy_trans h.gr (grownBy_trans g1 g2)⟩
end
set_option maxHeartbeats 4000000 in
theorem sort_few (ps : List (ByteArray × Nat)) (v : Value) (n base : Nat) (w : World) (hown : w.ownsRow base 55 2 v n (flatP ps)) (hn : n < 2) :
    Calls Tryd.prog 27 #[v] w fun e w' => e = .returned (.tuple #[]) ∧ w'.ownsRow base 55 2 v n (flatP (sortP ps)) ∧ w.grownBy w' v.ownBlock := by
  have hlen : ps.length = n := by have := hown.1; rw [flatP_length] at this; omega
  have hs : sortP ps = ps := by
    match ps, hlen with
    | [], _ => rfl
    | [p], _ => rfl
    | p :: q :: l, h => simp at h; omega
  rw [hs]
  have HO := hid hown
  obtain ⟨a, c, rfl⟩ := own_form hown
  have hi : (n : Int) < 2 := by omega
  clear hown hlen hs hn
  go_enter Tryd.func27, Tryd.ntmps27
  go_wp2_with fail
  exact bodyPost_ret (v := .tuple #[]) (by simp [results, Tryd.results27, go_sem]) rfl ⟨rfl, HO.out, World.grownBy.refl _ _⟩
theorem ulist (a b : ByteArray) : Op.bytesLess a.toList b.toList = blt a b := rfl
set_option maxHeartbeats 4000000 in
theorem sort_two (a b : ByteArray × Nat) (base g cap : Nat) (w : World) (hown : w.ownsRow base 55 2 (.slice (some ⟨g, 0, none⟩) 2 cap) 2 (flatP [a, b])) :
    Calls Tryd.prog 27 #[.slice (some ⟨g, 0, none⟩) 2 cap] w fun e w' => e = .returned (.tuple #[]) ∧ w'.ownsRow base 55 2 (.slice (some ⟨g, 0, none⟩) 2 cap) 2 (flatP (sortP [a, b])) ∧ w.grownBy w' (some g) := by
  have HR := hid (show RSt w w base g 2 cap [a, b] from ⟨hown, World.grownBy.refl _ _⟩)
  obtain ⟨c0, c1⟩ := HR.out.cells (i := 0) (p := a) rfl
  obtain ⟨c2, c3⟩ := HR.out.cells (i := 1) (p := b) rfl
  simp only [Nat.zero_mul, Nat.one_mul, Nat.zero_add] at c0 c1 c2 c3
  have f0 := hown.frozenAt 0
  have f1 := hown.frozenAt 1
  have f2 := hown.frozenAt 2
  have f3 := hown.frozenAt 3
  clear hown
  cases hlb : blt b.1 a.1
  · have hs : sortP [a, b] = [a, b] := by
      show insP (insP [] a 0) b (posP (insP [] a 0) b.1) = _
      simp [insP, posP, hlb]
    rw [hs]
    have hlt : Op.bytesLess b.1.toList a.1.toList = false := hlb
    clear hs hlb
    go_enter Tryd.func27, Tryd.ntmps27
    go_wp2_with fail
    go_quiet (fail)
    go_wp2_with fail
    exact bodyPost_ret (v := .tuple #[]) (by simp [results, Tryd.results27, go_sem]) rfl ⟨rfl, (HR.out.draws _).row, (HR.out.draws _).gr⟩
  · have hs : sortP [a, b] = [b, a] := by
      show insP (insP [] a 0) b (posP (insP [] a 0) b.1) = _
      simp [insP, posP, hlb]
    rw [hs]
    have hlt : Op.bytesLess b.1.toList a.1.toList = true := hlb
    clear hs hlb
    go_enter Tryd.func27, Tryd.ntmps27
    go_wp2_with fail
    go_quiet (fail)
    go_wp2_with fail
    go_region
    all_goals
      go_wp2_with fail
      obtain ⟨r1, g1⟩ := ((HR.out.draws (nq + 1)).put (i := 0) (by omega) b).put (i := 1) (by omega) a
      exact bodyPost_ret (v := .tuple #[]) (by simp [results, Tryd.results27, go_sem]) rfl ⟨rfl, r1, g1⟩
theorem insP_full {α : Type} {l : List (ByteArray × α)} {k : Nat} {p : ByteArray × α} (h : l[k]? = some p) : insP (sortP (l.take k)) p k ++ l.drop (k + 1) = sortP (l.take k) ++ l.drop k := by
  obtain ⟨hlt, rfl⟩ := List.getElem?_eq_some_iff.1 h
  have e : (sortP (l.take k)).length = k := by rw [sortP_length, List.length_take]; omega
  have := insP_end (sortP (l.take k)) l[k]
  rw [e] at this
  rw [this, List.drop_eq_getElem_cons hlt, List.append_assoc]; rfl
theorem setP_app {α : Type} {a b : List α} {j : Nat} (hj : j < a.length) (x : α) : (a ++ b).set j x = a.set j x ++ b := by rw [List.set_append_left _ _ hj]
theorem sort_round {w wz : World} {base g n cap k j : Nat} {ps : List (ByteArray × Nat)} {p : ByteArray × Nat} (hk : k < n) (hn : ps.length = n) (hp : ps[k]? = some p) (hj : j ≤ k) (hz : RSt w wz base g n cap (insP (sortP (ps.take k)) p j ++ ps.drop (k + 1)))
    (h1 : ∀ a ∈ (sortP (ps.take k)).drop j, blt p.1 a.1 = true) (h2 : j = 0 ∨ ∃ a, (sortP (ps.take k))[j - 1]? = some a ∧ blt p.1 a.1 = false) :
    (∃ k' : Nat, Value.int .i64 ((k : Int) + 1) = .int .i64 k' ∧ 1 ≤ k' ∧ k' ≤ n ∧ Hid (RSt w wz base g n cap (sortP (ps.take k') ++ ps.drop k'))) ∧ n - (intOf (.int .i64 ((k : Int) + 1))).toNat < n - (intOf (.int .i64 k)).toNat := by
  refine ⟨⟨k + 1, by go_num, by omega, by omega, hid ?_⟩, by simp [intOf]; omega⟩
  rw [← sortP_done hp hj h1 h2]
  exact hz
set_option maxHeartbeats 8000000 in
theorem sort_many (ps : List (ByteArray × Nat)) (n base g cap : Nat) (w : World) (hown : w.ownsRow base 55 2 (.slice (some ⟨g, 0, none⟩) n cap) n (flatP ps)) (h3 : 3 ≤ n) (hsz : n * 88 ≤ 140737488351232) :
    Calls Tryd.prog 27 #[.slice (some ⟨g, 0, none⟩) n cap] w fun e w' => e = .returned (.tuple #[]) ∧ w'.ownsRow base 55 2 (.slice (some ⟨g, 0, none⟩) n cap) n (flatP (sortP ps)) ∧ w.grownBy w' (some g) := by
  have HR := hid (show RSt w w base g n cap ps from ⟨hown, World.grownBy.refl _ _⟩)
  have HN := hid HR.out.len
  have h2 : ¬ ((n : Int) < 2) := by omega
  have h2' : ((n : Int) == 2) = false := by simp; omega
  have hn8 : n * 88 ≤ 140737488351232 := hsz
  have h1n : 1 ≤ n := by omega
  clear hown h3 hsz
  go_enter Tryd.func27, Tryd.ntmps27
  go_wp2_with fail
  go_loopw [2] (fun i wr => ∃ k : Nat, i = .int .i64 k ∧ 1 ≤ k ∧ k ≤ n ∧ Hid (RSt w wr base g n cap (sortP (ps.take k) ++ ps.drop k))) (fun i _ => n - (intOf i).toNat)
  case atStart => exact ⟨1, rfl, Nat.le_refl _, h1n, hid (by
    have e : sortP (ps.take 1) ++ ps.drop 1 = ps := by
      have hs : sortP (ps.take 1) = ps.take 1 := by
        match ps with
        | [] => rfl
        | p :: l => rfl
      rw [hs, List.take_append_drop]
    rw [e]; exact HR.out)⟩
  case round =>
    obtain ⟨k, rfl, hk1, hk, HS⟩ := hrel
    by_cases hlt : k < n
    · obtain ⟨p, hp⟩ : ∃ p, ps[k]? = some p := ⟨_, List.getElem?_eq_getElem (by have := HN.out; omega)⟩
      have HP := hid hp
      have HT := hid (show (sortP (ps.take k)).length = k by rw [sortP_length, List.length_take]; have := HN.out; omega)
      clear hp
      go_wp2_with fail
      obtain ⟨wo, rfl⟩ : ∃ wo : World, wo = wr := ⟨_, rfl⟩
      go_loopw [3] (fun j wx => ∃ jj : Nat, j = .int .i64 jj ∧ jj ≤ k ∧ Hid (RSt w wx base g n cap (insP (sortP (ps.take k)) p jj ++ ps.drop (k + 1))) ∧ Hid (∀ a ∈ (sortP (ps.take k)).drop jj, blt p.1 a.1 = true)) (fun j _ => (intOf j).toNat)
      case atStart => exact ⟨k, rfl, Nat.le_refl _, hid (by rw [insP_full HP.out]; exact HS.out), hid (by rw [List.drop_eq_nil_of_le (by have := HT.out; omega)]; simp)⟩
      case round =>
        obtain ⟨jj, rfl, hjj, HX, HA⟩ := hrel
        cases jj with
        | zero =>
          have hd : decide ((0 : Int) < ((0 : Nat) : Int)) = false := by decide
          go_wp2_with fail
          go_quiet (fail)
          go_wp2_with fail
          exact sort_round hlt HN.out HP.out hjj (HX.out.draws _) HA.out (.inl rfl)
        | succ j =>
          have hj1 : ((j + 1 : Nat) : Int).toNat = j + 1 := by omega
          obtain ⟨a, ha⟩ : ∃ a, (sortP (ps.take k))[j]? = some a := ⟨_, List.getElem?_eq_getElem (by have := HT.out; omega)⟩
          have HAA := hid ha
          obtain ⟨c2, c3⟩ := HX.out.cells (i := j + 1) (p := p) (by rw [List.getElem?_append_left (by rw [insP_length]; have := HT.out; omega), insP_at _ p (by have := HT.out; omega)])
          obtain ⟨c0, c1⟩ := HX.out.cells (i := j) (p := a) (by rw [List.getElem?_append_left (by rw [insP_length]; have := HT.out; omega), insP_before _ p (Nat.lt_succ_self j) (by have := HT.out; omega)]; exact HAA.out)
          have f0 := HX.out.row.frozenAt (j * 2)
          have f1 := HX.out.row.frozenAt (j * 2 + 1)
          have f2 := HX.out.row.frozenAt ((j + 1) * 2)
          have f3 := HX.out.row.frozenAt ((j + 1) * 2 + 1)
          have hd : (0 : Int) < ((j + 1 : Nat) : Int) := by omega
          clear ha
          cases hlb : blt p.1 a.1
          · have hlt' : Op.bytesLess p.1.toList a.1.toList = false := hlb
            have HLT := hid hlb
            clear hlb
            go_wp2_with fail
            go_quiet (fail)
            go_wp2_with fail
            exact sort_round hlt HN.out HP.out hjj (HX.out.draws _) HA.out (.inr ⟨a, HAA.out, HLT.out⟩)
          · have hlt' : Op.bytesLess p.1.toList a.1.toList = true := hlb
            have HLT := hid hlb
            clear hlb
            go_wp2_with fail
            go_quiet (fail)
            go_wp2_with fail
            go_region
            go_wp2_with fail
            go_roundw
            case rel =>
              have z1 := ((HX.out.draws (nq + 1)).put (i := j + 1) (by omega) a).put (i := j) (by omega) p
              refine ⟨j, rfl, by omega, hid ?_, hid ?_⟩
              · have e : (((insP (sortP (ps.take k)) p (j + 1) ++ ps.drop (k + 1)).set (j + 1) a).set j p) = insP (sortP (ps.take k)) p j ++ ps.drop (k + 1) := by
                  rw [setP_app (by rw [insP_length]; have := HT.out; omega), setP_app (by rw [List.length_set, insP_length]; have := HT.out; omega), insP_swap HAA.out]
                rw [← e]; exact z1
              · intro b hb
                rw [List.drop_eq_getElem_cons (by have := HT.out; omega)] at hb
                rcases List.mem_cons.1 hb with rfl | hb
                · have := HAA.out
                  rw [List.getElem?_eq_getElem (by have := HT.out; omega)] at this
                  rw [Option.some.inj this]; exact HLT.out
                · exact HA.out b hb
            case measure => simp [intOf]
    · have hkk : k = n := by omega
      have HK := hid hkk
      clear hkk
      go_wp2_with fail
      have e : sortP (ps.take k) ++ ps.drop k = sortP ps := by
        rw [HK.out, ← HN.out, List.take_length, List.drop_length, List.append_nil]
      have hs := HS.out
      rw [e] at hs
      exact bodyPost_end (v := .tuple #[]) (by simp [results, Tryd.results27, go_sem]) rfl ⟨rfl, hs.row, hs.gr⟩
theorem sort_any (ps : List (ByteArray × Nat)) (v : Value) (n base : Nat) (w : World) (hown : w.ownsRow base 55 2 v n (flatP ps)) (hsz : ps.length * 88 ≤ 140737488351232) :
    Calls Tryd.prog 27 #[v] w fun e w' => e = .returned (.tuple #[]) ∧ w'.ownsRow base 55 2 v n (flatP (sortP ps)) ∧ w.grownBy w' v.ownBlock := by
  have hlen : ps.length = n := by have := hown.1; rw [flatP_length] at this; omega
  rcases Nat.lt_or_ge n 2 with h | h
  · exact sort_few ps v n base w hown h
  · obtain ⟨g, cap, rfl, -, -⟩ := hown.form (by omega)
    rcases Nat.lt_or_ge n 3 with h3 | h3
    · obtain rfl : n = 2 := by omega
      match ps, hlen with
      | [a, b], _ => exact sort_two a b base g cap w hown
    · exact sort_many ps n base g cap w hown h3 (by omega)
/-- cells that hold fields, as pairs of a name and the block of a value -/
theorem RowFs.flat {S : Nat → Prop} {w : World} {xs : List Value} {fs : List (ByteArray × Tree)} (h : RowFs S w xs fs) : ∃ L : List (ByteArray × (Nat × Tree)), fs = L.map (fun a => (a.1, a.2.2)) ∧ xs = flatP (L.map fun a => (a.1, a.2.1)) ∧
    ∀ a ∈ L, a.1.size ≤ 140737488351232 ∧ RepVal S w a.2.2 (.iface 85 (.pointer (some ⟨a.2.1, 0, none⟩))) := by
  have key : ∀ m, m ≤ fs.length → ∃ L : List (ByteArray × (Nat × Tree)), fs.take m = L.map (fun a => (a.1, a.2.2)) ∧ xs.take (m * 2) = flatP (L.map fun a => (a.1, a.2.1)) ∧
      ∀ a ∈ L, a.1.size ≤ 140737488351232 ∧ RepVal S w a.2.2 (.iface 85 (.pointer (some ⟨a.2.1, 0, none⟩))) := by
    intro m
    induction m with
    | zero => exact fun _ => ⟨[], by simp, by simp [flatP], by simp⟩
    | succ m ih =>
      intro hm
      obtain ⟨L, h1, h2, h3⟩ := ih (by omega)
      obtain ⟨p, hp⟩ : ∃ p, fs[m]? = some p := ⟨_, List.getElem?_eq_getElem (by omega)⟩
      obtain ⟨k1, k2, x, k3, k4⟩ := h.2 m p hp
      obtain ⟨b, rfl⟩ := repVal_form k4
      refine ⟨L ++ [(p.1, (b, p.2))], ?_, ?_, ?_⟩
      · obtain ⟨hlt, he⟩ := List.getElem?_eq_some_iff.1 hp
        rw [List.take_succ_eq_append_getElem hlt, h1, he, List.map_append]; rfl
      · have e : flatP ((L ++ [(p.1, (b, p.2))]).map fun a => (a.1, a.2.1)) = flatP (L.map fun a => (a.1, a.2.1)) ++ [.string p.1, .iface 85 (.pointer (some ⟨b, 0, none⟩))] := by
          rw [List.map_append]
          generalize L.map (fun a => (a.1, a.2.1)) = l
          clear h1 h2 h3 ih k1 k2 k3 k4
          induction l with
          | nil => rfl
          | cons q l ih => simp only [List.cons_append, flatP, ih]
        rw [e, ← h2, show (m + 1) * 2 = m * 2 + 1 + 1 by omega, List.take_add_one, List.take_add_one, k2, k3]
        simp
      · intro a ha
        rcases List.mem_append.1 ha with ha | ha
        · exact h3 a ha
        · simp at ha; subst ha; exact ⟨k1, k4⟩
  obtain ⟨L, h1, h2, h3⟩ := key fs.length (Nat.le_refl _)
  rw [List.take_length] at h1
  rw [List.take_of_length_le (by rw [h.1]; exact Nat.le_refl _)] at h2
  exact ⟨L, h1, h2, h3⟩
theorem flatP_row {S : Nat → Prop} {w : World} (L : List (ByteArray × (Nat × Tree))) (h : ∀ a ∈ L, a.1.size ≤ 140737488351232 ∧ RepVal S w a.2.2 (.iface 85 (.pointer (some ⟨a.2.1, 0, none⟩)))) :
    RowFs S w (flatP (L.map fun a => (a.1, a.2.1))) (L.map fun a => (a.1, a.2.2)) := by
  refine ⟨by rw [flatP_length]; simp, fun i p hp => ?_⟩
  rw [List.getElem?_map] at hp
  obtain ⟨a, ha, rfl⟩ := Option.map_eq_some_iff.1 hp
  obtain ⟨h1, h2⟩ := h a (List.mem_of_getElem? ha)
  obtain ⟨k1, k2⟩ := flatP_get (l := L.map fun a => (a.1, a.2.1)) (i := i) (p := (a.1, a.2.1)) (by rw [List.getElem?_map, ha]; rfl)
  exact ⟨h1, k1, _, k2, h2⟩
/-- the fields, sorted -/
theorem sortFs_any (S : Nat → Prop) (fs : List (ByteArray × Tree)) (v : Value) (n base : Nat) (xs : List Value) (w : World) (hown : w.ownsRow base 55 2 v n xs) (hrow : RowFs S w xs fs) (hS : ∀ b, S b → some b ≠ v.ownBlock) (hsz : fs.length * 88 ≤ 140737488351232) :
    Calls Tryd.prog 27 #[v] w fun e w' => e = .returned (.tuple #[]) ∧ (∃ xs', w'.ownsRow base 55 2 v n xs' ∧ RowFs S w' xs' (sortP fs)) ∧ w.grownBy w' v.ownBlock := by
  obtain ⟨L, rfl, rfl, hL⟩ := hrow.flat
  refine (sort_any _ v n base w hown (by simpa using hsz)).mono ?_
  rintro e w' ⟨rfl, h1, h2⟩
  refine ⟨rfl, ⟨_, h1, ?_⟩, h2⟩
  rw [sortP_map (fun a : ByteArray × (Nat × Tree) => (a.1, a.2.1)) (fun _ => rfl), sortP_map (fun a : ByteArray × (Nat × Tree) => (a.1, a.2.2)) (fun _ => rfl)]
  refine flatP_row _ fun a ha => ?_
  obtain ⟨h3, h4⟩ := hL a ((sortP_perm L).mem_iff.1 ha)
  exact ⟨h3, h4.mono (fun b o hb ho => (h2.block b (Array.getElem?_eq_some_iff.1 ho).1 (hS b hb)).trans ho) (fun b hb _ => hb)⟩
end Go.Proofs.YtempfaefopfobaaDoor
