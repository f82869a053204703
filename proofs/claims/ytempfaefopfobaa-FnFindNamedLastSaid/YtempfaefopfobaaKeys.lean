/- Keys: sortedKeys[any]: the names of a map, in increasing order. -/
import Derived.Test.YtempfaefopfobaaRange
import Derived.Test.YtempfaefopfobaaSpecWith
import Derived.Deep.AppendLies
import Derived.BigRegion
import Derived.Deep.Onto

namespace Go.Proofs.Ytempfaefopfobaa
open Go.ChangeShapes Go.WideShapes Go.ChangeAt Go.RowKit
set_option linter.unusedVariables false
set_option linter.unusedSimpArgs false

def insAt (ss : List ByteArray) (key : ByteArray) (k : Nat) : List ByteArray := ss.take k ++ key :: ss.drop k
theorem insAt_end (ss : List ByteArray) (key : ByteArray) : insAt ss key ss.length = ss ++ [key] := by simp [insAt]
theorem insAt_length (ss : List ByteArray) (key : ByteArray) (k : Nat) : (insAt ss key k).length = ss.length + 1 := by simp [insAt]; omega
theorem insAt_perm (ss : List ByteArray) (key : ByteArray) (k : Nat) : (insAt ss key k).Perm (ss ++ [key]) := by
  unfold insAt
  have h1 : (List.take k ss ++ key :: List.drop k ss).Perm (key :: (List.take k ss ++ List.drop k ss)) := List.perm_middle
  rw [List.take_append_drop] at h1
  exact h1.trans (List.perm_append_comm (l₁ := [key]) (l₂ := ss))
theorem insAt_at (ss : List ByteArray) (key : ByteArray) {k : Nat} (hk : k ≤ ss.length) : (insAt ss key k)[k]? = some key := by
  unfold insAt
  rw [List.getElem?_append_right (by simp; omega)]
  simp [Nat.min_eq_left hk]
theorem insAt_before (ss : List ByteArray) (key : ByteArray) {k j : Nat} (hj : j < k) (hk : k ≤ ss.length) : (insAt ss key k)[j]? = ss[j]? := by
  unfold insAt
  rw [List.getElem?_append_left (by simp; omega), List.getElem?_take, if_pos hj]
theorem insAt_swap {ss : List ByteArray} {key a : ByteArray} {j : Nat} (h : ss[j]? = some a) : ((insAt ss key (j + 1)).set (j + 1) a).set j key = insAt ss key j := by
  have hj := (List.getElem?_eq_some_iff.1 h).1
  unfold insAt
  rw [List.take_add_one, h]
  simp only [Option.toList_some, List.append_assoc, List.cons_append, List.nil_append]
  rw [List.set_append_right _ _ (by simp; omega)]
  rw [List.set_append_right _ _ (by simp; omega)]
  have e : (List.take j ss).length = j := by simp; omega
  rw [e, show j + 1 - j = 1 by omega, show j - j = 0 by omega]
  simp only [List.set_cons_succ, List.set_cons_zero]
  rw [List.drop_eq_getElem_cons hj]
  have : ss[j] = a := by rw [List.getElem?_eq_getElem hj] at h; exact Option.some.inj h
  rw [this]
theorem insAt_sorted {ss : List ByteArray} {key : ByteArray} {k : Nat} (hs : SortedK ss) (hk : k ≤ ss.length) (h1 : ∀ a ∈ ss.drop k, blt key a = true) (h2 : ∀ a ∈ ss.take k, blt a key = true) : SortedK (insAt ss key k) := by
  unfold SortedK insAt at *
  rw [List.pairwise_append]
  have h0 := hs
  rw [← List.take_append_drop k ss, List.pairwise_append] at h0
  refine ⟨h0.1, List.pairwise_cons.2 ⟨fun a ha => h1 a ha, h0.2.1⟩, fun a ha b hb => ?_⟩
  rcases List.mem_cons.1 hb with rfl | hb
  · exact h2 a ha
  · exact h0.2.2 a ha b hb
theorem take_lt {ss : List ByteArray} {key a : ByteArray} {k : Nat} (hs : SortedK ss) (h : ss[k]? = some a) (hlt : blt a key = true) : ∀ b ∈ ss.take (k + 1), blt b key = true := by
  intro b hb
  obtain ⟨j, hj⟩ := List.mem_iff_getElem?.1 hb
  rw [List.getElem?_take] at hj
  split at hj
  · rcases Nat.lt_or_ge j k with h1 | h1
    · exact blt_trans (hs.get hj h h1) hlt
    · obtain rfl : j = k := by omega
      rw [h] at hj; cases hj; exact hlt
  · cases hj
/-- the name at the place i -/
def nameAt (m : List (ByteArray × Tree)) (i : Nat) : ByteArray := (m[i]?.map (·.1)).getD ByteArray.empty
theorem nameAt_of {m : List (ByteArray × Tree)} {i : Nat} {p : ByteArray × Tree} (h : m[i]? = some p) : nameAt m i = p.1 := by simp [nameAt, h]
theorem nameAt_inj {m : List (ByteArray × Tree)} (hn : (m.map (·.1)).Nodup) {i j : Nat} (hi : i < m.length) (hj : j < m.length) (h : nameAt m i = nameAt m j) : i = j := by
  rw [nameAt_of (List.getElem?_eq_getElem hi), nameAt_of (List.getElem?_eq_getElem hj)] at h
  have hp := List.nodup_iff_pairwise_ne.1 hn
  rw [List.pairwise_iff_getElem] at hp
  rcases Nat.lt_trichotomy i j with hl | hl | hl
  · have := hp i j (by simpa using hi) (by simpa using hj) hl
    rw [List.getElem_map, List.getElem_map] at this
    exact absurd h this
  · exact hl
  · have := hp j i (by simpa using hj) (by simpa using hi) hl
    rw [List.getElem_map, List.getElem_map] at this
    exact absurd h.symm this
theorem names_range (m : List (ByteArray × Tree)) : (List.range m.length).map (nameAt m) = m.map (·.1) := by
  apply List.ext_getElem?
  intro i
  simp only [List.getElem?_map]
  by_cases hi : i < m.length
  · rw [List.getElem?_range hi, List.getElem?_eq_getElem hi]
    simp [nameAt, hi]
  · rw [List.getElem?_eq_none (by simp; omega), List.getElem?_eq_none (by omega)]
    rfl
theorem RepM.nodup {S : Nat → Prop} {w : World} {m : List (ByteArray × Tree)} {r : Nat} (h : RepM S w m r) : (m.map (·.1)).Nodup := by
  obtain ⟨_, _, _, _, _, _, h, _⟩ := h; exact h
theorem RepM.room {S : Nat → Prop} {w : World} {m : List (ByteArray × Tree)} {r : Nat} (h : RepM S w m r) : m.length * 88 ≤ 140737488351232 := by
  obtain ⟨_, _, _, _, h, _⟩ := h; exact h
theorem RepM.lt {S : Nat → Prop} {w : World} {m : List (ByteArray × Tree)} {r : Nat} (h : RepM S w m r) : r < w.heap.size := by
  obtain ⟨_, _, h, _⟩ := h; exact (Array.getElem?_eq_some_iff.1 h).1
theorem new_name {m : List (ByteArray × Tree)} (hn : (m.map (·.1)).Nodup) {vis : List Nat} {i : Nat} {p : ByteArray × Tree} {ss : List ByteArray} (hp : m[i]? = some p) (hi : i ∉ vis) (hv : ∀ j ∈ vis, j < m.length) (hs : ss.Perm (vis.map (nameAt m))) : p.1 ∉ ss := by
  intro hmem
  obtain ⟨j, hj, e⟩ := List.mem_map.1 (hs.mem_iff.1 hmem)
  rw [← nameAt_of hp] at e
  exact hi (nameAt_inj hn (hv j hj) (List.getElem?_eq_some_iff.1 hp).1 e ▸ hj)

/-- how many fields are still to come -/
def leftM (n q : Nat) (w : World) : Nat := match w.heap[q]? with | some (.mapIter _ _ seen _) => n - seen.size | _ => 0
theorem RngM.left {S : Nat → Prop} {w : World} {m : List (ByteArray × Tree)} {r q : Nat} {vis : List Nat} (h : RngM S w m r q vis) : leftM m.length q w = m.length - vis.length := by
  obtain ⟨es, clock, since, c0, h1, h2, h3, h4, h5, h6, h7⟩ := h
  simp [leftM, h6]
theorem RngM.vis {S : Nat → Prop} {w : World} {m : List (ByteArray × Tree)} {r q : Nat} {vis : List Nat} (h : RngM S w m r q vis) : vis.Nodup ∧ ∀ i ∈ vis, i < m.length := by
  obtain ⟨es, clock, since, c0, h1, h2, h3, h4, h5, h6, h7, h8, h9, h10, h11⟩ := h
  exact ⟨h10, h11⟩
theorem RngM.kept {S : Nat → Prop} {w w' : World} {m : List (ByteArray × Tree)} {r q : Nat} {vis : List Nat} (h : RngM S w m r q vis) {row : Option Nat} (hg : w.grownBy w' row) (hS : ∀ b, S b → some b ≠ row) (hr : some r ≠ row) (hq : some q ≠ row) : RngM S w' m r q vis :=
  h.mono (same_grownBy hg hS) (fun _ h _ => h) (hg.block r h.lt.1 hr) (hg.block q h.lt.2 hq)
theorem ext_own {w wr w' : World} (h : Ext w wr) {row : Option Nat} (hg : wr.grownBy w' row) (hrow : ∀ g, row = some g → w.heap.size ≤ g) : Ext w w' :=
  Below.trans h ⟨hg.os, hg.tape, hg.output, hg.size, fun i hi => hg.block i (by have := hg.size; have := h.size; omega) (fun e => by have := hrow i e.symm; omega)⟩
theorem own_ge {w : World} {base : Nat} {e : TypeId} {size : Nat} {v : Value} {n : Nat} {xs : List Value} (h : w.ownsRow base e size v n xs) : ∀ g, v.ownBlock = some g → base ≤ g := by
  intro g hg
  rcases h.2 with ⟨rfl, _⟩ | ⟨g', cap, cur, rfl, hb, _⟩
  · cases hg
  · simp [Value.ownBlock] at hg; omega

theorem grown_draws {a w : World} {row : Option Nat} (h : a.grownBy w row) (n : Nat) : a.grownBy (w.drewN n) row := ⟨h.os, h.tape, h.output, h.size, h.block⟩

set_option maxRecDepth 100000 in
set_option maxHeartbeats 1000000 in
theorem sortedKeys_any (S : Nat → Prop) (m : List (ByteArray × Tree)) (r : Nat) (w : World) (hM0 : RepM S w m r) :
    Calls Try.prog 122 #[.map (some r)] w fun e w' => ∃ v ss, e = .returned v ∧ SortedK ss ∧ ss.Perm (m.map (·.1)) ∧ w'.ownsRow w.heap.size 9 1 v ss.length (ss.map Value.string) ∧ Ext w w' := by
  obtain ⟨i0, hi, hz0, hz1, hz2⟩ := info_parts info_str
  have hM : RepM (fun b => b < w.heap.size) w m r := hM0.mono (Same.refl _ _) (fun b _ h => h) rfl
  have hnd := hid hM.nodup
  have hroom := hM.room
  have hrlt := hM.lt
  have HM := hid hM
  clear hM hM0
  go_enter Try.func122, Try.ntmps122
  go_wp2_with (at_range; refine wpList_range_M rfl (.tmp 6) rfl Try.underlying159 rfl HM.out ?_; intro w1 hR hE1 hz1'; go_frame)
  go_loopw [3] (fun v wr => ∃ (vis : List Nat) (ss : List ByteArray), wr.ownsRow (w.heap.size + 1) 9 1 v ss.length (ss.map Value.string) ∧ RngM (fun b => b < w.heap.size) wr m r w.heap.size vis ∧ Hid (SortedK ss ∧ ss.Perm (vis.map (nameAt m))) ∧ Ext w wr ∧ w.heap.size < wr.heap.size) (fun _ wr => leftM m.length w.heap.size wr)
  case atStart => exact ⟨[], [], World.ownsRow_nil _ _ _ _, hR, hid ⟨List.Pairwise.nil, List.Perm.nil⟩, hE1, by omega⟩
  case round =>
    obtain ⟨vis, ss, hown, hR, HV, hE, hsz⟩ := hrel
    have HLEN := hid (show ss.length = vis.length by simpa using HV.out.2.length_eq)
    have hvl := vis_length hR.vis.1 hR.vis.2
    have hvs : ss.length ≤ m.length := by have := HLEN.out; omega
    have next := hid (fun i (p : ByteArray × Tree) w2 (hni : i ∉ vis) (hp : m[i]? = some p) (hR2 : RngM (fun b => b < w.heap.size) w2 m r w.heap.size (vis ++ [i])) (hg2 : wr.grownBy w2 (some w.heap.size)) =>
      show w2.ownsRow (w.heap.size + 1) 9 1 u3 ss.length (ss.map Value.string) ∧ p.1 ∉ ss ∧ ss.length + 1 ≤ m.length ∧ Ext w w2 from
      ⟨hown.kept hg2 (.inr fun e => by have := own_ge hown _ e; omega), new_name hnd.out hp hni hR.vis.2 HV.out.2, by have := vis_length hR2.vis.1 hR2.vis.2; have := HLEN.out; simp at *; omega, ext_own hE hg2 (fun g e => by cases e; exact Nat.le_refl _)⟩)
    go_wp2_with (first | (at_next; refine wpList_next_M rfl (.tmp 7) rfl rfl hR (by omega) (fun hl => ?_) (fun i p val w2 hni hp hR2 hT hg2 hz2' hent => ?_); all_goals (try (have HZ2 := hid hz2'; have HP := hid hp; have HT := hid hT; clear hz2' hp hT))) | (at_builtin; obtain ⟨hown2, hnew, hvl2, hE2⟩ := next.out i p w2 hni HP.out hR2 hg2; refine wpList_append_lies _ rfl (.tmp 12) (.tmp 14) 26 rfl (w.heap.size + 1) 9 i0 _ 1 16 Try.underlying26 hi hz0 hz1 hz2 rfl (by decide) u3 ss.length (ss.map Value.string) rfl (hown2.alloc _) ⟨w2.heap.size, 0, none⟩ 1 1 [.string p.1] rfl rfl (cell_one_new _ _ _) (by simp [Value.oneCell']) (by decide) (by unfold maxLen; omega) (by omega) (by have := HZ2.out; simp; omega) (w2.heap.size + 1) (by simp) ?_; intro g cap w3 hown3 hg3 hat hlt3; clear hat hlt3))
    · go_ret
      refine ⟨_, ss, rfl, HV.out.1, ?_, hown.mono (by omega), hE⟩
      have h1 := (vis_perm hR.vis.1 hR.vis.2 hl).map (nameAt m)
      rw [names_range] at h1
      exact HV.out.2.trans h1
    · have hgb : w.heap.size + 1 ≤ g := own_ge hown3 g rfl
      have hrow : ∀ g, u3.ownBlock = some g → w.heap.size + 1 ≤ g := own_ge hown2
      have hne : ∀ b, b < w.heap.size + 1 → some b ≠ u3.ownBlock := fun b hb e => by have := hrow b e.symm; omega
      have hE3 : Ext w w3 := ext_own (hE2.alloc _) hg3 (fun g e => by have := hrow g e; omega)
      have HR3 : Hid (RngM (fun b => b < w.heap.size) w3 m r w.heap.size (vis ++ [i])) := hid ((hR2.ext ((Ext.refl w2).alloc _)).kept hg3 (fun b hb => hne b (by omega)) (hne r (by omega)) (hne _ (by omega)))
      have hs3 : w.heap.size < w3.heap.size := by have := hg3.size; have := HZ2.out; simp at *; omega
      have hown3' : w3.ownsRow (w.heap.size + 1) 9 1 (.slice (some ⟨g, 0, none⟩) (ss.length + 1) cap) (ss.length + 1) ((insAt ss p.1 ss.length).map Value.string) := by rw [insAt_end]; simpa using hown3
      have HL := hid hR.left
      have hkey : p.1 ∉ ss := hnew
      have HN := hid hkey
      clear hkey hnew hrow hne hg3 hown3 hR2 hg2 hown2 hE2 hR hown next
      obtain ⟨key, hkey⟩ : ∃ key, p.1 = key := ⟨_, rfl⟩
      rw [hkey] at hown3' HN hent
      have fin : ∀ (k : Nat) (wz : World), k ≤ ss.length → wz.ownsRow (w.heap.size + 1) 9 1 (.slice (some ⟨g, 0, none⟩) (ss.length + 1) cap) (ss.length + 1) ((insAt ss key k).map Value.string) → w3.grownBy wz (some g) → (∀ a ∈ ss.drop k, blt key a = true) → (∀ a ∈ ss.take k, blt a key = true) →
          (∃ vis' ss', wz.ownsRow (w.heap.size + 1) 9 1 (.slice (some ⟨g, 0, none⟩) (ss.length + 1) cap) ss'.length (ss'.map Value.string) ∧ RngM (fun b => b < w.heap.size) wz m r w.heap.size vis' ∧ Hid (SortedK ss' ∧ ss'.Perm (vis'.map (nameAt m))) ∧ Ext w wz ∧ w.heap.size < wz.heap.size) ∧ leftM m.length w.heap.size wz < leftM m.length w.heap.size wr := by
        intro k wz hk ho hg h1 h2
        have hRz := HR3.out.kept hg (fun b hb e => by cases e; omega) (fun e => by cases e; omega) (fun e => by cases e; omega)
        refine ⟨⟨vis ++ [i], insAt ss key k, by rw [insAt_length]; exact ho, hRz, hid ⟨insAt_sorted HV.out.1 hk h1 h2, ?_⟩, ext_own hE3 hg (fun g' e => by cases e; omega), by have := hg.size; omega⟩, ?_⟩
        · rw [List.map_append, List.map_cons, List.map_nil, nameAt_of HP.out, hkey]
          exact (insAt_perm ss key k).trans (List.Perm.append_right _ HV.out.2)
        · rw [hRz.left, HL.out]; have := HLEN.out; simp; omega
      have FIN := hid fin
      clear fin
      go_loopw [5] (fun i wx => ∃ k : Nat, i = .int .i64 k ∧ k ≤ ss.length ∧ wx.ownsRow (w.heap.size + 1) 9 1 (.slice (some ⟨g, 0, none⟩) (ss.length + 1) cap) (ss.length + 1) ((insAt ss key k).map Value.string) ∧ Hid (w3.grownBy wx (some g)) ∧ Hid (∀ a ∈ ss.drop k, blt key a = true)) (fun i _ => (intOf i).toNat)
      case atStart => exact ⟨ss.length, by go_num, Nat.le_refl _, hown3', hid (World.grownBy.refl _ _), hid (by simp)⟩
      case round =>
        obtain ⟨k, rfl, hk, hownx, HG, HA⟩ := hrel
        cases k with
        | zero =>
          have hd : decide ((0 : Int) < ((0 : Nat) : Int)) = false := by decide
          go_wp2_with fail
          go_quiet (fail)
          go_wp2_with fail
          exact FIN.out 0 _ hk hownx (grown_draws HG.out _) HA.out (by simp)
        | succ j =>
          have hj1 : ((j + 1 : Nat) : Int).toNat = j + 1 := by omega
          obtain ⟨a, ha⟩ : ∃ a, ss[j]? = some a := ⟨_, List.getElem?_eq_getElem (by omega)⟩
          have c1 := hownx.cellAt (j + 1) (by omega)
          have c0 := hownx.cellAt j (by omega)
          have f1 := hownx.frozenAt (j + 1)
          have f0 := hownx.frozenAt j
          rw [List.getElem?_map, insAt_at ss key hk] at c1
          rw [List.getElem?_map, insAt_before ss key (Nat.lt_succ_self j) hk, ha] at c0
          simp only [Option.map_some] at c1 c0
          have HAA := hid ha
          have hd : (0 : Int) < ((j + 1 : Nat) : Int) := by omega
          clear ha
          cases hlt : blt key a
          · have hlt' : Op.bytesLess key.toList a.toList = false := hlt
            have HLT := hid hlt
            clear hlt
            go_wp2_with fail
            go_quiet (fail)
            go_wp2_with fail
            have hab : blt a key = true := by
              rcases blt_tri key a with h | h | h
              · rw [HLT.out] at h; cases h
              · exact absurd (h ▸ List.mem_of_getElem? HAA.out) HN.out
              · exact h
            exact FIN.out (j + 1) _ hk hownx (grown_draws HG.out _) HA.out (take_lt HV.out.1 HAA.out hab)
          · have hlt' : Op.bytesLess key.toList a.toList = true := hlt
            have HLT := hid hlt
            clear hlt
            go_wp2_with fail
            go_quiet (fail)
            go_wp2_with fail
            go_region
            go_wp2_with fail
            go_roundw
            case rel =>
              obtain ⟨o1, g1⟩ := World.ownsRow.stored (w := wr.drewN (nq + 1)) hownx (j + 1) (.string a)
              obtain ⟨o2, g2⟩ := o1.stored j (.string key)
              refine ⟨j, rfl, by omega, ?_, hid (((grown_draws HG.out _).trans g1).trans g2), hid ?_⟩
              · have e : ((List.map Value.string (insAt ss key (j + 1))).set (j + 1) (.string a)).set j (.string key) = List.map Value.string (insAt ss key j) := by
                  rw [← insAt_swap HAA.out, List.map_set, List.map_set]
                rw [← e]; exact o2
              · intro b hb
                rw [List.drop_eq_getElem_cons (by omega)] at hb
                rcases List.mem_cons.1 hb with rfl | hb
                · have := HAA.out
                  rw [List.getElem?_eq_getElem (by omega)] at this
                  cases this; exact HLT.out
                · exact HA.out b hb
            case measure => show ((j : Nat) : Int).toNat < ((j + 1 : Nat) : Int).toNat; omega
end Go.Proofs.Ytempfaefopfobaa
