/- ToSch: impl.toSchema. -/
import Derived.Test.YtempfaefopfobaaSch

set_option maxRecDepth 100000
namespace Go.Proofs.Ytempfaefopfobaa
open Go.ChangeShapes Go.WideShapes Go.ChangeAt Go.RowKit
set_option linter.unusedVariables false
set_option linter.unusedSimpArgs false

theorem own_setCell_ne' {w : World} {base : Nat} {e : TypeId} {size : Nat} {v : Value} {n : Nat} {xs : List Value} (h : w.ownsRow base e size v n xs) {a : Addr} (hne : some a.block ≠ v.ownBlock) (u : Value) : (w.setCell a u).ownsRow base e size v n xs := by
  refine ⟨h.1, ?_⟩
  rcases h.2 with h' | ⟨g, cap, cur, rfl, hb, hh, hr⟩
  · exact .inl h'
  · exact .inr ⟨g, cap, cur, rfl, hb, by rw [Below.heap_setCell _ _ _ _ (fun e => hne (by simp [Value.ownBlock, e]))]; exact hh, hr⟩
theorem sch_of_row {S : Nat → Prop} {w : World} {P base n c : Nat} {a : Option Addr} {xs : List Value} {ts : List (ByteArray × GS)} (hP : w.heap[P]? = some (.cells #[.slice a n c] 187)) (hown : w.ownsRow base 140 4 (.slice a n c) n xs) (hrow : RowD S w xs ts) (hsz : ts.length * 80 ≤ 140737488351232) : PSch S w P ts := by
  have hn : n = ts.length := by have := hown.1; have := hrow.1; omega
  subst hn
  rcases Nat.eq_zero_or_pos ts.length with h0 | h0
  · obtain rfl : ts = [] := List.eq_nil_of_length_eq_zero h0
    exact ⟨a, 0, c, hP, hsz, fun i p hp => by simp at hp⟩
  · obtain ⟨g, cap, hv, -, -⟩ := hown.form (by omega)
    simp only [Value.slice.injEq, true_and] at hv
    obtain ⟨rfl, rfl⟩ := hv
    refine ⟨_, g, _, hP, hsz, fun i p hp => ?_⟩
    have hi := (List.getElem?_eq_some_iff.1 hp).1
    obtain ⟨h1, h2, q, r, s, h3, h4⟩ := hrow.2 i p hp
    refine ⟨rfl, h1, h2, q, r, s, fun j u hu => ?_, h4⟩
    have hj := (List.getElem?_eq_some_iff.1 hu).1
    simp only [List.length_cons, List.length_nil] at hj
    exact (hown.cellAt (i * 4 + j) (by omega)).trans (h3 j u hu)
set_option maxHeartbeats 4000000 in
theorem toSchema_any (v : Value) (ts : List (ByteArray × GS)) (w : World) (h : RepDefs Any w v ts) :
    Calls Try.prog 76 #[.agg #[v]] w fun e w' => (∃ b, e = .returned (.pointer (some ⟨b, 0, none⟩)) ∧ w.heap.size ≤ b ∧ PSch (fun x => w.heap.size ≤ x) w' b ts) ∧ Ext w w' := by
  obtain ⟨i0, hi, hz0, hz1, hz2⟩ := info_parts infoDef
  obtain ⟨a, b, o, c, rfl, hb, hat⟩ := h.at'
  have HA := hid hat
  clear h hat
  have HE0 := hid (((Ext.refl w).alloc (.cells #[.slice a ts.length c] 62)).alloc (.cells #[.slice none 0 0] 187))
  have HV0 := hid (second_heap w (.cells #[.slice a ts.length c] 62) (.cells #[.slice none 0 0] 187))
  go_enter Try.func76, Try.ntmps76
  go_wp2_with fail
  go_loopw [11] (fun i wr => ∃ (k : Nat) (v : Value) (ys : List Value), i = .int .i64 k ∧ k ≤ ts.length ∧ Hid (wr.heap[w.heap.size + 1]? = some (.cells #[v] 187)) ∧ Hid (wr.ownsRow (w.heap.size + 2) 140 4 v k ys) ∧ Hid (RowD (fun b => w.heap.size ≤ b ∧ b ≠ w.heap.size + 1 ∧ some b ≠ v.ownBlock) wr ys (ts.take k)) ∧ Hid (Ext w wr) ∧ Hid (w.heap.size + 2 ≤ wr.heap.size)) (fun i _ => ts.length - (intOf i).toNat)
  case atStart => exact ⟨0, .slice none 0 0, [], rfl, Nat.zero_le _, HV0, hid (World.ownsRow_nil _ _ _ _), hid (RowD.nil _ _), HE0, hid (by simp)⟩
  case round =>
    obtain ⟨k, v, ys, rfl, hk, HV, HO, HF, HE, HS⟩ := hrel
    obtain ⟨va, vc, rfl⟩ := own_form HO.out
    have HNV := hid (show some (w.heap.size + 1) ≠ (Value.slice va k vc).ownBlock from fun e => by have := own_ge HO.out _ e.symm; omega)
    by_cases h1 : k < ts.length
    · obtain ⟨p, hp⟩ : ∃ p, ts[k]? = some p := ⟨_, List.getElem?_eq_getElem h1⟩
      obtain ⟨rfl, htag, hsz, s, p0, p1, p2, q0, q1, q2, hc, hR⟩ := HA.out k p hp
      obtain ⟨e0, e1, e2, e3⟩ := (show wr.cell? ⟨b, o + k * 4, none⟩ = some (.string p.1) ∧ wr.cell? ⟨b, o + k * 4 + 1, none⟩ = some (.string s) ∧ wr.cell? ⟨b, o + k * 4 + 2, none⟩ = some (.slice p0 p1 p2) ∧ wr.cell? ⟨b, o + k * 4 + 3, none⟩ = some (.slice q0 q1 q2) from
        ⟨HE.out.cellS (by simpa using hc 0 _ rfl), HE.out.cellS (hc 1 _ rfl), HE.out.cellS (hc 2 _ rfl), HE.out.cellS (hc 3 _ rfl)⟩)
      have HTA := hid (fun W (hW : Ext w W) => toAtom_any p.2 htag W _ (hR.ext hW))
      have HTG := hid htag
      have HSZ := hid hsz
      have HTK := hid (show ts.take (k + 1) = ts.take k ++ [p] from take_snoc1 hp)
      have hi0 : (0 : Int) ≤ (k : Int) := by omega
      have hi1 : (k : Int) < (ts.length : Int) := by omega
      have KB := hid (show ∀ w' : World, Ext wr w' → w'.heap[wr.heap.size]? = some (.cells #[.string p.1, .string s, .slice p0 p1 p2, .slice q0 q1 q2] 69) → (fun w' : World => w'.cell? ⟨w.heap.size + 1, 0, none⟩ = some (.slice va k vc) ∧ w'.cell? ⟨wr.heap.size, 0, none⟩ = some (.string p.1) ∧ w'.cell? ⟨wr.heap.size, 1, none⟩ = some (.string s) ∧ w'.cell? ⟨wr.heap.size, 2, none⟩ = some (.slice p0 p1 p2) ∧ w'.cell? ⟨wr.heap.size, 3, none⟩ = some (.slice q0 q1 q2)) w' from fun w' h hb => ⟨h.cellS ((cell_of_heap HV.out 0).trans rfl), (cell_of_heap hb 0).trans rfl, (cell_of_heap hb 1).trans rfl, (cell_of_heap hb 2).trans rfl, (cell_of_heap hb 3).trans rfl⟩)
      clear hp hc hR htag hsz
      go_upto_region 5 with fail
      have HB4 := hid (heap_alloc_new wr (.cells #[.string p.1, .string s, .slice p0 p1 p2, .slice q0 q1 q2] 69))
      have HW4 := hid (((Ext.refl wr).alloc (.cells #[.string p.1, .string s, .slice p0 p1 p2, .slice q0 q1 q2] 69)))
      generalize wr.alloc (.cells #[.string p.1, .string s, .slice p0 p1 p2, .slice q0 q1 q2] 69) = w5 at *
      have HB5 := hid (show w5.drew.heap[wr.heap.size]? = some (.cells #[.string p.1, .string s, .slice p0 p1 p2, .slice q0 q1 q2] 69) from (Ext.refl w5).drew.block HB4.out)
      have HWD := hid (HW4.out.drew)
      have HED := hid (HE.out.trans HWD.out)
      clear HB4 HW4
      refine wp_region_late (fun w' : World => w'.cell? ⟨w.heap.size + 1, 0, none⟩ = some (.slice va k vc) ∧ w'.cell? ⟨wr.heap.size, 0, none⟩ = some (.string p.1) ∧ w'.cell? ⟨wr.heap.size, 1, none⟩ = some (.string s) ∧ w'.cell? ⟨wr.heap.size, 2, none⟩ = some (.slice p0 p1 p2) ∧ w'.cell? ⟨wr.heap.size, 3, none⟩ = some (.slice q0 q1 q2)) [15] (by kernel_rfl) ?hS1 (fun hHeld => ?_)
      case hS1 => (exact KB.out _ HWD.out HB5.out)
      generalize w5.drew = wd at *
      change wpAnyM _ _ _ _ _ _ 16 #[false, false, false, false, false, false, false, false, false, false, false, false, false, false, false, false] _ _
      refine wpAnyM_take (i := 0) (oi := { dst := some 15, op := Go.Op.move (Go.Operand.tmp 3), type := 135, pos := "convert.go:257", after := #[], guard := none }) (v := ?v2) rfl (by kernel_rfl) (fun _ _ _ h => h) (Or.inl ⟨by rfl, ?hy2⟩) (by assumption) ?rest2
      case hy2 => (intro wz hSw; (try dsimp only at hSw); go_simp; try with_reducible rfl)
      (try simp only [Act.put, List.setIfInBounds_toArray, List.set_cons_zero, List.set_cons_succ])
      refine wpAnyM_take (i := 1) (oi := { dst := some 16, op := Go.Op.move (Go.Operand.tmp 3), type := 135, pos := "convert.go:257", after := #[], guard := none }) (v := ?v3) rfl (by kernel_rfl) (fun _ _ _ h => h) (Or.inl ⟨by rfl, ?hy3⟩) (by assumption) ?rest3
      case hy3 => (intro wz hSw; (try dsimp only at hSw); go_simp; try with_reducible rfl)
      (try simp only [Act.put, List.setIfInBounds_toArray, List.set_cons_zero, List.set_cons_succ])
      refine wpAnyM_take (i := 2) (oi := { dst := some 17, op := Go.Op.nilCheck (Go.Operand.tmp 16), type := 0, pos := "convert.go:257", after := #[{ on := 1, ground := Go.Ground.data }], guard := none }) (v := ?v4) rfl (by kernel_rfl) (fun _ _ _ h => h) (Or.inl ⟨by rfl, ?hy4⟩) (by assumption) ?rest4
      case hy4 => (intro wz hSw; (try dsimp only at hSw); go_simp; try with_reducible rfl)
      (try simp only [Act.put, List.setIfInBounds_toArray, List.set_cons_zero, List.set_cons_succ])
      refine wpAnyM_take (i := 3) (oi := { dst := some 18, op := Go.Op.fieldAddr 187 (Go.Operand.tmp 17) 0, type := 0, pos := "convert.go:257", after := #[{ on := 2, ground := Go.Ground.data }], guard := none }) (v := ?v5) rfl (by kernel_rfl) (fun _ _ _ h => h) (Or.inl ⟨by rfl, ?hy5⟩) (by assumption) ?rest5
      case hy5 => (intro wz hSw; (try dsimp only at hSw); go_simp; try with_reducible rfl)
      (try simp only [Act.put, List.setIfInBounds_toArray, List.set_cons_zero, List.set_cons_succ])
      refine wpAnyM_take (i := 4) (oi := { dst := some 19, op := Go.Op.load 185 (Go.Operand.tmp 18), type := 185, pos := "convert.go:257", after := #[{ on := 3, ground := Go.Ground.data }], guard := none }) (v := ?v6) rfl (by kernel_rfl) (fun _ _ _ h => h) (Or.inl ⟨by rfl, ?hy6⟩) (by assumption) ?rest6
      case hy6 => (intro wz hSw; (try dsimp only at hSw); go_simp; try with_reducible rfl)
      (try simp only [Act.put, List.setIfInBounds_toArray, List.set_cons_zero, List.set_cons_succ])
      refine wpAnyM_take (i := 5) (oi := { dst := some 20, op := Go.Op.fieldAddr 69 (Go.Operand.tmp 5) 0, type := 0, pos := "convert.go:257", after := #[], guard := none }) (v := ?v7) rfl (by kernel_rfl) (fun _ _ _ h => h) (Or.inl ⟨by rfl, ?hy7⟩) (by assumption) ?rest7
      case hy7 => (intro wz hSw; (try dsimp only at hSw); go_simp; try with_reducible rfl)
      (try simp only [Act.put, List.setIfInBounds_toArray, List.set_cons_zero, List.set_cons_succ])
      refine wpAnyM_take (i := 6) (oi := { dst := some 21, op := Go.Op.load 9 (Go.Operand.tmp 20), type := 9, pos := "convert.go:257", after := #[{ on := 5, ground := Go.Ground.data }], guard := none }) (v := ?v8) rfl (by kernel_rfl) (fun _ _ _ h => h) (Or.inl ⟨by rfl, ?hy8⟩) (by assumption) ?rest8
      case hy8 => (intro wz hSw; (try dsimp only at hSw); go_simp; try with_reducible rfl)
      (try simp only [Act.put, List.setIfInBounds_toArray, List.set_cons_zero, List.set_cons_succ])
      refine wpAnyM_take (i := 7) (oi := { dst := some 22, op := Go.Op.fieldAddr 69 (Go.Operand.tmp 5) 1, type := 0, pos := "convert.go:257", after := #[], guard := none }) (v := ?v9) rfl (by kernel_rfl) (fun _ _ _ h => h) (Or.inl ⟨by rfl, ?hy9⟩) (by assumption) ?rest9
      case hy9 => (intro wz hSw; (try dsimp only at hSw); go_simp; try with_reducible rfl)
      (try simp only [Act.put, List.setIfInBounds_toArray, List.set_cons_zero, List.set_cons_succ])
      refine wpAnyM_take (i := 8) (oi := { dst := some 23, op := Go.Op.load 53 (Go.Operand.tmp 22), type := 53, pos := "convert.go:257", after := #[{ on := 7, ground := Go.Ground.data }], guard := none }) (v := ?v10) rfl (by kernel_rfl) (fun _ _ _ h => h) (Or.inl ⟨by rfl, ?hy10⟩) (by assumption) ?rest10
      case hy10 => (intro wz hSw; (try dsimp only at hSw); go_simp; try with_reducible rfl)
      (try simp only [Act.put, List.setIfInBounds_toArray, List.set_cons_zero, List.set_cons_succ])
      refine wpAnyM_ready (rs := [9]) (by kernel_rfl) (by simp) ?_
      refine AllReadyM.cons (o := { dst := some 24, op := Go.Op.call { callee := Go.Callee.value (Go.Operand.func 106), args := #[Go.Operand.tmp 23], argTypes := #[53] }, type := 123, pos := "convert.go:257", after := #[{ on := 8, ground := Go.Ground.data }], guard := none }) rfl (fun K hK => ?_) AllReadyM.nil
      refine step_call _ rfl 106 [.tmp 23] #[53] rfl (by kernel_rfl) [_] rfl (HTA.out wd HED.out) ?_
      rintro en w6 ⟨cs6, rfl, hT, hE⟩
      obtain ⟨u1, u2, u3, rfl⟩ := hT.formA HTG.out
      refine ⟨_, rfl, ?_⟩
      have HT6 := hid hT
      have HE6 := hid hE
      clear hT hE
      refine hK.out _ _ ?hS11 (fun hHeld => ?_)
      case hS11 => (exact KB.out _ (HWD.out.trans HE6.out) (HE6.out.block HB5.out))
      clear hK K
      (try simp only [Act.put, List.setIfInBounds_toArray, List.set_cons_zero, List.set_cons_succ])
      refine wpAnyM_ready (rs := [10]) (by kernel_rfl) (by simp) ?_
      refine AllReadyM.cons (o := { dst := some 25, op := Go.Op.build 140 #[(0, Go.Operand.tmp 21), (1, Go.Operand.tmp 24)], type := 140, pos := "convert.go:257", after := #[{ on := 6, ground := Go.Ground.data }, { on := 9, ground := Go.Ground.data }], guard := none }) rfl (fun K hK => ?_) AllReadyM.nil
      go_simp
      refine hK.out _ _ ?hS12 (fun hHeld => ?_)
      case hS12 => (exact KB.out _ (HWD.out.trans HE6.out) (HE6.out.block HB5.out))
      clear hK K
      (try simp only [Act.put, List.setIfInBounds_toArray, List.set_cons_zero, List.set_cons_succ])
      refine wpAnyM_ready (rs := [11]) (by kernel_rfl) (by simp) ?_
      refine AllReadyM.cons (o := { dst := some 26, op := Go.Op.buildSlice 185 1 #[(0, Go.Operand.tmp 25)], type := 185, pos := "convert.go:257", after := #[{ on := 10, ground := Go.Ground.data }], guard := none }) rfl (fun K hK => ?_) AllReadyM.nil
      go_simp
      refine hK.out _ _ ?hS13 (fun hHeld => ?_)
      case hS13 => (exact KB.out _ ((HWD.out.trans HE6.out).alloc _) (((Ext.refl w6).alloc _).block (HE6.out.block HB5.out)))
      clear hK K
      (try simp only [Act.put, List.setIfInBounds_toArray, List.set_cons_zero, List.set_cons_succ])
      refine wpAnyM_ready (rs := [12]) (by kernel_rfl) (by simp) ?_
      refine AllReadyM.cons (o := { dst := some 27, op := Go.Op.call { callee := Go.Callee.builtin Go.Builtin.append, args := #[Go.Operand.tmp 19, Go.Operand.tmp 26], argTypes := #[185, 185] }, type := 185, pos := "convert.go:257", after := #[{ on := 4, ground := Go.Ground.data }, { on := 11, ground := Go.Ground.data }, { on := 9, ground := Go.Ground.chain }], guard := none }) rfl (fun K hK => ?_) AllReadyM.nil
      refine step_append_lies _ rfl (.tmp 19) (.tmp 26) 185 rfl (w.heap.size + 2) 140 i0 _ 4 40 Try.underlying185 hi hz0 hz1 hz2 rfl (by decide) _ k ys rfl ((ownsRow_ext HO.out (HWD.out.trans HE6.out)).alloc _) ⟨w6.heap.size, 0, none⟩ 1 1 [.string p.1, .pointer u1, .pointer u2, .pointer u3] rfl rfl (cells_new w6 [.string p.1, .pointer u1, .pointer u2, .pointer u3] _) (by simp [Value.oneCell']) (by decide) (by unfold maxLen; omega) (by omega) (by have := HS.out; have := (HWD.out.trans HE6.out).size; simp; omega) (w6.heap.size + 1) (by simp) ?_
      intro g7 cap7 w7 hown7 hg7 hat7 hlt7
      have ST := hid (row_step HS.out HO.out (HWD.out.trans HE6.out) hown7 hg7 hat7)
      have HV7 := hid ((hg7.block (w.heap.size + 1) (by have := HS.out; have := (HWD.out.trans HE6.out).size; simp; omega) HNV.out).trans (((Ext.refl w6).alloc _).block ((HWD.out.trans HE6.out).block HV.out)))
      have HO7 := hid hown7
      clear hown7 hg7 hat7 hlt7
      have z7 := (cell_of_heap HV7.out 0).trans rfl
      have y7 := free_of_heap HV7.out 0
      refine hK.out _ _ ?hS14 (fun hHeld => ?_)
      case hS14 => (have h7 := ST.out.2.2.1 _ _ (Nat.le_refl wr.heap.size) (HE6.out.block HB5.out); exact ⟨z7, (cell_of_heap h7 0).trans rfl, (cell_of_heap h7 1).trans rfl, (cell_of_heap h7 2).trans rfl, (cell_of_heap h7 3).trans rfl⟩)
      clear hK K
      (try simp only [Act.put, List.setIfInBounds_toArray, List.set_cons_zero, List.set_cons_succ])
      refine wpAnyM_take (i := 13) (oi := { dst := some 28, op := Go.Op.nilCheck (Go.Operand.tmp 15), type := 0, pos := "convert.go:257", after := #[{ on := 0, ground := Go.Ground.data }, { on := 0, ground := Go.Ground.phase }, { on := 1, ground := Go.Ground.phase }, { on := 2, ground := Go.Ground.phase }, { on := 3, ground := Go.Ground.phase }, { on := 4, ground := Go.Ground.phase }, { on := 5, ground := Go.Ground.phase }, { on := 6, ground := Go.Ground.phase }, { on := 7, ground := Go.Ground.phase }, { on := 8, ground := Go.Ground.phase }, { on := 9, ground := Go.Ground.phase }, { on := 10, ground := Go.Ground.phase }, { on := 11, ground := Go.Ground.phase }, { on := 12, ground := Go.Ground.phase }], guard := none }) (v := ?v15) rfl (by kernel_rfl) (fun _ _ _ h => h) (Or.inl ⟨by rfl, ?hy15⟩) (by assumption) ?rest15
      case hy15 => (intro wz hSw; (try dsimp only at hSw); go_simp; try with_reducible rfl)
      (try simp only [Act.put, List.setIfInBounds_toArray, List.set_cons_zero, List.set_cons_succ])
      refine wpAnyM_take (i := 14) (oi := { dst := some 29, op := Go.Op.fieldAddr 187 (Go.Operand.tmp 28) 0, type := 0, pos := "convert.go:257", after := #[{ on := 13, ground := Go.Ground.data }, { on := 0, ground := Go.Ground.phase }, { on := 1, ground := Go.Ground.phase }, { on := 2, ground := Go.Ground.phase }, { on := 3, ground := Go.Ground.phase }, { on := 4, ground := Go.Ground.phase }, { on := 5, ground := Go.Ground.phase }, { on := 6, ground := Go.Ground.phase }, { on := 7, ground := Go.Ground.phase }, { on := 8, ground := Go.Ground.phase }, { on := 9, ground := Go.Ground.phase }, { on := 10, ground := Go.Ground.phase }, { on := 11, ground := Go.Ground.phase }, { on := 12, ground := Go.Ground.phase }], guard := none }) (v := ?v16) rfl (by kernel_rfl) (fun _ _ _ h => h) (Or.inl ⟨by rfl, ?hy16⟩) (by assumption) ?rest16
      case hy16 => (intro wz hSw; (try dsimp only at hSw); go_simp; try with_reducible rfl)
      (try simp only [Act.put, List.setIfInBounds_toArray, List.set_cons_zero, List.set_cons_succ])
      refine wpAnyM_ready (rs := [15]) (by kernel_rfl) (by simp) ?_
      refine AllReadyM.behind (o := { dst := none, op := Go.Op.store 185 (Go.Operand.tmp 29) (Go.Operand.tmp 27), type := 0, pos := "convert.go:257", after := #[{ on := 14, ground := Go.Ground.data }, { on := 12, ground := Go.Ground.data }, { on := 12, ground := Go.Ground.chain }, { on := 0, ground := Go.Ground.phase }, { on := 1, ground := Go.Ground.phase }, { on := 2, ground := Go.Ground.phase }, { on := 3, ground := Go.Ground.phase }, { on := 4, ground := Go.Ground.phase }, { on := 5, ground := Go.Ground.phase }, { on := 6, ground := Go.Ground.phase }, { on := 7, ground := Go.Ground.phase }, { on := 8, ground := Go.Ground.phase }, { on := 9, ground := Go.Ground.phase }, { on := 10, ground := Go.Ground.phase }, { on := 11, ground := Go.Ground.phase }, { on := 12, ground := Go.Ground.phase }], guard := none }) rfl (by kernel_rfl) (fun K hK => ?_) AllReadyM.nil
      go_simp
      refine hK.out _ _ ?_
      clear hK K
      (try simp only [Act.put, List.setIfInBounds_toArray, List.set_cons_zero, List.set_cons_succ])
      refine wpAnyM_done (by kernel_rfl) ?_ _
      go_wp2_with fail
      have hvar : some (w.heap.size + 1) ≠ (Value.slice (some ⟨g7, 0, none⟩) (k + 1) cap7).ownBlock := fun e => by have := own_ge HO7.out _ e.symm; omega
      have HB7 := hid ST.out.2.2.2.2.1
      refine ⟨⟨k + 1, _, _, by go_num, by omega, hid ((setCell_heap HV7.out 0 _).trans rfl), hid (own_setCell_ne' HO7.out hvar _), hid ?_, hid (Below.setCell (Below.trans (B := w.heap.size) HE.out (HB7.out.mono (by omega))) (Nat.le_succ _) _), hid (by have := HS.out; have := ST.out.2.2.2.2.2.1; simp; omega)⟩, by simp [intOf]; omega⟩
      rw [HTK.out]
      refine (HF.out.mono (S' := fun b => w.heap.size ≤ b ∧ b ≠ w.heap.size + 1 ∧ some b ≠ (Value.slice (some ⟨g7, 0, none⟩) (k + 1) cap7).ownBlock) (fun b ob hb hob => ?_) (fun b hb hlt => ⟨hb.1, hb.2.1, fun e => ST.out.2.1 b hlt hb.2.2 (Option.some.inj e)⟩)).snoc HTG.out HSZ.out (HT6.out.mono (fun b ob hb hob => ?_) (fun b hb hlt => ?_))
      · rw [Below.heap_setCell _ _ _ _ (show b ≠ w.heap.size + 1 from hb.2.1)]
        rcases Nat.lt_or_ge b (w.heap.size + 2) with h | h
        · exact (Below.block HB7.out b h).trans hob
        · exact ST.out.1 b ob ⟨h, hb.2.2⟩ hob
      · have := HS.out
        have := HWD.out.size
        have hb' : wd.heap.size ≤ b := hb
        rw [Below.heap_setCell _ _ _ _ (show b ≠ w.heap.size + 1 by omega)]
        exact ST.out.2.2.1 b ob (by show wr.heap.size ≤ b; omega) hob
      · have := HS.out
        have := HWD.out.size
        have hb' : wd.heap.size ≤ b := hb
        exact ⟨by omega, by omega, fun e => ST.out.2.2.2.1 b (by omega) hlt (Option.some.inj e)⟩
    · have hkk : k = ts.length := by omega
      have HK := hid hkk
      have HF' := hid (show RowD (fun x => w.heap.size ≤ x) wr ys ts by have h := HF.out.mono (Same.refl _ _) (S' := fun x => w.heap.size ≤ x) (fun _ h _ => h.1); rwa [List.take_of_length_le (by omega)] at h)
      go_wp2_with fail
      go_ret
      exact ⟨⟨_, rfl, Nat.le_succ _, sch_of_row HV.out HO.out HF'.out hb⟩, HE.out⟩
end Go.Proofs.Ytempfaefopfobaa
