/- FnKeyInAnyOrder: in which order the fields of a key are given, whose names differ, does not matter: the key is the same, and equal to every other one that is made of them (values without NaN and without whole numbers beyond 2^53); for every input. -/
import Derived.Test.YtempfaefopfobaaGK
import Derived.Test.YtempfaefopfobaaOrdVals
import Derived.Test.YtempfaefopfobaaFits
import Derived.Test.YtempfaefopfobaaGE
import Derived.Test.YtempfaefopfobaaSameElem
import Derived.ChangeMaps5

namespace Go.Proofs.Ytempfaefopfobaa.fnKeyAny
open Go.ChangeShapes Go.WideShapes Go.ChangeAt Go.RowKit
set_option linter.unusedSimpArgs false
set_option linter.unusedVariables false
set_option maxRecDepth 100000
theorem nonan_again : ∀ (N : Nat) (t : Tree), SizeOf.sizeOf t ≤ N → NoNaN t → NoNaN (plainT (fromT t))
  | 0, t, h, _ => by have := t.size_pos; omega
  | N + 1, t, h, w => by
    cases w with
    | null => exact .null
    | bool b => exact .bool _
    | int n => exact .int n
    | flt f hf => exact .flt f hf
    | str s => exact .str s
    | list l hl =>
      refine .list _ fun t ht => ?_
      rw [plainTs_eq, fromTs_eq, List.map_map] at ht
      obtain ⟨x, hx, rfl⟩ := List.mem_map.1 ht
      exact nonan_again N x (by have := Tree.mem_list hx; omega) (hl x hx)
    | map m hm =>
      refine .map _ (fold_all _ _ (by simp) fun p hp => ?_)
      have h2 := (List.of_mem_zip (show (p.1, p.2) ∈ (sortN (m.map (·.1))).zip (plainTs ((sortN (m.map (·.1))).map (lookG (fromTm m)))) from hp)).2
      rw [srt_vals, plainTs_eq, List.map_map] at h2
      obtain ⟨q, hq, hq2⟩ := List.mem_map.1 h2
      rw [← hq2]
      have hqm := srt_mem hq
      exact nonan_again N q.2 (by have := Tree.size_map (k := q.1) (t := q.2) hqm; omega) (hm q hqm)
theorem key_refl {fs : List (ByteArray × Tree)} (h : ∀ p ∈ fs, NoNaN p.2) : eqE (toEl (fromEl (.key fs))) (toEl (fromEl (.key fs))) = true := by
  show eqFs eqT ((fs.map (·.1)).zip (plainTs (fs.map fun p => fromT p.2))) ((fs.map (·.1)).zip (plainTs (fs.map fun p => fromT p.2))) = true
  refine eqFs_refl fun p hp => ?_
  have h2 := (List.of_mem_zip (show (p.1, p.2) ∈ (fs.map (·.1)).zip (plainTs (fs.map fun p => fromT p.2)) from hp)).2
  rw [plainTs_eq, List.map_map] at h2
  obtain ⟨q, hq, hq2⟩ := List.mem_map.1 h2
  rw [← hq2]
  exact eq_self (wfT _) (nonan_again _ q.2 (Nat.le_refl _) (h q hq))
theorem cells_at {W : World} {b : Nat} {cs : List Value} {t : TypeId} (h : W.heap[b]? = some (.cells cs.toArray t)) : ∀ j u, cs[j]? = some u → W.cell? ((⟨b, 0, none⟩ : Addr).add j) = some u := by
  intro j u hu
  have := (slotL h j u hu).1
  rw [addr_add rfl, Nat.zero_add]
  exact this
set_option maxHeartbeats 40000000 in
theorem walk (names : List ByteArray) (l : List GV) (t : Int) (w : World) (nv lv : Value) (h0 : RepStrs Any w nv names) (h1 : RepVals Any w lv l) (ht : (Lit.int .i64 t).wf = true) :
    Calls Try.prog 4 #[nv, lv, .int .i64 t] w fun en w' => en = .returned (.bool true) ∧ Ext w w' := by
  obtain ⟨is, his, hs0, hs1, hs2⟩ := info_parts infoStr
  obtain ⟨i0, hi, hz0, hz1, hz2⟩ := info_parts info_val
  obtain ⟨na, nb, no, nc, rfl, nsz, nat⟩ := h0.at'
  obtain ⟨va, vb, vo, vc, rfl, vsz, vat⟩ := h1.at'
  have HN := hid h0
  have HV := hid h1
  have HNA := hid nat
  have HVA := hid vat
  obtain ⟨n, hn⟩ : ∃ n, n = min names.length l.length := ⟨_, rfl⟩
  have hnn : n ≤ names.length := by omega
  have hnl : n ≤ l.length := by omega
  have hnc : names.length ≤ nc := by
    obtain ⟨a', b', o', c', e, h1, -⟩ := h0
    simp only [Value.slice.injEq] at e
    obtain ⟨-, -, rfl⟩ := e
    exact h1
  have hvc : l.length ≤ vc := by
    obtain ⟨a', b', o', c', e, h1, -⟩ := h1
    simp only [Value.slice.injEq] at e
    obtain ⟨-, -, rfl⟩ := e
    exact h1
  have HD := hid (fun W (E : Ext w W) => distinct_any _ (names.take n) W ((h0.ext E).take hnn))
  have HO := hid (fun W (E : Ext w W) => ordVals_any _ (l.take n) W ((h1.ext E).take hnl))
  obtain ⟨z1, hz1⟩ : ∃ z, (decide (names.take n).Nodup && decide ((names.take n).length ≤ 40)) = z := ⟨_, rfl⟩
  obtain ⟨z2, hz2⟩ : ∃ z, ordGs (l.take n) = z := ⟨_, rfl⟩
  rw [hz1] at HD
  rw [hz2] at HO
  have HZ1 := hid hz1
  have HZ2 := hid hz2
  have HM := hid (show (if l.length < names.length then (l.length : Int) else (names.length : Int)) = (n : Int) by split <;> omega)
  have HT := hid ht
  have HNM := hid hn
  clear h0 h1 nat vat hz1 hz2 ht hn
  go_enter Try.func4, Try.ntmps4
  by_cases hbig : (l.length : Int) > 2147483647
  · go_wp2_with (go_at_call 14; refine (fits2_any _ names _ HN.out).mono ?_; rintro en w2 ⟨b, rfl, hE⟩; have HE2 := hid hE; cases b <;> clear hE)
    all_goals
      go_ret
      exact ⟨rfl, HE2.out⟩
  go_upto_region 4 with (go_at_call 14; refine (fits2_any _ names _ HN.out).mono ?_; rintro en w2 ⟨b, rfl, hE⟩; have HE2 := hid hE; cases b <;> clear hE)
  · go_ret
    exact ⟨rfl, HE2.out⟩
  simp only [HM.out]
  by_cases h0 : n = 0
  · have hz : (n : Int) = 0 := by omega
    go_wp2_with fail
    go_ret
    exact ⟨rfl, HE2.out⟩
  have hz : ¬ ((n : Int) = 0) := by omega
  have hzb : ((n : Int) == 0) = false := by simp; omega
  have i00 : (0 : Int) ≤ (n : Int) := by omega
  have i1 : (n : Int) ≤ (nc : Int) := by omega
  have i2 : (n : Int) ≤ (vc : Int) := by omega
  go_upto_region 6 with (first
    | (go_at_call 15; refine (HD.out _ HE2.out).mono ?_; rintro en w3 ⟨rfl, hE⟩; have HE3 := hid (HE2.out.trans hE); cases z1 <;> clear hE)
    | (go_at_call 16; refine (HO.out _ HE3.out).mono ?_; rintro en w4 ⟨rfl, hE⟩; have HE4 := hid (HE3.out.trans hE); cases z2 <;> clear hE))
  · go_ret
    exact ⟨rfl, HE3.out⟩
  · go_ret
    exact ⟨rfl, HE4.out⟩
  have hn40 : n ≤ 40 := by
    have h := HZ1.out
    rw [Bool.and_eq_true] at h
    have := of_decide_eq_true h.2
    rw [List.length_take] at this
    omega
  obtain ⟨u, hu, htu⟩ := turn_range t n (by omega)
  have hb1 := Int.tmod_lt_of_pos t (show (0 : Int) < n by omega)
  have hb2 : -(n : Int) < t.tmod n := by
    have h := Int.tmod_lt_of_pos (-t) (show (0 : Int) < n by omega)
    rw [Int.neg_tmod] at h
    omega
  have hw1 : IntKind.i64.wrap (t.tmod n) = t.tmod n := by simp [IntKind.wrap, IntKind.signed, IntKind.bits]; omega
  have hw2 : IntKind.i64.wrap (t.tmod n + n) = t.tmod n + n := by simp [IntKind.wrap, IntKind.signed, IntKind.bits]; omega
  have hw3 : IntKind.i64.wrap (u : Int) = (u : Int) := by simp [IntKind.wrap, IntKind.signed, IntKind.bits]; omega
  clear hb1 hb2
  have HW1 := hid (show K4 w4 ((w4.alloc (.cells #[.int .i64 1, .string ⟨#[]⟩, .slice none 0 0, .slice none 0 0, .int .i64 0, .int .i64 0, .float .f64 0, .string ⟨#[]⟩, .slice none 0 0, .slice none 0 0, .int .i64 0] 34)).alloc (.cells #[.int .i64 1, .string ⟨#[]⟩, .slice none 0 0, .slice none 0 0, .int .i64 0, .int .i64 0, .float .f64 0, .string ⟨#[]⟩, .slice none 0 0, .slice none 0 0, .int .i64 0] 34)) w4.heap.size w4.heap.size (w4.heap.size + 1) (w4.heap.size + 2) (.slice none 0 0) (.slice none 0 0) (.slice none 0 0) (.slice none 0 0) (.slice none 0 0) (.slice none 0 0) (.slice none 0 0) (.slice none 0 0) 0 0 0 0 [] [] [] [] [] [] from
    ⟨((Ext.refl w4).alloc _).alloc _, first_heap _ _ _, second_heap _ _ _, ⟨Nat.le_refl _, by omega⟩, ⟨by omega, by omega⟩, by omega, by simp, World.ownsRow_nil _ _ _ _, World.ownsRow_nil _ _ _ _, World.ownsRow_nil _ _ _ _, World.ownsRow_nil _ _ _ _, .inl rfl, .inl rfl, RowGV.nil _ _, RowGV.nil _ _⟩)
  go_wp2_with fail
  clear hw1 hw2 hw3 htu
  go_loopw [10] (fun i wr => ∃ (k : Nat) (ak al bk bl : Value) (xa xb : List Value), i = .int .i64 k ∧ k ≤ n ∧ Hid (K4 w4 wr w4.heap.size w4.heap.size (w4.heap.size + 1) (w4.heap.size + 2) ak al bk bl ak al bk bl k k k k (names.take k) ((rotL (names.take n) u).take k) xa xb (l.take k) ((rotL (l.take n) u).take k))) (fun i _ => n - (intOf i).toNat)
  case atStart => exact ⟨0, _, _, _, _, _, _, rfl, Nat.zero_le _, hid (by simpa using HW1.out)⟩
  case round =>
    obtain ⟨k, ak, al, bk, bl, xa, xb, rfl, hk, HQ⟩ := hrel
    by_cases h1 : k < n
    · obtain ⟨s, hs⟩ : ∃ s, names[k]? = some s := ⟨_, List.getElem?_eq_getElem (by omega)⟩
      obtain ⟨g, hg⟩ : ∃ g, l[k]? = some g := ⟨_, List.getElem?_eq_getElem (by omega)⟩
      obtain ⟨j, hj⟩ : ∃ j, j = (k + u) % n := ⟨_, rfl⟩
      have hjn : j < n := by rw [hj]; exact Nat.mod_lt _ (by omega)
      obtain ⟨s', hs'⟩ : ∃ s, names[j]? = some s := ⟨_, List.getElem?_eq_getElem (by omega)⟩
      obtain ⟨g', hg'⟩ : ∃ g, l[j]? = some g := ⟨_, List.getElem?_eq_getElem (by omega)⟩
      have HT1 := hid (show names.take (k + 1) = names.take k ++ [s] ∧ l.take (k + 1) = l.take k ++ [g] from ⟨take_snoc' hs, take_snoc' hg⟩)
      have HT2 := hid (show (rotL (names.take n) u).take (k + 1) = (rotL (names.take n) u).take k ++ [s'] ∧ (rotL (l.take n) u).take (k + 1) = (rotL (l.take n) u).take k ++ [g'] from by
        have l1 : (names.take n).length = n := by rw [List.length_take]; omega
        have l2 : (l.take n).length = n := by rw [List.length_take]; omega
        refine ⟨take_snoc' ?_, take_snoc' ?_⟩
        · rw [rotL_get (by omega) (by omega), l1, ← hj, List.getElem?_take_of_lt hjn]; exact hs'
        · rw [rotL_get (by omega) (by omega), l2, ← hj, List.getElem?_take_of_lt hjn]; exact hg')
      obtain ⟨rfl, kc1, -⟩ := HNA.out k s hs
      obtain ⟨rfl, r1, r2, r3, r4, r5, r6, r7, r8, r9, r10, vc1, hR1⟩ := HVA.out k g hg
      obtain ⟨-, kc2, -⟩ := HNA.out j s' hs'
      obtain ⟨-, m1, m2, m3, m4, m5, m6, m7, m8, m9, m10, vc2, hR2⟩ := HVA.out j g' hg'
      obtain ⟨ya, yc, rfl⟩ := own_form HQ.out.rka
      obtain ⟨la, lc, rfl⟩ := own_form HQ.out.rla
      obtain ⟨yb, yd, rfl⟩ := own_form HQ.out.rkb
      obtain ⟨lb, ld, rfl⟩ := own_form HQ.out.rlb
      have KA := hid (show ∀ W : World, Below w4.heap.size w4 W → W.heap[w4.heap.size]? = some (.cells #[.int .i64 1, .string ⟨#[]⟩, .slice ya k yc, .slice la k lc, .int .i64 0, .int .i64 0, .float .f64 0, .string ⟨#[]⟩, .slice none 0 0, .slice none 0 0, .int .i64 0] 34) → (fun w' : World => w'.cell? ⟨w4.heap.size, 2, none⟩ = some (.slice ya k yc) ∧ w'.cell? ⟨w4.heap.size, 3, none⟩ = some (.slice la k lc) ∧ w'.cell? ⟨nb, no + k, none⟩ = some (.string s) ∧ w'.cell? ⟨vb, vo + k * 6, none⟩ = some (.int .i64 r1) ∧ w'.cell? ⟨vb, vo + k * 6 + 1, none⟩ = some (.int .i64 r2) ∧ w'.cell? ⟨vb, vo + k * 6 + 2, none⟩ = some (.float .f64 r3) ∧ w'.cell? ⟨vb, vo + k * 6 + 3, none⟩ = some (.string r4) ∧ w'.cell? ⟨vb, vo + k * 6 + 4, none⟩ = some (.slice r5 r6 r7) ∧ w'.cell? ⟨vb, vo + k * 6 + 5, none⟩ = some (.slice r8 r9 r10)) W from fun W hb hx => by
        obtain ⟨⟨-, -, q2, q3, -⟩, -⟩ := slot11 hx
        have hE : Ext w W := HE4.out.trans hb
        obtain ⟨c0, c1, c2, c3, c4, c5⟩ := cells6 (cellsAt_ext hE vc1)
        exact ⟨q2, q3, hE.cellS kc1, c0, c1, c2, c3, c4, c5⟩)
      have KB := hid (show ∀ W : World, Below w4.heap.size w4 W → W.heap[w4.heap.size + 1]? = some (.cells #[.int .i64 1, .string ⟨#[]⟩, .slice yb k yd, .slice lb k ld, .int .i64 0, .int .i64 0, .float .f64 0, .string ⟨#[]⟩, .slice none 0 0, .slice none 0 0, .int .i64 0] 34) → (fun w' : World => w'.cell? ⟨w4.heap.size + 1, 2, none⟩ = some (.slice yb k yd) ∧ w'.cell? ⟨w4.heap.size + 1, 3, none⟩ = some (.slice lb k ld) ∧ w'.cell? ⟨nb, no + j, none⟩ = some (.string s') ∧ w'.cell? ⟨vb, vo + j * 6, none⟩ = some (.int .i64 m1) ∧ w'.cell? ⟨vb, vo + j * 6 + 1, none⟩ = some (.int .i64 m2) ∧ w'.cell? ⟨vb, vo + j * 6 + 2, none⟩ = some (.float .f64 m3) ∧ w'.cell? ⟨vb, vo + j * 6 + 3, none⟩ = some (.string m4) ∧ w'.cell? ⟨vb, vo + j * 6 + 4, none⟩ = some (.slice m5 m6 m7) ∧ w'.cell? ⟨vb, vo + j * 6 + 5, none⟩ = some (.slice m8 m9 m10)) W from fun W hb hx => by
        obtain ⟨⟨-, -, q2, q3, -⟩, -⟩ := slot11 hx
        have hE : Ext w W := HE4.out.trans hb
        obtain ⟨c0, c1, c2, c3, c4, c5⟩ := cells6 (cellsAt_ext hE vc2)
        exact ⟨q2, q3, hE.cellS kc2, c0, c1, c2, c3, c4, c5⟩)
      have HG1 := hid (show ∀ W : World, Below w4.heap.size w4 W → RepGV (fun b => b < w4.heap.size) W g [.int .i64 r1, .int .i64 r2, .float .f64 r3, .string r4, .slice r5 r6 r7, .slice r8 r9 r10] from fun W hb => ((hR1.ext HE4.out).weak (fun b _ h => h)).mono (Ext.same hb _) (fun b h _ => h))
      have HG2 := hid (show ∀ W : World, Below w4.heap.size w4 W → RepGV (fun b => b < w4.heap.size) W g' [.int .i64 m1, .int .i64 m2, .float .f64 m3, .string m4, .slice m5 m6 m7, .slice m8 m9 m10] from fun W hb => ((hR2.ext HE4.out).weak (fun b _ h => h)).mono (Ext.same hb _) (fun b h _ => h))
      have OC1 := hid (rep_oneCell hR1)
      have OC2 := hid (rep_oneCell hR2)
      have e1 : IntKind.i64.wrap ((k : Int) + u) = (k : Int) + u := by simp [IntKind.wrap, IntKind.signed, IntKind.bits]; omega
      have e2 : ((k : Int) + u).tmod n = (j : Int) := by rw [Int.tmod_eq_emod_of_nonneg (by omega), hj, Int.natCast_emod, Int.natCast_add]
      have e3 : IntKind.i64.wrap (j : Int) = (j : Int) := by simp [IntKind.wrap, IntKind.signed, IntKind.bits]; omega
      have p0 : (0 : Int) ≤ (k : Int) := by omega
      have p1 : (k : Int) < (names.length : Int) := by omega
      have p2 : (k : Int) < (l.length : Int) := by omega
      have q0 : (0 : Int) ≤ (j : Int) := by omega
      have q1 : (j : Int) < (names.length : Int) := by omega
      have q2 : (j : Int) < (l.length : Int) := by omega
      have HK40 := hid (show k < 40 by omega)
      clear hs hg hs' hg' kc1 kc2 vc1 vc2 hR1 hR2 hj
      go_upto_region 12 with fail
      clear e1 e2 e3
      go_cut [] from 62 to 79 (fun wx => ∃ ak al xa, Hid (K4 w4 wx w4.heap.size w4.heap.size (w4.heap.size + 1) (w4.heap.size + 2) ak al (.slice yb k yd) (.slice lb k ld) ak al (.slice yb k yd) (.slice lb k ld) (k + 1) (k + 1) (k) (k) (names.take (k + 1)) ((rotL (names.take n) u).take k) xa xb (l.take (k + 1)) ((rotL (l.take n) u).take k)))
      case first =>
        have HQ0 := hid (HQ.out.ext ((Ext.refl wr).drew))
        refine wp_region_late (fun w' : World => w'.cell? ⟨w4.heap.size, 2, none⟩ = some (.slice ya k yc) ∧ w'.cell? ⟨w4.heap.size, 3, none⟩ = some (.slice la k lc) ∧ w'.cell? ⟨nb, no + k, none⟩ = some (.string s) ∧ w'.cell? ⟨vb, vo + k * 6, none⟩ = some (.int .i64 r1) ∧ w'.cell? ⟨vb, vo + k * 6 + 1, none⟩ = some (.int .i64 r2) ∧ w'.cell? ⟨vb, vo + k * 6 + 2, none⟩ = some (.float .f64 r3) ∧ w'.cell? ⟨vb, vo + k * 6 + 3, none⟩ = some (.string r4) ∧ w'.cell? ⟨vb, vo + k * 6 + 4, none⟩ = some (.slice r5 r6 r7) ∧ w'.cell? ⟨vb, vo + k * 6 + 5, none⟩ = some (.slice r8 r9 r10)) [17, 19] (by kernel_rfl) ?hS1 (fun hHeld => ?_)
        case hS1 => (exact KA.out _ HQ0.out.below HQ0.out.outA)
        generalize wr.drew = wd at *
        refine wpAnyM_take (i := 0) (oi := { dst := some 62, op := Go.Op.fieldAddr 34 (Go.Operand.tmp 8) 2, type := 0, pos := "walks.go:211", after := #[], guard := none }) (v := ?v2) rfl (by kernel_rfl) (fun _ _ _ h => h) (Or.inl ⟨by rfl, ?hy2⟩) (by assumption) ?rest2
        case hy2 => (intro wz hSw; (try dsimp only at hSw); go_simp; try with_reducible rfl)
        (try simp only [Act.put, List.setIfInBounds_toArray, List.set_cons_zero, List.set_cons_succ])
        refine wpAnyM_take (i := 1) (oi := { dst := some 63, op := Go.Op.load 26 (Go.Operand.tmp 62), type := 26, pos := "walks.go:211", after := #[{ on := 0, ground := Go.Ground.data }], guard := none }) (v := ?v3) rfl (by kernel_rfl) (fun _ _ _ h => h) (Or.inl ⟨by rfl, ?hy3⟩) (by assumption) ?rest3
        case hy3 => (intro wz hSw; (try dsimp only at hSw); go_simp; try with_reducible rfl)
        (try simp only [Act.put, List.setIfInBounds_toArray, List.set_cons_zero, List.set_cons_succ])
        refine wpAnyM_take (i := 2) (oi := { dst := some 64, op := Go.Op.move (Go.Operand.tmp 0), type := 26, pos := "walks.go:211", after := #[], guard := none }) (v := ?v4) rfl (by kernel_rfl) (fun _ _ _ h => h) (Or.inl ⟨by rfl, ?hy4⟩) (by assumption) ?rest4
        case hy4 => (intro wz hSw; (try dsimp only at hSw); go_simp; try with_reducible rfl)
        (try simp only [Act.put, List.setIfInBounds_toArray, List.set_cons_zero, List.set_cons_succ])
        refine wpAnyM_take (i := 3) (oi := { dst := some 65, op := Go.Op.move (Go.Operand.tmp 10), type := 3, pos := "walks.go:211", after := #[], guard := none }) (v := ?v5) rfl (by kernel_rfl) (fun _ _ _ h => h) (Or.inl ⟨by rfl, ?hy5⟩) (by assumption) ?rest5
        case hy5 => (intro wz hSw; (try dsimp only at hSw); go_simp; try with_reducible rfl)
        (try simp only [Act.put, List.setIfInBounds_toArray, List.set_cons_zero, List.set_cons_succ])
        refine wpAnyM_take (i := 4) (oi := { dst := some 66, op := Go.Op.indexAddr 26 (Go.Operand.tmp 64) (Go.Operand.tmp 65), type := 0, pos := "walks.go:211", after := #[{ on := 2, ground := Go.Ground.data }, { on := 3, ground := Go.Ground.data }], guard := none }) (v := ?v6) rfl (by kernel_rfl) (fun _ _ _ h => h) (Or.inl ⟨by rfl, ?hy6⟩) (by assumption) ?rest6
        case hy6 => (intro wz hSw; (try dsimp only at hSw); go_simp; try with_reducible rfl)
        (try simp only [Act.put, List.setIfInBounds_toArray, List.set_cons_zero, List.set_cons_succ])
        refine wpAnyM_take (i := 5) (oi := { dst := some 67, op := Go.Op.load 9 (Go.Operand.tmp 66), type := 9, pos := "walks.go:211", after := #[{ on := 4, ground := Go.Ground.data }], guard := none }) (v := ?v7) rfl (by kernel_rfl) (fun _ _ _ h => h) (Or.inl ⟨by rfl, ?hy7⟩) (by assumption) ?rest7
        case hy7 => (intro wz hSw; (try dsimp only at hSw); go_simp; try with_reducible rfl)
        (try simp only [Act.put, List.setIfInBounds_toArray, List.set_cons_zero, List.set_cons_succ])
        refine wpAnyM_take (i := 8) (oi := { dst := some 70, op := Go.Op.fieldAddr 34 (Go.Operand.tmp 8) 3, type := 0, pos := "walks.go:211", after := #[], guard := none }) (v := ?v8) rfl (by kernel_rfl) (fun _ _ _ h => h) (Or.inl ⟨by rfl, ?hy8⟩) (by assumption) ?rest8
        case hy8 => (intro wz hSw; (try dsimp only at hSw); go_simp; try with_reducible rfl)
        (try simp only [Act.put, List.setIfInBounds_toArray, List.set_cons_zero, List.set_cons_succ])
        refine wpAnyM_take (i := 9) (oi := { dst := some 71, op := Go.Op.load 27 (Go.Operand.tmp 70), type := 27, pos := "walks.go:211", after := #[{ on := 8, ground := Go.Ground.data }], guard := none }) (v := ?v9) rfl (by kernel_rfl) (fun _ _ _ h => h) (Or.inl ⟨by rfl, ?hy9⟩) (by assumption) ?rest9
        case hy9 => (intro wz hSw; (try dsimp only at hSw); go_simp; try with_reducible rfl)
        (try simp only [Act.put, List.setIfInBounds_toArray, List.set_cons_zero, List.set_cons_succ])
        refine wpAnyM_takeY (i := 10) (oi := { dst := some 72, op := Go.Op.move (Go.Operand.tmp 1), type := 27, pos := "walks.go:211", after := #[], guard := none }) (v := ?v10) rfl (by kernel_rfl) (fun _ _ _ h => h) (Or.inl ⟨by rfl, ?hy10⟩) (fun _ => by assumption) ?rest10
        case hy10 => (intro wz hSw; (try dsimp only at hSw); go_simp; try with_reducible rfl)
        (try simp only [Act.put, List.setIfInBounds_toArray, List.set_cons_zero, List.set_cons_succ])
        refine wpAnyM_takeY (i := 11) (oi := { dst := some 73, op := Go.Op.move (Go.Operand.tmp 10), type := 3, pos := "walks.go:211", after := #[], guard := none }) (v := ?v11) rfl (by kernel_rfl) (fun _ _ _ h => h) (Or.inl ⟨by rfl, ?hy11⟩) (fun _ => by assumption) ?rest11
        case hy11 => (intro wz hSw; (try dsimp only at hSw); go_simp; try with_reducible rfl)
        (try simp only [Act.put, List.setIfInBounds_toArray, List.set_cons_zero, List.set_cons_succ])
        refine wpAnyM_takeY (i := 12) (oi := { dst := some 74, op := Go.Op.indexAddr 27 (Go.Operand.tmp 72) (Go.Operand.tmp 73), type := 0, pos := "walks.go:211", after := #[{ on := 10, ground := Go.Ground.data }, { on := 11, ground := Go.Ground.data }], guard := none }) (v := ?v12) rfl (by kernel_rfl) (fun _ _ _ h => h) (Or.inl ⟨by rfl, ?hy12⟩) (fun _ => by assumption) ?rest12
        case hy12 => (intro wz hSw; (try dsimp only at hSw); go_simp; try with_reducible rfl)
        (try simp only [Act.put, List.setIfInBounds_toArray, List.set_cons_zero, List.set_cons_succ])
        refine wpAnyM_take (i := 13) (oi := { dst := some 75, op := Go.Op.load 32 (Go.Operand.tmp 74), type := 32, pos := "walks.go:211", after := #[{ on := 12, ground := Go.Ground.data }], guard := none }) (v := ?v13) rfl (by kernel_rfl) (fun _ _ _ h => h) (Or.inl ⟨by rfl, ?hy13⟩) (by assumption) ?rest13
        case hy13 => (intro wz hSw; (try dsimp only at hSw); go_simp; try with_reducible rfl)
        (try simp only [Act.put, List.setIfInBounds_toArray, List.set_cons_zero, List.set_cons_succ])
        refine wpAnyM_ready (rs := [6, 14]) (by kernel_rfl) (by simp) ?_
        refine AllReadyM.cons (o := { dst := some 68, op := Go.Op.buildSlice 26 1 #[(0, Go.Operand.tmp 67)], type := 26, pos := "walks.go:211", after := #[{ on := 5, ground := Go.Ground.data }], guard := none }) rfl (fun K hK => ?_) ?more14
        · have tkn : True := trivial
          go_simp
          have HQ_6 := hid (HQ0.out.ext ((Ext.refl _).alloc (.cells #[.string s] 9)))
          have FA_6 := hid (heap_alloc_new wd (.cells #[.string s] 9))
          refine hK.out _ _ ?hS15 (fun hHeld => ?_)
          case hS15 => (exact KA.out _ HQ_6.out.below HQ_6.out.outA)
          clear hK K
          (try simp only [Act.put, List.setIfInBounds_toArray, List.set_cons_zero, List.set_cons_succ])
          refine wpAnyM_ready (rs := [7, 14]) (by kernel_rfl) (by simp) ?_
          refine AllReadyM.cons (o := { dst := some 69, op := Go.Op.call { callee := Go.Callee.builtin Go.Builtin.append, args := #[Go.Operand.tmp 63, Go.Operand.tmp 68], argTypes := #[26, 26] }, type := 26, pos := "walks.go:211", after := #[{ on := 1, ground := Go.Ground.data }, { on := 6, ground := Go.Ground.data }], guard := none }) rfl (fun K hK => ?_) ?more16
          · have tkn : True := trivial
            refine step_append_lies _ rfl (.tmp 63) (.tmp 68) 26 rfl (w4.heap.size + 2) 9 is _ 1 16 Try.underlying26 his hs0 hs1 hs2 rfl (by decide) _ k ((names.take k).map Value.string) rfl HQ_6.out.rka ⟨wd.heap.size, 0, none⟩ 1 1 [.string s] rfl rfl (cells_at FA_6.out) (by simp [Value.oneCell']) (by decide) (by have := HK40.out; unfold maxLen; omega) (by have := HK40.out; omega) HQ_6.out.hs _ rfl ?_
            intro g_6_7 cap_6_7 w_6_7 hown hgr hat hlt
            have HQ_6_7 := hid (HQ_6.out.appK s hgr (by simpa using hown) (fun g hg => by simp [Value.ownBlock] at hg; subst hg; exact hat.elim .inl (fun e => .inr (Nat.le_of_eq e.symm))))
            clear hown hgr hat hlt
            refine hK.out _ _ ?hS17 (fun hHeld => ?_)
            case hS17 => (exact KA.out _ HQ_6_7.out.below HQ_6_7.out.outA)
            clear hK K
            (try simp only [Act.put, List.setIfInBounds_toArray, List.set_cons_zero, List.set_cons_succ])
            refine wpAnyM_take (i := 16) (oi := { dst := some 78, op := Go.Op.fieldAddr 34 (Go.Operand.tmp 8) 2, type := 0, pos := "walks.go:211", after := #[{ on := 0, ground := Go.Ground.phase }, { on := 1, ground := Go.Ground.phase }, { on := 2, ground := Go.Ground.phase }, { on := 3, ground := Go.Ground.phase }, { on := 4, ground := Go.Ground.phase }, { on := 5, ground := Go.Ground.phase }, { on := 6, ground := Go.Ground.phase }, { on := 7, ground := Go.Ground.phase }, { on := 8, ground := Go.Ground.phase }, { on := 9, ground := Go.Ground.phase }, { on := 10, ground := Go.Ground.textOnly Go.Departure.lateStores }, { on := 11, ground := Go.Ground.textOnly Go.Departure.lateStores }, { on := 12, ground := Go.Ground.textOnly Go.Departure.lateStores }, { on := 13, ground := Go.Ground.textOnly Go.Departure.lateStores }, { on := 14, ground := Go.Ground.textOnly Go.Departure.lateStores }, { on := 15, ground := Go.Ground.textOnly Go.Departure.lateStoresUnsure }], guard := none }) (v := ?v18) rfl (by kernel_rfl) (fun _ _ _ h => h) (Or.inl ⟨by rfl, ?hy18⟩) (by assumption) ?rest18
            case hy18 => (intro wz hSw; (try dsimp only at hSw); go_simp; try with_reducible rfl)
            (try simp only [Act.put, List.setIfInBounds_toArray, List.set_cons_zero, List.set_cons_succ])
            refine wpAnyM_ready (rs := [14]) (by kernel_rfl) (by simp) ?_
            refine AllReadyM.cons (o := { dst := some 76, op := Go.Op.buildSlice 27 1 #[(0, Go.Operand.tmp 75)], type := 27, pos := "walks.go:211", after := #[{ on := 13, ground := Go.Ground.data }], guard := none }) rfl (fun K hK => ?_) AllReadyM.nil
            go_simp
            have HQ_6_7_14 := hid (HQ_6_7.out.ext ((Ext.refl _).alloc (.cells #[.int .i64 r1, .int .i64 r2, .float .f64 r3, .string r4, .slice r5 r6 r7, .slice r8 r9 r10] 32)))
            have FB_6_7_14 := hid (heap_alloc_new w_6_7 (.cells #[.int .i64 r1, .int .i64 r2, .float .f64 r3, .string r4, .slice r5 r6 r7, .slice r8 r9 r10] 32))
            refine hK.out _ _ ?hS19 (fun hHeld => ?_)
            case hS19 => (exact KA.out _ HQ_6_7_14.out.below HQ_6_7_14.out.outA)
            clear hK K
            (try simp only [Act.put, List.setIfInBounds_toArray, List.set_cons_zero, List.set_cons_succ])
            refine wpAnyM_ready (rs := [15]) (by kernel_rfl) (by simp) ?_
            refine AllReadyM.cons (o := { dst := some 77, op := Go.Op.call { callee := Go.Callee.builtin Go.Builtin.append, args := #[Go.Operand.tmp 71, Go.Operand.tmp 76], argTypes := #[27, 27] }, type := 27, pos := "walks.go:211", after := #[{ on := 9, ground := Go.Ground.data }, { on := 14, ground := Go.Ground.data }, { on := 7, ground := Go.Ground.chain }], guard := none }) rfl (fun K hK => ?_) AllReadyM.nil
            refine step_append_lies _ rfl (.tmp 71) (.tmp 76) 27 rfl (w4.heap.size + 2) 32 i0 _ 6 88 Try.underlying27 hi hz0 hz1 hz2 rfl (by decide) _ k xa rfl HQ_6_7_14.out.rla ⟨w_6_7.heap.size, 0, none⟩ 1 1 [.int .i64 r1, .int .i64 r2, .float .f64 r3, .string r4, .slice r5 r6 r7, .slice r8 r9 r10] rfl rfl (cells_at FB_6_7_14.out) OC1.out (by decide) (by have := HK40.out; unfold maxLen; omega) (by have := HK40.out; omega) HQ_6_7_14.out.hs _ rfl ?_
            intro g_6_7_14_15 cap_6_7_14_15 w_6_7_14_15 hown hgr hat hlt
            have HQ_6_7_14_15 := hid (HQ_6_7_14.out.appL hgr hown (HG1.out _ HQ_6_7_14.out.below) (fun g hg => by simp [Value.ownBlock] at hg; subst hg; exact hat.elim .inl (fun e => .inr (Nat.le_of_eq e.symm))))
            clear hown hgr hat hlt
            obtain ⟨⟨z0, z1, z2, z3, z4, z5, z6, z7, z8, z9, z10⟩, f0, f1, f2, f3, f4, f5, f6, f7, f8, f9, f10⟩ := slot11 HQ_6_7_14_15.out.outA
            refine hK.out _ _ ?hS20 (fun hHeld => ?_)
            case hS20 => (exact KA.out _ HQ_6_7_14_15.out.below HQ_6_7_14_15.out.outA)
            clear hK K
            (try simp only [Act.put, List.setIfInBounds_toArray, List.set_cons_zero, List.set_cons_succ])
            refine wpAnyM_ready (rs := [17]) (by kernel_rfl) (by simp) ?_
            refine AllReadyM.behind (o := { dst := none, op := Go.Op.store 26 (Go.Operand.tmp 78) (Go.Operand.tmp 69), type := 0, pos := "walks.go:211", after := #[{ on := 16, ground := Go.Ground.data }, { on := 7, ground := Go.Ground.data }, { on := 15, ground := Go.Ground.chain }, { on := 0, ground := Go.Ground.phase }, { on := 1, ground := Go.Ground.phase }, { on := 2, ground := Go.Ground.phase }, { on := 3, ground := Go.Ground.phase }, { on := 4, ground := Go.Ground.phase }, { on := 5, ground := Go.Ground.phase }, { on := 6, ground := Go.Ground.phase }, { on := 7, ground := Go.Ground.phase }, { on := 8, ground := Go.Ground.phase }, { on := 9, ground := Go.Ground.phase }, { on := 10, ground := Go.Ground.textOnly Go.Departure.lateStores }, { on := 11, ground := Go.Ground.textOnly Go.Departure.lateStores }, { on := 12, ground := Go.Ground.textOnly Go.Departure.lateStores }, { on := 13, ground := Go.Ground.textOnly Go.Departure.lateStores }, { on := 14, ground := Go.Ground.textOnly Go.Departure.lateStores }, { on := 15, ground := Go.Ground.textOnly Go.Departure.lateStoresUnsure }], guard := none }) rfl (by kernel_rfl) (fun K hK => ?_) AllReadyM.nil
            go_simp
            refine hK.out _ _ ?_
            clear hK K
            (try simp only [Act.put, List.setIfInBounds_toArray, List.set_cons_zero, List.set_cons_succ])
            refine wpAnyM_takeY (i := 18) (oi := { dst := some 79, op := Go.Op.fieldAddr 34 (Go.Operand.tmp 8) 3, type := 0, pos := "walks.go:211", after := #[{ on := 0, ground := Go.Ground.phase }, { on := 1, ground := Go.Ground.phase }, { on := 2, ground := Go.Ground.phase }, { on := 3, ground := Go.Ground.phase }, { on := 4, ground := Go.Ground.phase }, { on := 5, ground := Go.Ground.phase }, { on := 6, ground := Go.Ground.phase }, { on := 7, ground := Go.Ground.phase }, { on := 8, ground := Go.Ground.phase }, { on := 9, ground := Go.Ground.phase }, { on := 10, ground := Go.Ground.phase }, { on := 11, ground := Go.Ground.phase }, { on := 12, ground := Go.Ground.phase }, { on := 13, ground := Go.Ground.phase }, { on := 14, ground := Go.Ground.phase }, { on := 15, ground := Go.Ground.phase }, { on := 16, ground := Go.Ground.phase }, { on := 17, ground := Go.Ground.phase }], guard := none }) (v := ?v21) rfl (by kernel_rfl) (fun _ _ _ h => h) (Or.inl ⟨by rfl, ?hy21⟩) (fun hcl => absurd (hcl 17 (by simp)) (by simp)) ?rest21
            case hy21 => (intro wz hSw; (try dsimp only at hSw); go_simp; try with_reducible rfl)
            (try simp only [Act.put, List.setIfInBounds_toArray, List.set_cons_zero, List.set_cons_succ])
            refine wpAnyM_ready (rs := [19]) (by kernel_rfl) (by simp) ?_
            refine AllReadyM.behind (o := { dst := none, op := Go.Op.store 27 (Go.Operand.tmp 79) (Go.Operand.tmp 77), type := 0, pos := "walks.go:211", after := #[{ on := 18, ground := Go.Ground.data }, { on := 15, ground := Go.Ground.data }, { on := 17, ground := Go.Ground.chain }, { on := 0, ground := Go.Ground.phase }, { on := 1, ground := Go.Ground.phase }, { on := 2, ground := Go.Ground.phase }, { on := 3, ground := Go.Ground.phase }, { on := 4, ground := Go.Ground.phase }, { on := 5, ground := Go.Ground.phase }, { on := 6, ground := Go.Ground.phase }, { on := 7, ground := Go.Ground.phase }, { on := 8, ground := Go.Ground.phase }, { on := 9, ground := Go.Ground.phase }, { on := 10, ground := Go.Ground.phase }, { on := 11, ground := Go.Ground.phase }, { on := 12, ground := Go.Ground.phase }, { on := 13, ground := Go.Ground.phase }, { on := 14, ground := Go.Ground.phase }, { on := 15, ground := Go.Ground.phase }, { on := 16, ground := Go.Ground.phase }, { on := 17, ground := Go.Ground.phase }], guard := none }) rfl (by kernel_rfl) (fun K hK => ?_) AllReadyM.nil
            go_simp
            refine hK.out _ _ ?_
            clear hK K
            (try simp only [Act.put, List.setIfInBounds_toArray, List.set_cons_zero, List.set_cons_succ])
            refine wpAnyM_done (by kernel_rfl) ?_ _
            go_wp2_with fail
            go_meet
            case rel => exact ⟨_, _, _, hid (by rw [HT1.out.1, HT1.out.2]; exact HQ_6_7_14_15.out.put _ _)⟩
          refine AllReadyM.cons (o := { dst := some 76, op := Go.Op.buildSlice 27 1 #[(0, Go.Operand.tmp 75)], type := 27, pos := "walks.go:211", after := #[{ on := 13, ground := Go.Ground.data }], guard := none }) rfl (fun K hK => ?_) AllReadyM.nil
          go_simp
          have HQ_6_14 := hid (HQ_6.out.ext ((Ext.refl _).alloc (.cells #[.int .i64 r1, .int .i64 r2, .float .f64 r3, .string r4, .slice r5 r6 r7, .slice r8 r9 r10] 32)))
          have FB_6_14 := hid (second_heap wd (.cells #[.string s] 9) (.cells #[.int .i64 r1, .int .i64 r2, .float .f64 r3, .string r4, .slice r5 r6 r7, .slice r8 r9 r10] 32))
          have FA_6_14 := hid (((Ext.refl _).alloc (.cells #[.int .i64 r1, .int .i64 r2, .float .f64 r3, .string r4, .slice r5 r6 r7, .slice r8 r9 r10] 32)).block FA_6.out)
          refine hK.out _ _ ?hS22 (fun hHeld => ?_)
          case hS22 => (exact KA.out _ HQ_6_14.out.below HQ_6_14.out.outA)
          clear hK K
          (try simp only [Act.put, List.setIfInBounds_toArray, List.set_cons_zero, List.set_cons_succ])
          refine wpAnyM_ready (rs := [7]) (by kernel_rfl) (by simp) ?_
          refine AllReadyM.cons (o := { dst := some 69, op := Go.Op.call { callee := Go.Callee.builtin Go.Builtin.append, args := #[Go.Operand.tmp 63, Go.Operand.tmp 68], argTypes := #[26, 26] }, type := 26, pos := "walks.go:211", after := #[{ on := 1, ground := Go.Ground.data }, { on := 6, ground := Go.Ground.data }], guard := none }) rfl (fun K hK => ?_) AllReadyM.nil
          refine step_append_lies _ rfl (.tmp 63) (.tmp 68) 26 rfl (w4.heap.size + 2) 9 is _ 1 16 Try.underlying26 his hs0 hs1 hs2 rfl (by decide) _ k ((names.take k).map Value.string) rfl HQ_6_14.out.rka ⟨wd.heap.size, 0, none⟩ 1 1 [.string s] rfl rfl (cells_at FA_6_14.out) (by simp [Value.oneCell']) (by decide) (by have := HK40.out; unfold maxLen; omega) (by have := HK40.out; omega) HQ_6_14.out.hs _ rfl ?_
          intro g_6_14_7 cap_6_14_7 w_6_14_7 hown hgr hat hlt
          have HQ_6_14_7 := hid (HQ_6_14.out.appK s hgr (by simpa using hown) (fun g hg => by simp [Value.ownBlock] at hg; subst hg; exact hat.elim .inl (fun e => .inr (Nat.le_of_eq e.symm))))
          have FB_6_14_7 := hid ((hgr.block (wd.heap.size + 1) (Array.getElem?_eq_some_iff.1 FB_6_14.out).1 (fun e => by have := own_lt HQ0.out.rka _ e.symm; omega)).trans FB_6_14.out)
          clear hown hgr hat hlt
          refine hK.out _ _ ?hS23 (fun hHeld => ?_)
          case hS23 => (exact KA.out _ HQ_6_14_7.out.below HQ_6_14_7.out.outA)
          clear hK K
          (try simp only [Act.put, List.setIfInBounds_toArray, List.set_cons_zero, List.set_cons_succ])
          refine wpAnyM_take (i := 16) (oi := { dst := some 78, op := Go.Op.fieldAddr 34 (Go.Operand.tmp 8) 2, type := 0, pos := "walks.go:211", after := #[{ on := 0, ground := Go.Ground.phase }, { on := 1, ground := Go.Ground.phase }, { on := 2, ground := Go.Ground.phase }, { on := 3, ground := Go.Ground.phase }, { on := 4, ground := Go.Ground.phase }, { on := 5, ground := Go.Ground.phase }, { on := 6, ground := Go.Ground.phase }, { on := 7, ground := Go.Ground.phase }, { on := 8, ground := Go.Ground.phase }, { on := 9, ground := Go.Ground.phase }, { on := 10, ground := Go.Ground.textOnly Go.Departure.lateStores }, { on := 11, ground := Go.Ground.textOnly Go.Departure.lateStores }, { on := 12, ground := Go.Ground.textOnly Go.Departure.lateStores }, { on := 13, ground := Go.Ground.textOnly Go.Departure.lateStores }, { on := 14, ground := Go.Ground.textOnly Go.Departure.lateStores }, { on := 15, ground := Go.Ground.textOnly Go.Departure.lateStoresUnsure }], guard := none }) (v := ?v24) rfl (by kernel_rfl) (fun _ _ _ h => h) (Or.inl ⟨by rfl, ?hy24⟩) (by assumption) ?rest24
          case hy24 => (intro wz hSw; (try dsimp only at hSw); go_simp; try with_reducible rfl)
          (try simp only [Act.put, List.setIfInBounds_toArray, List.set_cons_zero, List.set_cons_succ])
          refine wpAnyM_ready (rs := [15]) (by kernel_rfl) (by simp) ?_
          refine AllReadyM.cons (o := { dst := some 77, op := Go.Op.call { callee := Go.Callee.builtin Go.Builtin.append, args := #[Go.Operand.tmp 71, Go.Operand.tmp 76], argTypes := #[27, 27] }, type := 27, pos := "walks.go:211", after := #[{ on := 9, ground := Go.Ground.data }, { on := 14, ground := Go.Ground.data }, { on := 7, ground := Go.Ground.chain }], guard := none }) rfl (fun K hK => ?_) AllReadyM.nil
          refine step_append_lies _ rfl (.tmp 71) (.tmp 76) 27 rfl (w4.heap.size + 2) 32 i0 _ 6 88 Try.underlying27 hi hz0 hz1 hz2 rfl (by decide) _ k xa rfl HQ_6_14_7.out.rla ⟨wd.heap.size + 1, 0, none⟩ 1 1 [.int .i64 r1, .int .i64 r2, .float .f64 r3, .string r4, .slice r5 r6 r7, .slice r8 r9 r10] rfl rfl (cells_at FB_6_14_7.out) OC1.out (by decide) (by have := HK40.out; unfold maxLen; omega) (by have := HK40.out; omega) HQ_6_14_7.out.hs _ rfl ?_
          intro g_6_14_7_15 cap_6_14_7_15 w_6_14_7_15 hown hgr hat hlt
          have HQ_6_14_7_15 := hid (HQ_6_14_7.out.appL hgr hown (HG1.out _ HQ_6_14_7.out.below) (fun g hg => by simp [Value.ownBlock] at hg; subst hg; exact hat.elim .inl (fun e => .inr (Nat.le_of_eq e.symm))))
          clear hown hgr hat hlt
          obtain ⟨⟨z0, z1, z2, z3, z4, z5, z6, z7, z8, z9, z10⟩, f0, f1, f2, f3, f4, f5, f6, f7, f8, f9, f10⟩ := slot11 HQ_6_14_7_15.out.outA
          refine hK.out _ _ ?hS25 (fun hHeld => ?_)
          case hS25 => (exact KA.out _ HQ_6_14_7_15.out.below HQ_6_14_7_15.out.outA)
          clear hK K
          (try simp only [Act.put, List.setIfInBounds_toArray, List.set_cons_zero, List.set_cons_succ])
          refine wpAnyM_ready (rs := [17]) (by kernel_rfl) (by simp) ?_
          refine AllReadyM.behind (o := { dst := none, op := Go.Op.store 26 (Go.Operand.tmp 78) (Go.Operand.tmp 69), type := 0, pos := "walks.go:211", after := #[{ on := 16, ground := Go.Ground.data }, { on := 7, ground := Go.Ground.data }, { on := 15, ground := Go.Ground.chain }, { on := 0, ground := Go.Ground.phase }, { on := 1, ground := Go.Ground.phase }, { on := 2, ground := Go.Ground.phase }, { on := 3, ground := Go.Ground.phase }, { on := 4, ground := Go.Ground.phase }, { on := 5, ground := Go.Ground.phase }, { on := 6, ground := Go.Ground.phase }, { on := 7, ground := Go.Ground.phase }, { on := 8, ground := Go.Ground.phase }, { on := 9, ground := Go.Ground.phase }, { on := 10, ground := Go.Ground.textOnly Go.Departure.lateStores }, { on := 11, ground := Go.Ground.textOnly Go.Departure.lateStores }, { on := 12, ground := Go.Ground.textOnly Go.Departure.lateStores }, { on := 13, ground := Go.Ground.textOnly Go.Departure.lateStores }, { on := 14, ground := Go.Ground.textOnly Go.Departure.lateStores }, { on := 15, ground := Go.Ground.textOnly Go.Departure.lateStoresUnsure }], guard := none }) rfl (by kernel_rfl) (fun K hK => ?_) AllReadyM.nil
          go_simp
          refine hK.out _ _ ?_
          clear hK K
          (try simp only [Act.put, List.setIfInBounds_toArray, List.set_cons_zero, List.set_cons_succ])
          refine wpAnyM_takeY (i := 18) (oi := { dst := some 79, op := Go.Op.fieldAddr 34 (Go.Operand.tmp 8) 3, type := 0, pos := "walks.go:211", after := #[{ on := 0, ground := Go.Ground.phase }, { on := 1, ground := Go.Ground.phase }, { on := 2, ground := Go.Ground.phase }, { on := 3, ground := Go.Ground.phase }, { on := 4, ground := Go.Ground.phase }, { on := 5, ground := Go.Ground.phase }, { on := 6, ground := Go.Ground.phase }, { on := 7, ground := Go.Ground.phase }, { on := 8, ground := Go.Ground.phase }, { on := 9, ground := Go.Ground.phase }, { on := 10, ground := Go.Ground.phase }, { on := 11, ground := Go.Ground.phase }, { on := 12, ground := Go.Ground.phase }, { on := 13, ground := Go.Ground.phase }, { on := 14, ground := Go.Ground.phase }, { on := 15, ground := Go.Ground.phase }, { on := 16, ground := Go.Ground.phase }, { on := 17, ground := Go.Ground.phase }], guard := none }) (v := ?v26) rfl (by kernel_rfl) (fun _ _ _ h => h) (Or.inl ⟨by rfl, ?hy26⟩) (fun hcl => absurd (hcl 17 (by simp)) (by simp)) ?rest26
          case hy26 => (intro wz hSw; (try dsimp only at hSw); go_simp; try with_reducible rfl)
          (try simp only [Act.put, List.setIfInBounds_toArray, List.set_cons_zero, List.set_cons_succ])
          refine wpAnyM_ready (rs := [19]) (by kernel_rfl) (by simp) ?_
          refine AllReadyM.behind (o := { dst := none, op := Go.Op.store 27 (Go.Operand.tmp 79) (Go.Operand.tmp 77), type := 0, pos := "walks.go:211", after := #[{ on := 18, ground := Go.Ground.data }, { on := 15, ground := Go.Ground.data }, { on := 17, ground := Go.Ground.chain }, { on := 0, ground := Go.Ground.phase }, { on := 1, ground := Go.Ground.phase }, { on := 2, ground := Go.Ground.phase }, { on := 3, ground := Go.Ground.phase }, { on := 4, ground := Go.Ground.phase }, { on := 5, ground := Go.Ground.phase }, { on := 6, ground := Go.Ground.phase }, { on := 7, ground := Go.Ground.phase }, { on := 8, ground := Go.Ground.phase }, { on := 9, ground := Go.Ground.phase }, { on := 10, ground := Go.Ground.phase }, { on := 11, ground := Go.Ground.phase }, { on := 12, ground := Go.Ground.phase }, { on := 13, ground := Go.Ground.phase }, { on := 14, ground := Go.Ground.phase }, { on := 15, ground := Go.Ground.phase }, { on := 16, ground := Go.Ground.phase }, { on := 17, ground := Go.Ground.phase }], guard := none }) rfl (by kernel_rfl) (fun K hK => ?_) AllReadyM.nil
          go_simp
          refine hK.out _ _ ?_
          clear hK K
          (try simp only [Act.put, List.setIfInBounds_toArray, List.set_cons_zero, List.set_cons_succ])
          refine wpAnyM_done (by kernel_rfl) ?_ _
          go_wp2_with fail
          go_meet
          case rel => exact ⟨_, _, _, hid (by rw [HT1.out.1, HT1.out.2]; exact HQ_6_14_7_15.out.put _ _)⟩
        refine AllReadyM.cons (o := { dst := some 76, op := Go.Op.buildSlice 27 1 #[(0, Go.Operand.tmp 75)], type := 27, pos := "walks.go:211", after := #[{ on := 13, ground := Go.Ground.data }], guard := none }) rfl (fun K hK => ?_) AllReadyM.nil
        go_simp
        have HQ_14 := hid (HQ0.out.ext ((Ext.refl _).alloc (.cells #[.int .i64 r1, .int .i64 r2, .float .f64 r3, .string r4, .slice r5 r6 r7, .slice r8 r9 r10] 32)))
        have FB_14 := hid (heap_alloc_new wd (.cells #[.int .i64 r1, .int .i64 r2, .float .f64 r3, .string r4, .slice r5 r6 r7, .slice r8 r9 r10] 32))
        refine hK.out _ _ ?hS27 (fun hHeld => ?_)
        case hS27 => (exact KA.out _ HQ_14.out.below HQ_14.out.outA)
        clear hK K
        (try simp only [Act.put, List.setIfInBounds_toArray, List.set_cons_zero, List.set_cons_succ])
        refine wpAnyM_ready (rs := [6]) (by kernel_rfl) (by simp) ?_
        refine AllReadyM.cons (o := { dst := some 68, op := Go.Op.buildSlice 26 1 #[(0, Go.Operand.tmp 67)], type := 26, pos := "walks.go:211", after := #[{ on := 5, ground := Go.Ground.data }], guard := none }) rfl (fun K hK => ?_) AllReadyM.nil
        go_simp
        have HQ_14_6 := hid (HQ_14.out.ext ((Ext.refl _).alloc (.cells #[.string s] 9)))
        have FA_14_6 := hid (second_heap wd (.cells #[.int .i64 r1, .int .i64 r2, .float .f64 r3, .string r4, .slice r5 r6 r7, .slice r8 r9 r10] 32) (.cells #[.string s] 9))
        have FB_14_6 := hid (((Ext.refl _).alloc (.cells #[.string s] 9)).block FB_14.out)
        refine hK.out _ _ ?hS28 (fun hHeld => ?_)
        case hS28 => (exact KA.out _ HQ_14_6.out.below HQ_14_6.out.outA)
        clear hK K
        (try simp only [Act.put, List.setIfInBounds_toArray, List.set_cons_zero, List.set_cons_succ])
        refine wpAnyM_ready (rs := [7]) (by kernel_rfl) (by simp) ?_
        refine AllReadyM.cons (o := { dst := some 69, op := Go.Op.call { callee := Go.Callee.builtin Go.Builtin.append, args := #[Go.Operand.tmp 63, Go.Operand.tmp 68], argTypes := #[26, 26] }, type := 26, pos := "walks.go:211", after := #[{ on := 1, ground := Go.Ground.data }, { on := 6, ground := Go.Ground.data }], guard := none }) rfl (fun K hK => ?_) AllReadyM.nil
        refine step_append_lies _ rfl (.tmp 63) (.tmp 68) 26 rfl (w4.heap.size + 2) 9 is _ 1 16 Try.underlying26 his hs0 hs1 hs2 rfl (by decide) _ k ((names.take k).map Value.string) rfl HQ_14_6.out.rka ⟨wd.heap.size + 1, 0, none⟩ 1 1 [.string s] rfl rfl (cells_at FA_14_6.out) (by simp [Value.oneCell']) (by decide) (by have := HK40.out; unfold maxLen; omega) (by have := HK40.out; omega) HQ_14_6.out.hs _ rfl ?_
        intro g_14_6_7 cap_14_6_7 w_14_6_7 hown hgr hat hlt
        have HQ_14_6_7 := hid (HQ_14_6.out.appK s hgr (by simpa using hown) (fun g hg => by simp [Value.ownBlock] at hg; subst hg; exact hat.elim .inl (fun e => .inr (Nat.le_of_eq e.symm))))
        have FB_14_6_7 := hid ((hgr.block (wd.heap.size) (Array.getElem?_eq_some_iff.1 FB_14_6.out).1 (fun e => by have := own_lt HQ0.out.rka _ e.symm; omega)).trans FB_14_6.out)
        clear hown hgr hat hlt
        refine hK.out _ _ ?hS29 (fun hHeld => ?_)
        case hS29 => (exact KA.out _ HQ_14_6_7.out.below HQ_14_6_7.out.outA)
        clear hK K
        (try simp only [Act.put, List.setIfInBounds_toArray, List.set_cons_zero, List.set_cons_succ])
        refine wpAnyM_take (i := 16) (oi := { dst := some 78, op := Go.Op.fieldAddr 34 (Go.Operand.tmp 8) 2, type := 0, pos := "walks.go:211", after := #[{ on := 0, ground := Go.Ground.phase }, { on := 1, ground := Go.Ground.phase }, { on := 2, ground := Go.Ground.phase }, { on := 3, ground := Go.Ground.phase }, { on := 4, ground := Go.Ground.phase }, { on := 5, ground := Go.Ground.phase }, { on := 6, ground := Go.Ground.phase }, { on := 7, ground := Go.Ground.phase }, { on := 8, ground := Go.Ground.phase }, { on := 9, ground := Go.Ground.phase }, { on := 10, ground := Go.Ground.textOnly Go.Departure.lateStores }, { on := 11, ground := Go.Ground.textOnly Go.Departure.lateStores }, { on := 12, ground := Go.Ground.textOnly Go.Departure.lateStores }, { on := 13, ground := Go.Ground.textOnly Go.Departure.lateStores }, { on := 14, ground := Go.Ground.textOnly Go.Departure.lateStores }, { on := 15, ground := Go.Ground.textOnly Go.Departure.lateStoresUnsure }], guard := none }) (v := ?v30) rfl (by kernel_rfl) (fun _ _ _ h => h) (Or.inl ⟨by rfl, ?hy30⟩) (by assumption) ?rest30
        case hy30 => (intro wz hSw; (try dsimp only at hSw); go_simp; try with_reducible rfl)
        (try simp only [Act.put, List.setIfInBounds_toArray, List.set_cons_zero, List.set_cons_succ])
        refine wpAnyM_ready (rs := [15]) (by kernel_rfl) (by simp) ?_
        refine AllReadyM.cons (o := { dst := some 77, op := Go.Op.call { callee := Go.Callee.builtin Go.Builtin.append, args := #[Go.Operand.tmp 71, Go.Operand.tmp 76], argTypes := #[27, 27] }, type := 27, pos := "walks.go:211", after := #[{ on := 9, ground := Go.Ground.data }, { on := 14, ground := Go.Ground.data }, { on := 7, ground := Go.Ground.chain }], guard := none }) rfl (fun K hK => ?_) AllReadyM.nil
        refine step_append_lies _ rfl (.tmp 71) (.tmp 76) 27 rfl (w4.heap.size + 2) 32 i0 _ 6 88 Try.underlying27 hi hz0 hz1 hz2 rfl (by decide) _ k xa rfl HQ_14_6_7.out.rla ⟨wd.heap.size, 0, none⟩ 1 1 [.int .i64 r1, .int .i64 r2, .float .f64 r3, .string r4, .slice r5 r6 r7, .slice r8 r9 r10] rfl rfl (cells_at FB_14_6_7.out) OC1.out (by decide) (by have := HK40.out; unfold maxLen; omega) (by have := HK40.out; omega) HQ_14_6_7.out.hs _ rfl ?_
        intro g_14_6_7_15 cap_14_6_7_15 w_14_6_7_15 hown hgr hat hlt
        have HQ_14_6_7_15 := hid (HQ_14_6_7.out.appL hgr hown (HG1.out _ HQ_14_6_7.out.below) (fun g hg => by simp [Value.ownBlock] at hg; subst hg; exact hat.elim .inl (fun e => .inr (Nat.le_of_eq e.symm))))
        clear hown hgr hat hlt
        obtain ⟨⟨z0, z1, z2, z3, z4, z5, z6, z7, z8, z9, z10⟩, f0, f1, f2, f3, f4, f5, f6, f7, f8, f9, f10⟩ := slot11 HQ_14_6_7_15.out.outA
        refine hK.out _ _ ?hS31 (fun hHeld => ?_)
        case hS31 => (exact KA.out _ HQ_14_6_7_15.out.below HQ_14_6_7_15.out.outA)
        clear hK K
        (try simp only [Act.put, List.setIfInBounds_toArray, List.set_cons_zero, List.set_cons_succ])
        refine wpAnyM_ready (rs := [17]) (by kernel_rfl) (by simp) ?_
        refine AllReadyM.behind (o := { dst := none, op := Go.Op.store 26 (Go.Operand.tmp 78) (Go.Operand.tmp 69), type := 0, pos := "walks.go:211", after := #[{ on := 16, ground := Go.Ground.data }, { on := 7, ground := Go.Ground.data }, { on := 15, ground := Go.Ground.chain }, { on := 0, ground := Go.Ground.phase }, { on := 1, ground := Go.Ground.phase }, { on := 2, ground := Go.Ground.phase }, { on := 3, ground := Go.Ground.phase }, { on := 4, ground := Go.Ground.phase }, { on := 5, ground := Go.Ground.phase }, { on := 6, ground := Go.Ground.phase }, { on := 7, ground := Go.Ground.phase }, { on := 8, ground := Go.Ground.phase }, { on := 9, ground := Go.Ground.phase }, { on := 10, ground := Go.Ground.textOnly Go.Departure.lateStores }, { on := 11, ground := Go.Ground.textOnly Go.Departure.lateStores }, { on := 12, ground := Go.Ground.textOnly Go.Departure.lateStores }, { on := 13, ground := Go.Ground.textOnly Go.Departure.lateStores }, { on := 14, ground := Go.Ground.textOnly Go.Departure.lateStores }, { on := 15, ground := Go.Ground.textOnly Go.Departure.lateStoresUnsure }], guard := none }) rfl (by kernel_rfl) (fun K hK => ?_) AllReadyM.nil
        go_simp
        refine hK.out _ _ ?_
        clear hK K
        (try simp only [Act.put, List.setIfInBounds_toArray, List.set_cons_zero, List.set_cons_succ])
        refine wpAnyM_takeY (i := 18) (oi := { dst := some 79, op := Go.Op.fieldAddr 34 (Go.Operand.tmp 8) 3, type := 0, pos := "walks.go:211", after := #[{ on := 0, ground := Go.Ground.phase }, { on := 1, ground := Go.Ground.phase }, { on := 2, ground := Go.Ground.phase }, { on := 3, ground := Go.Ground.phase }, { on := 4, ground := Go.Ground.phase }, { on := 5, ground := Go.Ground.phase }, { on := 6, ground := Go.Ground.phase }, { on := 7, ground := Go.Ground.phase }, { on := 8, ground := Go.Ground.phase }, { on := 9, ground := Go.Ground.phase }, { on := 10, ground := Go.Ground.phase }, { on := 11, ground := Go.Ground.phase }, { on := 12, ground := Go.Ground.phase }, { on := 13, ground := Go.Ground.phase }, { on := 14, ground := Go.Ground.phase }, { on := 15, ground := Go.Ground.phase }, { on := 16, ground := Go.Ground.phase }, { on := 17, ground := Go.Ground.phase }], guard := none }) (v := ?v32) rfl (by kernel_rfl) (fun _ _ _ h => h) (Or.inl ⟨by rfl, ?hy32⟩) (fun hcl => absurd (hcl 17 (by simp)) (by simp)) ?rest32
        case hy32 => (intro wz hSw; (try dsimp only at hSw); go_simp; try with_reducible rfl)
        (try simp only [Act.put, List.setIfInBounds_toArray, List.set_cons_zero, List.set_cons_succ])
        refine wpAnyM_ready (rs := [19]) (by kernel_rfl) (by simp) ?_
        refine AllReadyM.behind (o := { dst := none, op := Go.Op.store 27 (Go.Operand.tmp 79) (Go.Operand.tmp 77), type := 0, pos := "walks.go:211", after := #[{ on := 18, ground := Go.Ground.data }, { on := 15, ground := Go.Ground.data }, { on := 17, ground := Go.Ground.chain }, { on := 0, ground := Go.Ground.phase }, { on := 1, ground := Go.Ground.phase }, { on := 2, ground := Go.Ground.phase }, { on := 3, ground := Go.Ground.phase }, { on := 4, ground := Go.Ground.phase }, { on := 5, ground := Go.Ground.phase }, { on := 6, ground := Go.Ground.phase }, { on := 7, ground := Go.Ground.phase }, { on := 8, ground := Go.Ground.phase }, { on := 9, ground := Go.Ground.phase }, { on := 10, ground := Go.Ground.phase }, { on := 11, ground := Go.Ground.phase }, { on := 12, ground := Go.Ground.phase }, { on := 13, ground := Go.Ground.phase }, { on := 14, ground := Go.Ground.phase }, { on := 15, ground := Go.Ground.phase }, { on := 16, ground := Go.Ground.phase }, { on := 17, ground := Go.Ground.phase }], guard := none }) rfl (by kernel_rfl) (fun K hK => ?_) AllReadyM.nil
        go_simp
        refine hK.out _ _ ?_
        clear hK K
        (try simp only [Act.put, List.setIfInBounds_toArray, List.set_cons_zero, List.set_cons_succ])
        refine wpAnyM_done (by kernel_rfl) ?_ _
        go_wp2_with fail
        go_meet
        case rel => exact ⟨_, _, _, hid (by rw [HT1.out.1, HT1.out.2]; exact HQ_14_6_7_15.out.put _ _)⟩
      case rest =>
        obtain ⟨ak2, al2, xa2, HQ2⟩ := hcut
        rename World => w7
        have HR2 := hid HQ2.out.swap
        go_upto_region 13 with fail
        have HQ0 := hid (HR2.out.ext ((Ext.refl w7).drew))
        refine wp_region_late (fun w' : World => w'.cell? ⟨w4.heap.size + 1, 2, none⟩ = some (.slice yb k yd) ∧ w'.cell? ⟨w4.heap.size + 1, 3, none⟩ = some (.slice lb k ld) ∧ w'.cell? ⟨nb, no + j, none⟩ = some (.string s') ∧ w'.cell? ⟨vb, vo + j * 6, none⟩ = some (.int .i64 m1) ∧ w'.cell? ⟨vb, vo + j * 6 + 1, none⟩ = some (.int .i64 m2) ∧ w'.cell? ⟨vb, vo + j * 6 + 2, none⟩ = some (.float .f64 m3) ∧ w'.cell? ⟨vb, vo + j * 6 + 3, none⟩ = some (.string m4) ∧ w'.cell? ⟨vb, vo + j * 6 + 4, none⟩ = some (.slice m5 m6 m7) ∧ w'.cell? ⟨vb, vo + j * 6 + 5, none⟩ = some (.slice m8 m9 m10)) [17, 19] (by kernel_rfl) ?hS33 (fun hHeld => ?_)
        case hS33 => (exact KB.out _ HQ0.out.below HQ0.out.outA)
        generalize w7.drew = wd at *
        refine wpAnyM_take (i := 0) (oi := { dst := some 80, op := Go.Op.fieldAddr 34 (Go.Operand.tmp 9) 2, type := 0, pos := "walks.go:212", after := #[], guard := none }) (v := ?v34) rfl (by kernel_rfl) (fun _ _ _ h => h) (Or.inl ⟨by rfl, ?hy34⟩) (by assumption) ?rest34
        case hy34 => (intro wz hSw; (try dsimp only at hSw); go_simp; try with_reducible rfl)
        (try simp only [Act.put, List.setIfInBounds_toArray, List.set_cons_zero, List.set_cons_succ])
        refine wpAnyM_take (i := 1) (oi := { dst := some 81, op := Go.Op.load 26 (Go.Operand.tmp 80), type := 26, pos := "walks.go:212", after := #[{ on := 0, ground := Go.Ground.data }], guard := none }) (v := ?v35) rfl (by kernel_rfl) (fun _ _ _ h => h) (Or.inl ⟨by rfl, ?hy35⟩) (by assumption) ?rest35
        case hy35 => (intro wz hSw; (try dsimp only at hSw); go_simp; try with_reducible rfl)
        (try simp only [Act.put, List.setIfInBounds_toArray, List.set_cons_zero, List.set_cons_succ])
        refine wpAnyM_take (i := 2) (oi := { dst := some 82, op := Go.Op.move (Go.Operand.tmp 0), type := 26, pos := "walks.go:212", after := #[], guard := none }) (v := ?v36) rfl (by kernel_rfl) (fun _ _ _ h => h) (Or.inl ⟨by rfl, ?hy36⟩) (by assumption) ?rest36
        case hy36 => (intro wz hSw; (try dsimp only at hSw); go_simp; try with_reducible rfl)
        (try simp only [Act.put, List.setIfInBounds_toArray, List.set_cons_zero, List.set_cons_succ])
        refine wpAnyM_take (i := 3) (oi := { dst := some 83, op := Go.Op.move (Go.Operand.tmp 11), type := 3, pos := "walks.go:212", after := #[], guard := none }) (v := ?v37) rfl (by kernel_rfl) (fun _ _ _ h => h) (Or.inl ⟨by rfl, ?hy37⟩) (by assumption) ?rest37
        case hy37 => (intro wz hSw; (try dsimp only at hSw); go_simp; try with_reducible rfl)
        (try simp only [Act.put, List.setIfInBounds_toArray, List.set_cons_zero, List.set_cons_succ])
        refine wpAnyM_take (i := 4) (oi := { dst := some 84, op := Go.Op.indexAddr 26 (Go.Operand.tmp 82) (Go.Operand.tmp 83), type := 0, pos := "walks.go:212", after := #[{ on := 2, ground := Go.Ground.data }, { on := 3, ground := Go.Ground.data }], guard := none }) (v := ?v38) rfl (by kernel_rfl) (fun _ _ _ h => h) (Or.inl ⟨by rfl, ?hy38⟩) (by assumption) ?rest38
        case hy38 => (intro wz hSw; (try dsimp only at hSw); go_simp; try with_reducible rfl)
        (try simp only [Act.put, List.setIfInBounds_toArray, List.set_cons_zero, List.set_cons_succ])
        refine wpAnyM_take (i := 5) (oi := { dst := some 85, op := Go.Op.load 9 (Go.Operand.tmp 84), type := 9, pos := "walks.go:212", after := #[{ on := 4, ground := Go.Ground.data }], guard := none }) (v := ?v39) rfl (by kernel_rfl) (fun _ _ _ h => h) (Or.inl ⟨by rfl, ?hy39⟩) (by assumption) ?rest39
        case hy39 => (intro wz hSw; (try dsimp only at hSw); go_simp; try with_reducible rfl)
        (try simp only [Act.put, List.setIfInBounds_toArray, List.set_cons_zero, List.set_cons_succ])
        refine wpAnyM_take (i := 8) (oi := { dst := some 88, op := Go.Op.fieldAddr 34 (Go.Operand.tmp 9) 3, type := 0, pos := "walks.go:212", after := #[], guard := none }) (v := ?v40) rfl (by kernel_rfl) (fun _ _ _ h => h) (Or.inl ⟨by rfl, ?hy40⟩) (by assumption) ?rest40
        case hy40 => (intro wz hSw; (try dsimp only at hSw); go_simp; try with_reducible rfl)
        (try simp only [Act.put, List.setIfInBounds_toArray, List.set_cons_zero, List.set_cons_succ])
        refine wpAnyM_take (i := 9) (oi := { dst := some 89, op := Go.Op.load 27 (Go.Operand.tmp 88), type := 27, pos := "walks.go:212", after := #[{ on := 8, ground := Go.Ground.data }], guard := none }) (v := ?v41) rfl (by kernel_rfl) (fun _ _ _ h => h) (Or.inl ⟨by rfl, ?hy41⟩) (by assumption) ?rest41
        case hy41 => (intro wz hSw; (try dsimp only at hSw); go_simp; try with_reducible rfl)
        (try simp only [Act.put, List.setIfInBounds_toArray, List.set_cons_zero, List.set_cons_succ])
        refine wpAnyM_takeY (i := 10) (oi := { dst := some 90, op := Go.Op.move (Go.Operand.tmp 1), type := 27, pos := "walks.go:212", after := #[], guard := none }) (v := ?v42) rfl (by kernel_rfl) (fun _ _ _ h => h) (Or.inl ⟨by rfl, ?hy42⟩) (fun _ => by assumption) ?rest42
        case hy42 => (intro wz hSw; (try dsimp only at hSw); go_simp; try with_reducible rfl)
        (try simp only [Act.put, List.setIfInBounds_toArray, List.set_cons_zero, List.set_cons_succ])
        refine wpAnyM_takeY (i := 11) (oi := { dst := some 91, op := Go.Op.move (Go.Operand.tmp 11), type := 3, pos := "walks.go:212", after := #[], guard := none }) (v := ?v43) rfl (by kernel_rfl) (fun _ _ _ h => h) (Or.inl ⟨by rfl, ?hy43⟩) (fun _ => by assumption) ?rest43
        case hy43 => (intro wz hSw; (try dsimp only at hSw); go_simp; try with_reducible rfl)
        (try simp only [Act.put, List.setIfInBounds_toArray, List.set_cons_zero, List.set_cons_succ])
        refine wpAnyM_takeY (i := 12) (oi := { dst := some 92, op := Go.Op.indexAddr 27 (Go.Operand.tmp 90) (Go.Operand.tmp 91), type := 0, pos := "walks.go:212", after := #[{ on := 10, ground := Go.Ground.data }, { on := 11, ground := Go.Ground.data }], guard := none }) (v := ?v44) rfl (by kernel_rfl) (fun _ _ _ h => h) (Or.inl ⟨by rfl, ?hy44⟩) (fun _ => by assumption) ?rest44
        case hy44 => (intro wz hSw; (try dsimp only at hSw); go_simp; try with_reducible rfl)
        (try simp only [Act.put, List.setIfInBounds_toArray, List.set_cons_zero, List.set_cons_succ])
        refine wpAnyM_take (i := 13) (oi := { dst := some 93, op := Go.Op.load 32 (Go.Operand.tmp 92), type := 32, pos := "walks.go:212", after := #[{ on := 12, ground := Go.Ground.data }], guard := none }) (v := ?v45) rfl (by kernel_rfl) (fun _ _ _ h => h) (Or.inl ⟨by rfl, ?hy45⟩) (by assumption) ?rest45
        case hy45 => (intro wz hSw; (try dsimp only at hSw); go_simp; try with_reducible rfl)
        (try simp only [Act.put, List.setIfInBounds_toArray, List.set_cons_zero, List.set_cons_succ])
        refine wpAnyM_ready (rs := [6, 14]) (by kernel_rfl) (by simp) ?_
        refine AllReadyM.cons (o := { dst := some 86, op := Go.Op.buildSlice 26 1 #[(0, Go.Operand.tmp 85)], type := 26, pos := "walks.go:212", after := #[{ on := 5, ground := Go.Ground.data }], guard := none }) rfl (fun K hK => ?_) ?more46
        · have tkn : True := trivial
          go_simp
          have HQ_6 := hid (HQ0.out.ext ((Ext.refl _).alloc (.cells #[.string s'] 9)))
          have FA_6 := hid (heap_alloc_new wd (.cells #[.string s'] 9))
          refine hK.out _ _ ?hS47 (fun hHeld => ?_)
          case hS47 => (exact KB.out _ HQ_6.out.below HQ_6.out.outA)
          clear hK K
          (try simp only [Act.put, List.setIfInBounds_toArray, List.set_cons_zero, List.set_cons_succ])
          refine wpAnyM_ready (rs := [7, 14]) (by kernel_rfl) (by simp) ?_
          refine AllReadyM.cons (o := { dst := some 87, op := Go.Op.call { callee := Go.Callee.builtin Go.Builtin.append, args := #[Go.Operand.tmp 81, Go.Operand.tmp 86], argTypes := #[26, 26] }, type := 26, pos := "walks.go:212", after := #[{ on := 1, ground := Go.Ground.data }, { on := 6, ground := Go.Ground.data }], guard := none }) rfl (fun K hK => ?_) ?more48
          · have tkn : True := trivial
            refine step_append_lies _ rfl (.tmp 81) (.tmp 86) 26 rfl (w4.heap.size + 2) 9 is _ 1 16 Try.underlying26 his hs0 hs1 hs2 rfl (by decide) _ k (((rotL (names.take n) u).take k).map Value.string) rfl HQ_6.out.rka ⟨wd.heap.size, 0, none⟩ 1 1 [.string s'] rfl rfl (cells_at FA_6.out) (by simp [Value.oneCell']) (by decide) (by have := HK40.out; unfold maxLen; omega) (by have := HK40.out; omega) HQ_6.out.hs _ rfl ?_
            intro g_6_7 cap_6_7 w_6_7 hown hgr hat hlt
            have HQ_6_7 := hid (HQ_6.out.appK s' hgr (by simpa using hown) (fun g hg => by simp [Value.ownBlock] at hg; subst hg; exact hat.elim .inl (fun e => .inr (Nat.le_of_eq e.symm))))
            clear hown hgr hat hlt
            refine hK.out _ _ ?hS49 (fun hHeld => ?_)
            case hS49 => (exact KB.out _ HQ_6_7.out.below HQ_6_7.out.outA)
            clear hK K
            (try simp only [Act.put, List.setIfInBounds_toArray, List.set_cons_zero, List.set_cons_succ])
            refine wpAnyM_take (i := 16) (oi := { dst := some 96, op := Go.Op.fieldAddr 34 (Go.Operand.tmp 9) 2, type := 0, pos := "walks.go:212", after := #[{ on := 0, ground := Go.Ground.phase }, { on := 1, ground := Go.Ground.phase }, { on := 2, ground := Go.Ground.phase }, { on := 3, ground := Go.Ground.phase }, { on := 4, ground := Go.Ground.phase }, { on := 5, ground := Go.Ground.phase }, { on := 6, ground := Go.Ground.phase }, { on := 7, ground := Go.Ground.phase }, { on := 8, ground := Go.Ground.phase }, { on := 9, ground := Go.Ground.phase }, { on := 10, ground := Go.Ground.textOnly Go.Departure.lateStores }, { on := 11, ground := Go.Ground.textOnly Go.Departure.lateStores }, { on := 12, ground := Go.Ground.textOnly Go.Departure.lateStores }, { on := 13, ground := Go.Ground.textOnly Go.Departure.lateStores }, { on := 14, ground := Go.Ground.textOnly Go.Departure.lateStores }, { on := 15, ground := Go.Ground.textOnly Go.Departure.lateStoresUnsure }], guard := none }) (v := ?v50) rfl (by kernel_rfl) (fun _ _ _ h => h) (Or.inl ⟨by rfl, ?hy50⟩) (by assumption) ?rest50
            case hy50 => (intro wz hSw; (try dsimp only at hSw); go_simp; try with_reducible rfl)
            (try simp only [Act.put, List.setIfInBounds_toArray, List.set_cons_zero, List.set_cons_succ])
            refine wpAnyM_ready (rs := [14]) (by kernel_rfl) (by simp) ?_
            refine AllReadyM.cons (o := { dst := some 94, op := Go.Op.buildSlice 27 1 #[(0, Go.Operand.tmp 93)], type := 27, pos := "walks.go:212", after := #[{ on := 13, ground := Go.Ground.data }], guard := none }) rfl (fun K hK => ?_) AllReadyM.nil
            go_simp
            have HQ_6_7_14 := hid (HQ_6_7.out.ext ((Ext.refl _).alloc (.cells #[.int .i64 m1, .int .i64 m2, .float .f64 m3, .string m4, .slice m5 m6 m7, .slice m8 m9 m10] 32)))
            have FB_6_7_14 := hid (heap_alloc_new w_6_7 (.cells #[.int .i64 m1, .int .i64 m2, .float .f64 m3, .string m4, .slice m5 m6 m7, .slice m8 m9 m10] 32))
            refine hK.out _ _ ?hS51 (fun hHeld => ?_)
            case hS51 => (exact KB.out _ HQ_6_7_14.out.below HQ_6_7_14.out.outA)
            clear hK K
            (try simp only [Act.put, List.setIfInBounds_toArray, List.set_cons_zero, List.set_cons_succ])
            refine wpAnyM_ready (rs := [15]) (by kernel_rfl) (by simp) ?_
            refine AllReadyM.cons (o := { dst := some 95, op := Go.Op.call { callee := Go.Callee.builtin Go.Builtin.append, args := #[Go.Operand.tmp 89, Go.Operand.tmp 94], argTypes := #[27, 27] }, type := 27, pos := "walks.go:212", after := #[{ on := 9, ground := Go.Ground.data }, { on := 14, ground := Go.Ground.data }, { on := 7, ground := Go.Ground.chain }], guard := none }) rfl (fun K hK => ?_) AllReadyM.nil
            refine step_append_lies _ rfl (.tmp 89) (.tmp 94) 27 rfl (w4.heap.size + 2) 32 i0 _ 6 88 Try.underlying27 hi hz0 hz1 hz2 rfl (by decide) _ k xb rfl HQ_6_7_14.out.rla ⟨w_6_7.heap.size, 0, none⟩ 1 1 [.int .i64 m1, .int .i64 m2, .float .f64 m3, .string m4, .slice m5 m6 m7, .slice m8 m9 m10] rfl rfl (cells_at FB_6_7_14.out) OC2.out (by decide) (by have := HK40.out; unfold maxLen; omega) (by have := HK40.out; omega) HQ_6_7_14.out.hs _ rfl ?_
            intro g_6_7_14_15 cap_6_7_14_15 w_6_7_14_15 hown hgr hat hlt
            have HQ_6_7_14_15 := hid (HQ_6_7_14.out.appL hgr hown (HG2.out _ HQ_6_7_14.out.below) (fun g hg => by simp [Value.ownBlock] at hg; subst hg; exact hat.elim .inl (fun e => .inr (Nat.le_of_eq e.symm))))
            clear hown hgr hat hlt
            obtain ⟨⟨z0, z1, z2, z3, z4, z5, z6, z7, z8, z9, z10⟩, f0, f1, f2, f3, f4, f5, f6, f7, f8, f9, f10⟩ := slot11 HQ_6_7_14_15.out.outA
            refine hK.out _ _ ?hS52 (fun hHeld => ?_)
            case hS52 => (exact KB.out _ HQ_6_7_14_15.out.below HQ_6_7_14_15.out.outA)
            clear hK K
            (try simp only [Act.put, List.setIfInBounds_toArray, List.set_cons_zero, List.set_cons_succ])
            refine wpAnyM_ready (rs := [17]) (by kernel_rfl) (by simp) ?_
            refine AllReadyM.behind (o := { dst := none, op := Go.Op.store 26 (Go.Operand.tmp 96) (Go.Operand.tmp 87), type := 0, pos := "walks.go:212", after := #[{ on := 16, ground := Go.Ground.data }, { on := 7, ground := Go.Ground.data }, { on := 15, ground := Go.Ground.chain }, { on := 0, ground := Go.Ground.phase }, { on := 1, ground := Go.Ground.phase }, { on := 2, ground := Go.Ground.phase }, { on := 3, ground := Go.Ground.phase }, { on := 4, ground := Go.Ground.phase }, { on := 5, ground := Go.Ground.phase }, { on := 6, ground := Go.Ground.phase }, { on := 7, ground := Go.Ground.phase }, { on := 8, ground := Go.Ground.phase }, { on := 9, ground := Go.Ground.phase }, { on := 10, ground := Go.Ground.textOnly Go.Departure.lateStores }, { on := 11, ground := Go.Ground.textOnly Go.Departure.lateStores }, { on := 12, ground := Go.Ground.textOnly Go.Departure.lateStores }, { on := 13, ground := Go.Ground.textOnly Go.Departure.lateStores }, { on := 14, ground := Go.Ground.textOnly Go.Departure.lateStores }, { on := 15, ground := Go.Ground.textOnly Go.Departure.lateStoresUnsure }], guard := none }) rfl (by kernel_rfl) (fun K hK => ?_) AllReadyM.nil
            go_simp
            refine hK.out _ _ ?_
            clear hK K
            (try simp only [Act.put, List.setIfInBounds_toArray, List.set_cons_zero, List.set_cons_succ])
            refine wpAnyM_takeY (i := 18) (oi := { dst := some 97, op := Go.Op.fieldAddr 34 (Go.Operand.tmp 9) 3, type := 0, pos := "walks.go:212", after := #[{ on := 0, ground := Go.Ground.phase }, { on := 1, ground := Go.Ground.phase }, { on := 2, ground := Go.Ground.phase }, { on := 3, ground := Go.Ground.phase }, { on := 4, ground := Go.Ground.phase }, { on := 5, ground := Go.Ground.phase }, { on := 6, ground := Go.Ground.phase }, { on := 7, ground := Go.Ground.phase }, { on := 8, ground := Go.Ground.phase }, { on := 9, ground := Go.Ground.phase }, { on := 10, ground := Go.Ground.phase }, { on := 11, ground := Go.Ground.phase }, { on := 12, ground := Go.Ground.phase }, { on := 13, ground := Go.Ground.phase }, { on := 14, ground := Go.Ground.phase }, { on := 15, ground := Go.Ground.phase }, { on := 16, ground := Go.Ground.phase }, { on := 17, ground := Go.Ground.phase }], guard := none }) (v := ?v53) rfl (by kernel_rfl) (fun _ _ _ h => h) (Or.inl ⟨by rfl, ?hy53⟩) (fun hcl => absurd (hcl 17 (by simp)) (by simp)) ?rest53
            case hy53 => (intro wz hSw; (try dsimp only at hSw); go_simp; try with_reducible rfl)
            (try simp only [Act.put, List.setIfInBounds_toArray, List.set_cons_zero, List.set_cons_succ])
            refine wpAnyM_ready (rs := [19]) (by kernel_rfl) (by simp) ?_
            refine AllReadyM.behind (o := { dst := none, op := Go.Op.store 27 (Go.Operand.tmp 97) (Go.Operand.tmp 95), type := 0, pos := "walks.go:212", after := #[{ on := 18, ground := Go.Ground.data }, { on := 15, ground := Go.Ground.data }, { on := 17, ground := Go.Ground.chain }, { on := 0, ground := Go.Ground.phase }, { on := 1, ground := Go.Ground.phase }, { on := 2, ground := Go.Ground.phase }, { on := 3, ground := Go.Ground.phase }, { on := 4, ground := Go.Ground.phase }, { on := 5, ground := Go.Ground.phase }, { on := 6, ground := Go.Ground.phase }, { on := 7, ground := Go.Ground.phase }, { on := 8, ground := Go.Ground.phase }, { on := 9, ground := Go.Ground.phase }, { on := 10, ground := Go.Ground.phase }, { on := 11, ground := Go.Ground.phase }, { on := 12, ground := Go.Ground.phase }, { on := 13, ground := Go.Ground.phase }, { on := 14, ground := Go.Ground.phase }, { on := 15, ground := Go.Ground.phase }, { on := 16, ground := Go.Ground.phase }, { on := 17, ground := Go.Ground.phase }], guard := none }) rfl (by kernel_rfl) (fun K hK => ?_) AllReadyM.nil
            go_simp
            refine hK.out _ _ ?_
            clear hK K
            (try simp only [Act.put, List.setIfInBounds_toArray, List.set_cons_zero, List.set_cons_succ])
            refine wpAnyM_done (by kernel_rfl) ?_ _
            go_wp2_with fail
            exact ⟨⟨k + 1, _, _, _, _, _, _, by go_num, by omega, hid (by rw [HT2.out.1, HT2.out.2]; exact (HQ_6_7_14_15.out.put _ _).swap)⟩, by simp [intOf]; omega⟩
          refine AllReadyM.cons (o := { dst := some 94, op := Go.Op.buildSlice 27 1 #[(0, Go.Operand.tmp 93)], type := 27, pos := "walks.go:212", after := #[{ on := 13, ground := Go.Ground.data }], guard := none }) rfl (fun K hK => ?_) AllReadyM.nil
          go_simp
          have HQ_6_14 := hid (HQ_6.out.ext ((Ext.refl _).alloc (.cells #[.int .i64 m1, .int .i64 m2, .float .f64 m3, .string m4, .slice m5 m6 m7, .slice m8 m9 m10] 32)))
          have FB_6_14 := hid (second_heap wd (.cells #[.string s'] 9) (.cells #[.int .i64 m1, .int .i64 m2, .float .f64 m3, .string m4, .slice m5 m6 m7, .slice m8 m9 m10] 32))
          have FA_6_14 := hid (((Ext.refl _).alloc (.cells #[.int .i64 m1, .int .i64 m2, .float .f64 m3, .string m4, .slice m5 m6 m7, .slice m8 m9 m10] 32)).block FA_6.out)
          refine hK.out _ _ ?hS54 (fun hHeld => ?_)
          case hS54 => (exact KB.out _ HQ_6_14.out.below HQ_6_14.out.outA)
          clear hK K
          (try simp only [Act.put, List.setIfInBounds_toArray, List.set_cons_zero, List.set_cons_succ])
          refine wpAnyM_ready (rs := [7]) (by kernel_rfl) (by simp) ?_
          refine AllReadyM.cons (o := { dst := some 87, op := Go.Op.call { callee := Go.Callee.builtin Go.Builtin.append, args := #[Go.Operand.tmp 81, Go.Operand.tmp 86], argTypes := #[26, 26] }, type := 26, pos := "walks.go:212", after := #[{ on := 1, ground := Go.Ground.data }, { on := 6, ground := Go.Ground.data }], guard := none }) rfl (fun K hK => ?_) AllReadyM.nil
          refine step_append_lies _ rfl (.tmp 81) (.tmp 86) 26 rfl (w4.heap.size + 2) 9 is _ 1 16 Try.underlying26 his hs0 hs1 hs2 rfl (by decide) _ k (((rotL (names.take n) u).take k).map Value.string) rfl HQ_6_14.out.rka ⟨wd.heap.size, 0, none⟩ 1 1 [.string s'] rfl rfl (cells_at FA_6_14.out) (by simp [Value.oneCell']) (by decide) (by have := HK40.out; unfold maxLen; omega) (by have := HK40.out; omega) HQ_6_14.out.hs _ rfl ?_
          intro g_6_14_7 cap_6_14_7 w_6_14_7 hown hgr hat hlt
          have HQ_6_14_7 := hid (HQ_6_14.out.appK s' hgr (by simpa using hown) (fun g hg => by simp [Value.ownBlock] at hg; subst hg; exact hat.elim .inl (fun e => .inr (Nat.le_of_eq e.symm))))
          have FB_6_14_7 := hid ((hgr.block (wd.heap.size + 1) (Array.getElem?_eq_some_iff.1 FB_6_14.out).1 (fun e => by have := own_lt HQ0.out.rka _ e.symm; omega)).trans FB_6_14.out)
          clear hown hgr hat hlt
          refine hK.out _ _ ?hS55 (fun hHeld => ?_)
          case hS55 => (exact KB.out _ HQ_6_14_7.out.below HQ_6_14_7.out.outA)
          clear hK K
          (try simp only [Act.put, List.setIfInBounds_toArray, List.set_cons_zero, List.set_cons_succ])
          refine wpAnyM_take (i := 16) (oi := { dst := some 96, op := Go.Op.fieldAddr 34 (Go.Operand.tmp 9) 2, type := 0, pos := "walks.go:212", after := #[{ on := 0, ground := Go.Ground.phase }, { on := 1, ground := Go.Ground.phase }, { on := 2, ground := Go.Ground.phase }, { on := 3, ground := Go.Ground.phase }, { on := 4, ground := Go.Ground.phase }, { on := 5, ground := Go.Ground.phase }, { on := 6, ground := Go.Ground.phase }, { on := 7, ground := Go.Ground.phase }, { on := 8, ground := Go.Ground.phase }, { on := 9, ground := Go.Ground.phase }, { on := 10, ground := Go.Ground.textOnly Go.Departure.lateStores }, { on := 11, ground := Go.Ground.textOnly Go.Departure.lateStores }, { on := 12, ground := Go.Ground.textOnly Go.Departure.lateStores }, { on := 13, ground := Go.Ground.textOnly Go.Departure.lateStores }, { on := 14, ground := Go.Ground.textOnly Go.Departure.lateStores }, { on := 15, ground := Go.Ground.textOnly Go.Departure.lateStoresUnsure }], guard := none }) (v := ?v56) rfl (by kernel_rfl) (fun _ _ _ h => h) (Or.inl ⟨by rfl, ?hy56⟩) (by assumption) ?rest56
          case hy56 => (intro wz hSw; (try dsimp only at hSw); go_simp; try with_reducible rfl)
          (try simp only [Act.put, List.setIfInBounds_toArray, List.set_cons_zero, List.set_cons_succ])
          refine wpAnyM_ready (rs := [15]) (by kernel_rfl) (by simp) ?_
          refine AllReadyM.cons (o := { dst := some 95, op := Go.Op.call { callee := Go.Callee.builtin Go.Builtin.append, args := #[Go.Operand.tmp 89, Go.Operand.tmp 94], argTypes := #[27, 27] }, type := 27, pos := "walks.go:212", after := #[{ on := 9, ground := Go.Ground.data }, { on := 14, ground := Go.Ground.data }, { on := 7, ground := Go.Ground.chain }], guard := none }) rfl (fun K hK => ?_) AllReadyM.nil
          refine step_append_lies _ rfl (.tmp 89) (.tmp 94) 27 rfl (w4.heap.size + 2) 32 i0 _ 6 88 Try.underlying27 hi hz0 hz1 hz2 rfl (by decide) _ k xb rfl HQ_6_14_7.out.rla ⟨wd.heap.size + 1, 0, none⟩ 1 1 [.int .i64 m1, .int .i64 m2, .float .f64 m3, .string m4, .slice m5 m6 m7, .slice m8 m9 m10] rfl rfl (cells_at FB_6_14_7.out) OC2.out (by decide) (by have := HK40.out; unfold maxLen; omega) (by have := HK40.out; omega) HQ_6_14_7.out.hs _ rfl ?_
          intro g_6_14_7_15 cap_6_14_7_15 w_6_14_7_15 hown hgr hat hlt
          have HQ_6_14_7_15 := hid (HQ_6_14_7.out.appL hgr hown (HG2.out _ HQ_6_14_7.out.below) (fun g hg => by simp [Value.ownBlock] at hg; subst hg; exact hat.elim .inl (fun e => .inr (Nat.le_of_eq e.symm))))
          clear hown hgr hat hlt
          obtain ⟨⟨z0, z1, z2, z3, z4, z5, z6, z7, z8, z9, z10⟩, f0, f1, f2, f3, f4, f5, f6, f7, f8, f9, f10⟩ := slot11 HQ_6_14_7_15.out.outA
          refine hK.out _ _ ?hS57 (fun hHeld => ?_)
          case hS57 => (exact KB.out _ HQ_6_14_7_15.out.below HQ_6_14_7_15.out.outA)
          clear hK K
          (try simp only [Act.put, List.setIfInBounds_toArray, List.set_cons_zero, List.set_cons_succ])
          refine wpAnyM_ready (rs := [17]) (by kernel_rfl) (by simp) ?_
          refine AllReadyM.behind (o := { dst := none, op := Go.Op.store 26 (Go.Operand.tmp 96) (Go.Operand.tmp 87), type := 0, pos := "walks.go:212", after := #[{ on := 16, ground := Go.Ground.data }, { on := 7, ground := Go.Ground.data }, { on := 15, ground := Go.Ground.chain }, { on := 0, ground := Go.Ground.phase }, { on := 1, ground := Go.Ground.phase }, { on := 2, ground := Go.Ground.phase }, { on := 3, ground := Go.Ground.phase }, { on := 4, ground := Go.Ground.phase }, { on := 5, ground := Go.Ground.phase }, { on := 6, ground := Go.Ground.phase }, { on := 7, ground := Go.Ground.phase }, { on := 8, ground := Go.Ground.phase }, { on := 9, ground := Go.Ground.phase }, { on := 10, ground := Go.Ground.textOnly Go.Departure.lateStores }, { on := 11, ground := Go.Ground.textOnly Go.Departure.lateStores }, { on := 12, ground := Go.Ground.textOnly Go.Departure.lateStores }, { on := 13, ground := Go.Ground.textOnly Go.Departure.lateStores }, { on := 14, ground := Go.Ground.textOnly Go.Departure.lateStores }, { on := 15, ground := Go.Ground.textOnly Go.Departure.lateStoresUnsure }], guard := none }) rfl (by kernel_rfl) (fun K hK => ?_) AllReadyM.nil
          go_simp
          refine hK.out _ _ ?_
          clear hK K
          (try simp only [Act.put, List.setIfInBounds_toArray, List.set_cons_zero, List.set_cons_succ])
          refine wpAnyM_takeY (i := 18) (oi := { dst := some 97, op := Go.Op.fieldAddr 34 (Go.Operand.tmp 9) 3, type := 0, pos := "walks.go:212", after := #[{ on := 0, ground := Go.Ground.phase }, { on := 1, ground := Go.Ground.phase }, { on := 2, ground := Go.Ground.phase }, { on := 3, ground := Go.Ground.phase }, { on := 4, ground := Go.Ground.phase }, { on := 5, ground := Go.Ground.phase }, { on := 6, ground := Go.Ground.phase }, { on := 7, ground := Go.Ground.phase }, { on := 8, ground := Go.Ground.phase }, { on := 9, ground := Go.Ground.phase }, { on := 10, ground := Go.Ground.phase }, { on := 11, ground := Go.Ground.phase }, { on := 12, ground := Go.Ground.phase }, { on := 13, ground := Go.Ground.phase }, { on := 14, ground := Go.Ground.phase }, { on := 15, ground := Go.Ground.phase }, { on := 16, ground := Go.Ground.phase }, { on := 17, ground := Go.Ground.phase }], guard := none }) (v := ?v58) rfl (by kernel_rfl) (fun _ _ _ h => h) (Or.inl ⟨by rfl, ?hy58⟩) (fun hcl => absurd (hcl 17 (by simp)) (by simp)) ?rest58
          case hy58 => (intro wz hSw; (try dsimp only at hSw); go_simp; try with_reducible rfl)
          (try simp only [Act.put, List.setIfInBounds_toArray, List.set_cons_zero, List.set_cons_succ])
          refine wpAnyM_ready (rs := [19]) (by kernel_rfl) (by simp) ?_
          refine AllReadyM.behind (o := { dst := none, op := Go.Op.store 27 (Go.Operand.tmp 97) (Go.Operand.tmp 95), type := 0, pos := "walks.go:212", after := #[{ on := 18, ground := Go.Ground.data }, { on := 15, ground := Go.Ground.data }, { on := 17, ground := Go.Ground.chain }, { on := 0, ground := Go.Ground.phase }, { on := 1, ground := Go.Ground.phase }, { on := 2, ground := Go.Ground.phase }, { on := 3, ground := Go.Ground.phase }, { on := 4, ground := Go.Ground.phase }, { on := 5, ground := Go.Ground.phase }, { on := 6, ground := Go.Ground.phase }, { on := 7, ground := Go.Ground.phase }, { on := 8, ground := Go.Ground.phase }, { on := 9, ground := Go.Ground.phase }, { on := 10, ground := Go.Ground.phase }, { on := 11, ground := Go.Ground.phase }, { on := 12, ground := Go.Ground.phase }, { on := 13, ground := Go.Ground.phase }, { on := 14, ground := Go.Ground.phase }, { on := 15, ground := Go.Ground.phase }, { on := 16, ground := Go.Ground.phase }, { on := 17, ground := Go.Ground.phase }], guard := none }) rfl (by kernel_rfl) (fun K hK => ?_) AllReadyM.nil
          go_simp
          refine hK.out _ _ ?_
          clear hK K
          (try simp only [Act.put, List.setIfInBounds_toArray, List.set_cons_zero, List.set_cons_succ])
          refine wpAnyM_done (by kernel_rfl) ?_ _
          go_wp2_with fail
          exact ⟨⟨k + 1, _, _, _, _, _, _, by go_num, by omega, hid (by rw [HT2.out.1, HT2.out.2]; exact (HQ_6_14_7_15.out.put _ _).swap)⟩, by simp [intOf]; omega⟩
        refine AllReadyM.cons (o := { dst := some 94, op := Go.Op.buildSlice 27 1 #[(0, Go.Operand.tmp 93)], type := 27, pos := "walks.go:212", after := #[{ on := 13, ground := Go.Ground.data }], guard := none }) rfl (fun K hK => ?_) AllReadyM.nil
        go_simp
        have HQ_14 := hid (HQ0.out.ext ((Ext.refl _).alloc (.cells #[.int .i64 m1, .int .i64 m2, .float .f64 m3, .string m4, .slice m5 m6 m7, .slice m8 m9 m10] 32)))
        have FB_14 := hid (heap_alloc_new wd (.cells #[.int .i64 m1, .int .i64 m2, .float .f64 m3, .string m4, .slice m5 m6 m7, .slice m8 m9 m10] 32))
        refine hK.out _ _ ?hS59 (fun hHeld => ?_)
        case hS59 => (exact KB.out _ HQ_14.out.below HQ_14.out.outA)
        clear hK K
        (try simp only [Act.put, List.setIfInBounds_toArray, List.set_cons_zero, List.set_cons_succ])
        refine wpAnyM_ready (rs := [6]) (by kernel_rfl) (by simp) ?_
        refine AllReadyM.cons (o := { dst := some 86, op := Go.Op.buildSlice 26 1 #[(0, Go.Operand.tmp 85)], type := 26, pos := "walks.go:212", after := #[{ on := 5, ground := Go.Ground.data }], guard := none }) rfl (fun K hK => ?_) AllReadyM.nil
        go_simp
        have HQ_14_6 := hid (HQ_14.out.ext ((Ext.refl _).alloc (.cells #[.string s'] 9)))
        have FA_14_6 := hid (second_heap wd (.cells #[.int .i64 m1, .int .i64 m2, .float .f64 m3, .string m4, .slice m5 m6 m7, .slice m8 m9 m10] 32) (.cells #[.string s'] 9))
        have FB_14_6 := hid (((Ext.refl _).alloc (.cells #[.string s'] 9)).block FB_14.out)
        refine hK.out _ _ ?hS60 (fun hHeld => ?_)
        case hS60 => (exact KB.out _ HQ_14_6.out.below HQ_14_6.out.outA)
        clear hK K
        (try simp only [Act.put, List.setIfInBounds_toArray, List.set_cons_zero, List.set_cons_succ])
        refine wpAnyM_ready (rs := [7]) (by kernel_rfl) (by simp) ?_
        refine AllReadyM.cons (o := { dst := some 87, op := Go.Op.call { callee := Go.Callee.builtin Go.Builtin.append, args := #[Go.Operand.tmp 81, Go.Operand.tmp 86], argTypes := #[26, 26] }, type := 26, pos := "walks.go:212", after := #[{ on := 1, ground := Go.Ground.data }, { on := 6, ground := Go.Ground.data }], guard := none }) rfl (fun K hK => ?_) AllReadyM.nil
        refine step_append_lies _ rfl (.tmp 81) (.tmp 86) 26 rfl (w4.heap.size + 2) 9 is _ 1 16 Try.underlying26 his hs0 hs1 hs2 rfl (by decide) _ k (((rotL (names.take n) u).take k).map Value.string) rfl HQ_14_6.out.rka ⟨wd.heap.size + 1, 0, none⟩ 1 1 [.string s'] rfl rfl (cells_at FA_14_6.out) (by simp [Value.oneCell']) (by decide) (by have := HK40.out; unfold maxLen; omega) (by have := HK40.out; omega) HQ_14_6.out.hs _ rfl ?_
        intro g_14_6_7 cap_14_6_7 w_14_6_7 hown hgr hat hlt
        have HQ_14_6_7 := hid (HQ_14_6.out.appK s' hgr (by simpa using hown) (fun g hg => by simp [Value.ownBlock] at hg; subst hg; exact hat.elim .inl (fun e => .inr (Nat.le_of_eq e.symm))))
        have FB_14_6_7 := hid ((hgr.block (wd.heap.size) (Array.getElem?_eq_some_iff.1 FB_14_6.out).1 (fun e => by have := own_lt HQ0.out.rka _ e.symm; omega)).trans FB_14_6.out)
        clear hown hgr hat hlt
        refine hK.out _ _ ?hS61 (fun hHeld => ?_)
        case hS61 => (exact KB.out _ HQ_14_6_7.out.below HQ_14_6_7.out.outA)
        clear hK K
        (try simp only [Act.put, List.setIfInBounds_toArray, List.set_cons_zero, List.set_cons_succ])
        refine wpAnyM_take (i := 16) (oi := { dst := some 96, op := Go.Op.fieldAddr 34 (Go.Operand.tmp 9) 2, type := 0, pos := "walks.go:212", after := #[{ on := 0, ground := Go.Ground.phase }, { on := 1, ground := Go.Ground.phase }, { on := 2, ground := Go.Ground.phase }, { on := 3, ground := Go.Ground.phase }, { on := 4, ground := Go.Ground.phase }, { on := 5, ground := Go.Ground.phase }, { on := 6, ground := Go.Ground.phase }, { on := 7, ground := Go.Ground.phase }, { on := 8, ground := Go.Ground.phase }, { on := 9, ground := Go.Ground.phase }, { on := 10, ground := Go.Ground.textOnly Go.Departure.lateStores }, { on := 11, ground := Go.Ground.textOnly Go.Departure.lateStores }, { on := 12, ground := Go.Ground.textOnly Go.Departure.lateStores }, { on := 13, ground := Go.Ground.textOnly Go.Departure.lateStores }, { on := 14, ground := Go.Ground.textOnly Go.Departure.lateStores }, { on := 15, ground := Go.Ground.textOnly Go.Departure.lateStoresUnsure }], guard := none }) (v := ?v62) rfl (by kernel_rfl) (fun _ _ _ h => h) (Or.inl ⟨by rfl, ?hy62⟩) (by assumption) ?rest62
        case hy62 => (intro wz hSw; (try dsimp only at hSw); go_simp; try with_reducible rfl)
        (try simp only [Act.put, List.setIfInBounds_toArray, List.set_cons_zero, List.set_cons_succ])
        refine wpAnyM_ready (rs := [15]) (by kernel_rfl) (by simp) ?_
        refine AllReadyM.cons (o := { dst := some 95, op := Go.Op.call { callee := Go.Callee.builtin Go.Builtin.append, args := #[Go.Operand.tmp 89, Go.Operand.tmp 94], argTypes := #[27, 27] }, type := 27, pos := "walks.go:212", after := #[{ on := 9, ground := Go.Ground.data }, { on := 14, ground := Go.Ground.data }, { on := 7, ground := Go.Ground.chain }], guard := none }) rfl (fun K hK => ?_) AllReadyM.nil
        refine step_append_lies _ rfl (.tmp 89) (.tmp 94) 27 rfl (w4.heap.size + 2) 32 i0 _ 6 88 Try.underlying27 hi hz0 hz1 hz2 rfl (by decide) _ k xb rfl HQ_14_6_7.out.rla ⟨wd.heap.size, 0, none⟩ 1 1 [.int .i64 m1, .int .i64 m2, .float .f64 m3, .string m4, .slice m5 m6 m7, .slice m8 m9 m10] rfl rfl (cells_at FB_14_6_7.out) OC2.out (by decide) (by have := HK40.out; unfold maxLen; omega) (by have := HK40.out; omega) HQ_14_6_7.out.hs _ rfl ?_
        intro g_14_6_7_15 cap_14_6_7_15 w_14_6_7_15 hown hgr hat hlt
        have HQ_14_6_7_15 := hid (HQ_14_6_7.out.appL hgr hown (HG2.out _ HQ_14_6_7.out.below) (fun g hg => by simp [Value.ownBlock] at hg; subst hg; exact hat.elim .inl (fun e => .inr (Nat.le_of_eq e.symm))))
        clear hown hgr hat hlt
        obtain ⟨⟨z0, z1, z2, z3, z4, z5, z6, z7, z8, z9, z10⟩, f0, f1, f2, f3, f4, f5, f6, f7, f8, f9, f10⟩ := slot11 HQ_14_6_7_15.out.outA
        refine hK.out _ _ ?hS63 (fun hHeld => ?_)
        case hS63 => (exact KB.out _ HQ_14_6_7_15.out.below HQ_14_6_7_15.out.outA)
        clear hK K
        (try simp only [Act.put, List.setIfInBounds_toArray, List.set_cons_zero, List.set_cons_succ])
        refine wpAnyM_ready (rs := [17]) (by kernel_rfl) (by simp) ?_
        refine AllReadyM.behind (o := { dst := none, op := Go.Op.store 26 (Go.Operand.tmp 96) (Go.Operand.tmp 87), type := 0, pos := "walks.go:212", after := #[{ on := 16, ground := Go.Ground.data }, { on := 7, ground := Go.Ground.data }, { on := 15, ground := Go.Ground.chain }, { on := 0, ground := Go.Ground.phase }, { on := 1, ground := Go.Ground.phase }, { on := 2, ground := Go.Ground.phase }, { on := 3, ground := Go.Ground.phase }, { on := 4, ground := Go.Ground.phase }, { on := 5, ground := Go.Ground.phase }, { on := 6, ground := Go.Ground.phase }, { on := 7, ground := Go.Ground.phase }, { on := 8, ground := Go.Ground.phase }, { on := 9, ground := Go.Ground.phase }, { on := 10, ground := Go.Ground.textOnly Go.Departure.lateStores }, { on := 11, ground := Go.Ground.textOnly Go.Departure.lateStores }, { on := 12, ground := Go.Ground.textOnly Go.Departure.lateStores }, { on := 13, ground := Go.Ground.textOnly Go.Departure.lateStores }, { on := 14, ground := Go.Ground.textOnly Go.Departure.lateStores }, { on := 15, ground := Go.Ground.textOnly Go.Departure.lateStoresUnsure }], guard := none }) rfl (by kernel_rfl) (fun K hK => ?_) AllReadyM.nil
        go_simp
        refine hK.out _ _ ?_
        clear hK K
        (try simp only [Act.put, List.setIfInBounds_toArray, List.set_cons_zero, List.set_cons_succ])
        refine wpAnyM_takeY (i := 18) (oi := { dst := some 97, op := Go.Op.fieldAddr 34 (Go.Operand.tmp 9) 3, type := 0, pos := "walks.go:212", after := #[{ on := 0, ground := Go.Ground.phase }, { on := 1, ground := Go.Ground.phase }, { on := 2, ground := Go.Ground.phase }, { on := 3, ground := Go.Ground.phase }, { on := 4, ground := Go.Ground.phase }, { on := 5, ground := Go.Ground.phase }, { on := 6, ground := Go.Ground.phase }, { on := 7, ground := Go.Ground.phase }, { on := 8, ground := Go.Ground.phase }, { on := 9, ground := Go.Ground.phase }, { on := 10, ground := Go.Ground.phase }, { on := 11, ground := Go.Ground.phase }, { on := 12, ground := Go.Ground.phase }, { on := 13, ground := Go.Ground.phase }, { on := 14, ground := Go.Ground.phase }, { on := 15, ground := Go.Ground.phase }, { on := 16, ground := Go.Ground.phase }, { on := 17, ground := Go.Ground.phase }], guard := none }) (v := ?v64) rfl (by kernel_rfl) (fun _ _ _ h => h) (Or.inl ⟨by rfl, ?hy64⟩) (fun hcl => absurd (hcl 17 (by simp)) (by simp)) ?rest64
        case hy64 => (intro wz hSw; (try dsimp only at hSw); go_simp; try with_reducible rfl)
        (try simp only [Act.put, List.setIfInBounds_toArray, List.set_cons_zero, List.set_cons_succ])
        refine wpAnyM_ready (rs := [19]) (by kernel_rfl) (by simp) ?_
        refine AllReadyM.behind (o := { dst := none, op := Go.Op.store 27 (Go.Operand.tmp 97) (Go.Operand.tmp 95), type := 0, pos := "walks.go:212", after := #[{ on := 18, ground := Go.Ground.data }, { on := 15, ground := Go.Ground.data }, { on := 17, ground := Go.Ground.chain }, { on := 0, ground := Go.Ground.phase }, { on := 1, ground := Go.Ground.phase }, { on := 2, ground := Go.Ground.phase }, { on := 3, ground := Go.Ground.phase }, { on := 4, ground := Go.Ground.phase }, { on := 5, ground := Go.Ground.phase }, { on := 6, ground := Go.Ground.phase }, { on := 7, ground := Go.Ground.phase }, { on := 8, ground := Go.Ground.phase }, { on := 9, ground := Go.Ground.phase }, { on := 10, ground := Go.Ground.phase }, { on := 11, ground := Go.Ground.phase }, { on := 12, ground := Go.Ground.phase }, { on := 13, ground := Go.Ground.phase }, { on := 14, ground := Go.Ground.phase }, { on := 15, ground := Go.Ground.phase }, { on := 16, ground := Go.Ground.phase }, { on := 17, ground := Go.Ground.phase }], guard := none }) rfl (by kernel_rfl) (fun K hK => ?_) AllReadyM.nil
        go_simp
        refine hK.out _ _ ?_
        clear hK K
        (try simp only [Act.put, List.setIfInBounds_toArray, List.set_cons_zero, List.set_cons_succ])
        refine wpAnyM_done (by kernel_rfl) ?_ _
        go_wp2_with fail
        exact ⟨⟨k + 1, _, _, _, _, _, _, by go_num, by omega, hid (by rw [HT2.out.1, HT2.out.2]; exact (HQ_14_6_7_15.out.put _ _).swap)⟩, by simp [intOf]; omega⟩
    · have hkk : k = n := by omega
      subst hkk
      have HL := hid (show (names.take k).length = k ∧ (l.take k).length = k ∧ (rotL (names.take k) u).length = k ∧ (rotL (l.take k) u).length = k by rw [rotL_length, rotL_length, List.length_take, List.length_take]; omega)
      have HQ2 := hid (show K4 w4 wr w4.heap.size w4.heap.size (w4.heap.size + 1) (w4.heap.size + 2) ak al bk bl ak al bk bl k k k k (names.take k) (rotL (names.take k) u) xa xb (l.take k) (rotL (l.take k) u) by
        have h := HQ.out
        rw [List.take_of_length_le (i := k) (l := rotL (names.take k) u) (by rw [HL.out.2.2.1]; exact Nat.le_refl _), List.take_of_length_le (i := k) (l := rotL (l.take k) u) (by rw [HL.out.2.2.2]; exact Nat.le_refl _)] at h
        exact h)
      obtain ⟨ya, yc, rfl⟩ := own_form HQ.out.rka
      obtain ⟨la, lc, rfl⟩ := own_form HQ.out.rla
      obtain ⟨yb, yd, rfl⟩ := own_form HQ.out.rkb
      obtain ⟨lb, ld, rfl⟩ := own_form HQ.out.rlb
      have HA := hid (show RepGE Any wr ⟨1, ByteArray.empty, names.take k, l.take k, zeroG, 0⟩ [.int .i64 1, .string ⟨#[]⟩, .slice ya k yc, .slice la k lc, .int .i64 0, .int .i64 0, .float .f64 0, .string ⟨#[]⟩, .slice none 0 0, .slice none 0 0, .int .i64 0] from by
        have h1 : RepStrs Any wr (.slice ya k yc) (names.take k) := strs_of_row HQ2.out.rka (fun _ _ => trivial) (by rw [HL.out.1]; omega) (fun x hx => by
          obtain ⟨i, hi⟩ := List.mem_iff_getElem?.1 (List.mem_of_mem_take hx)
          exact (HNA.out i x hi).2.2)
        have h2 : RepVals Any wr (.slice la k lc) (l.take k) := vals_own HQ2.out.rla (HQ2.out.rowA.mono (Same.refl _ _) (fun _ _ _ => trivial)) (fun _ _ => trivial) (by rw [HL.out.2.1]; omega)
        exact ⟨ya, yc, la, lc, _, _, _, _, _, _, by simp only [HL.out.1, HL.out.2.1]; rfl, wfk 1 rfl, wfk 0 rfl, es0, by simp only [HL.out.1]; exact h1, by simp only [HL.out.2.1]; exact h2, repZero _ _⟩)
      have HB := hid (show RepGE Any wr ⟨1, ByteArray.empty, rotL (names.take k) u, rotL (l.take k) u, zeroG, 0⟩ [.int .i64 1, .string ⟨#[]⟩, .slice yb k yd, .slice lb k ld, .int .i64 0, .int .i64 0, .float .f64 0, .string ⟨#[]⟩, .slice none 0 0, .slice none 0 0, .int .i64 0] from by
        have h1 : RepStrs Any wr (.slice yb k yd) (rotL (names.take k) u) := strs_of_row HQ2.out.rkb (fun _ _ => trivial) (by rw [HL.out.2.2.1]; omega) (fun x hx => by
          obtain ⟨i, hi⟩ := List.mem_iff_getElem?.1 (List.mem_of_mem_take ((rotL_perm _ _).mem_iff.1 hx))
          exact (HNA.out i x hi).2.2)
        have h2 : RepVals Any wr (.slice lb k ld) (rotL (l.take k) u) := vals_own HQ2.out.rlb (HQ2.out.rowB.mono (Same.refl _ _) (fun _ _ _ => trivial)) (fun _ _ => trivial) (by rw [HL.out.2.2.2]; omega)
        exact ⟨yb, yd, lb, ld, _, _, _, _, _, _, by simp only [HL.out.2.2.1, HL.out.2.2.2]; rfl, wfk 1 rfl, wfk 0 rfl, es0, by simp only [HL.out.2.2.1]; exact h1, by simp only [HL.out.2.2.2]; exact h2, repZero _ _⟩)
      obtain ⟨G, hG⟩ : ∃ G, G = fromEl (.key (sortP (keyT ⟨1, ByteArray.empty, names.take k, l.take k, zeroG, 0⟩))) := ⟨_, rfl⟩
      have HGB := hid (show fromEl (.key (sortP (keyT ⟨1, ByteArray.empty, rotL (names.take k) u, rotL (l.take k) u, zeroG, 0⟩))) = G from by
        rw [hG]
        have hnd : (names.take k).Nodup := by
          have h := HZ1.out
          rw [Bool.and_eq_true] at h
          exact of_decide_eq_true h.1
        have e1 : keyT ⟨1, ByteArray.empty, rotL (names.take k) u, rotL (l.take k) u, zeroG, 0⟩ = rotL (keyT ⟨1, ByteArray.empty, names.take k, l.take k, zeroG, 0⟩) u := by
          show (rotL (names.take k) u).zip (plainTs (rotL (l.take k) u)) = rotL ((names.take k).zip (plainTs (l.take k))) u
          have e2 : plainTs (rotL (l.take k) u) = rotL (plainTs (l.take k)) u := by
            simp only [rotL, plainTs_eq, List.map_append, List.map_drop, List.map_take]
          rw [e2, rotL_zip _ (by rw [plainTs_length, HL.out.1, HL.out.2.1])]
        rw [e1, sortP_of_perm _ (rotL_perm _ u)]
        refine (rotL_perm _ _).map _ |>.nodup_iff.2 ?_
        show (((names.take k).zip (plainTs (l.take k))).map (·.1)).Nodup
        rw [List.map_fst_zip (by rw [plainTs_length, HL.out.1, HL.out.2.1]; exact Nat.le_refl _)]
        exact hnd)
      have HGK := hid (show G.keys.length = k from by
        rw [hG]
        show ((sortP (keyT _)).map (·.1)).length = k
        rw [List.length_map, sortP_length]
        show ((names.take k).zip (plainTs (l.take k))).length = k
        rw [List.length_zip, plainTs_length, HL.out.1, HL.out.2.1]
        omega)
      have HGE := hid (show eqE (toEl G) (toEl G) = true from by
        rw [hG]
        refine key_refl fun p hp => ?_
        have h1 := (sortP_perm _).mem_iff.1 hp
        have h2 := (List.of_mem_zip (show (p.1, p.2) ∈ (names.take k).zip (plainTs (l.take k)) from h1)).2
        rw [plainTs_eq] at h2
        obtain ⟨x, hx, hx2⟩ := List.mem_map.1 h2
        rw [← hx2]
        have h3 := HZ2.out
        rw [ordGs_eq, List.all_eq_true] at h3
        exact noNaN (h3 x hx))
      have HCA := hid (fun (W : World) (E : Ext wr W) => keyBy_any _ _ W (HA.out.ext E))
      have HCB := hid (fun (W : World) (E : Ext wr W) => HGB.out ▸ keyBy_any _ _ W (HB.out.ext E))
      rw [← hG] at HCA
      clear hG
      clear HN HV HNA HVA HD HO HZ1 HZ2 HT HNM HA HB HGB HQ HL
      go_upto_region 14 with fail
      go_cut [12, 13] from 98 to 101 (fun s12 s13 wx => ∃ (p q : Nat) (c1 c2 : List Value), s12 = .pointer (some ⟨p, 0, none⟩) ∧ s13 = .pointer (some ⟨q, 0, none⟩) ∧ Hid (wx.heap[p]? = some (.cells c1.toArray 34)) ∧ Hid (wx.heap[q]? = some (.cells c2.toArray 34)) ∧ Hid (RepGE Any wx G c1) ∧ Hid (RepGE Any wx G c2) ∧ Hid (Ext w wx))
      case first =>
        have K14 := hid (show ∀ W : World, Ext wr W → (fun w' : World => w'.cell? ⟨w4.heap.size, 0, none⟩ = some (.int .i64 1) ∧ w'.cell? ⟨w4.heap.size, 1, none⟩ = some (.string ⟨#[]⟩) ∧ w'.cell? ⟨w4.heap.size, 2, none⟩ = some (.slice ya k yc) ∧ w'.cell? ⟨w4.heap.size, 3, none⟩ = some (.slice la k lc) ∧ w'.cell? ⟨w4.heap.size, 4, none⟩ = some (.int .i64 0) ∧ w'.cell? ⟨w4.heap.size, 5, none⟩ = some (.int .i64 0) ∧ w'.cell? ⟨w4.heap.size, 6, none⟩ = some (.float .f64 0) ∧ w'.cell? ⟨w4.heap.size, 7, none⟩ = some (.string ⟨#[]⟩) ∧ w'.cell? ⟨w4.heap.size, 8, none⟩ = some (.slice none 0 0) ∧ w'.cell? ⟨w4.heap.size, 9, none⟩ = some (.slice none 0 0) ∧ w'.cell? ⟨w4.heap.size, 10, none⟩ = some (.int .i64 0) ∧ w'.cell? ⟨w4.heap.size + 1, 0, none⟩ = some (.int .i64 1) ∧ w'.cell? ⟨w4.heap.size + 1, 1, none⟩ = some (.string ⟨#[]⟩) ∧ w'.cell? ⟨w4.heap.size + 1, 2, none⟩ = some (.slice yb k yd) ∧ w'.cell? ⟨w4.heap.size + 1, 3, none⟩ = some (.slice lb k ld) ∧ w'.cell? ⟨w4.heap.size + 1, 4, none⟩ = some (.int .i64 0) ∧ w'.cell? ⟨w4.heap.size + 1, 5, none⟩ = some (.int .i64 0) ∧ w'.cell? ⟨w4.heap.size + 1, 6, none⟩ = some (.float .f64 0) ∧ w'.cell? ⟨w4.heap.size + 1, 7, none⟩ = some (.string ⟨#[]⟩) ∧ w'.cell? ⟨w4.heap.size + 1, 8, none⟩ = some (.slice none 0 0) ∧ w'.cell? ⟨w4.heap.size + 1, 9, none⟩ = some (.slice none 0 0) ∧ w'.cell? ⟨w4.heap.size + 1, 10, none⟩ = some (.int .i64 0)) W from fun W hE => by
          obtain ⟨⟨z0, z1, z2, z3, z4, z5, z6, z7, z8, z9, z10⟩, -⟩ := slot11 (hE.block HQ2.out.outA)
          obtain ⟨⟨y0, y1, y2, y3, y4, y5, y6, y7, y8, y9, y10⟩, -⟩ := slot11 (hE.block HQ2.out.outB)
          exact ⟨z0, z1, z2, z3, z4, z5, z6, z7, z8, z9, z10, y0, y1, y2, y3, y4, y5, y6, y7, y8, y9, y10⟩)
        have HE_ := hid ((Ext.refl wr).drew)
        have HWD := hid (show wr.drew.heap.size = wr.heap.size from rfl)
        refine wp_region_late (fun w' : World => w'.cell? ⟨w4.heap.size, 0, none⟩ = some (.int .i64 1) ∧ w'.cell? ⟨w4.heap.size, 1, none⟩ = some (.string ⟨#[]⟩) ∧ w'.cell? ⟨w4.heap.size, 2, none⟩ = some (.slice ya k yc) ∧ w'.cell? ⟨w4.heap.size, 3, none⟩ = some (.slice la k lc) ∧ w'.cell? ⟨w4.heap.size, 4, none⟩ = some (.int .i64 0) ∧ w'.cell? ⟨w4.heap.size, 5, none⟩ = some (.int .i64 0) ∧ w'.cell? ⟨w4.heap.size, 6, none⟩ = some (.float .f64 0) ∧ w'.cell? ⟨w4.heap.size, 7, none⟩ = some (.string ⟨#[]⟩) ∧ w'.cell? ⟨w4.heap.size, 8, none⟩ = some (.slice none 0 0) ∧ w'.cell? ⟨w4.heap.size, 9, none⟩ = some (.slice none 0 0) ∧ w'.cell? ⟨w4.heap.size, 10, none⟩ = some (.int .i64 0) ∧ w'.cell? ⟨w4.heap.size + 1, 0, none⟩ = some (.int .i64 1) ∧ w'.cell? ⟨w4.heap.size + 1, 1, none⟩ = some (.string ⟨#[]⟩) ∧ w'.cell? ⟨w4.heap.size + 1, 2, none⟩ = some (.slice yb k yd) ∧ w'.cell? ⟨w4.heap.size + 1, 3, none⟩ = some (.slice lb k ld) ∧ w'.cell? ⟨w4.heap.size + 1, 4, none⟩ = some (.int .i64 0) ∧ w'.cell? ⟨w4.heap.size + 1, 5, none⟩ = some (.int .i64 0) ∧ w'.cell? ⟨w4.heap.size + 1, 6, none⟩ = some (.float .f64 0) ∧ w'.cell? ⟨w4.heap.size + 1, 7, none⟩ = some (.string ⟨#[]⟩) ∧ w'.cell? ⟨w4.heap.size + 1, 8, none⟩ = some (.slice none 0 0) ∧ w'.cell? ⟨w4.heap.size + 1, 9, none⟩ = some (.slice none 0 0) ∧ w'.cell? ⟨w4.heap.size + 1, 10, none⟩ = some (.int .i64 0)) [6, 7] (by kernel_rfl) ?hS65 (fun hHeld => ?_)
        case hS65 => (exact K14.out _ HE_.out)
        generalize wr.drew = wd at *
        refine wpAnyM_take (i := 0) (oi := { dst := some 98, op := Go.Op.load 34 (Go.Operand.tmp 8), type := 34, pos := "walks.go:214", after := #[], guard := none }) (v := ?v66) rfl (by kernel_rfl) (fun _ _ _ h => h) (Or.inl ⟨by rfl, ?hy66⟩) (by assumption) ?rest66
        case hy66 => (intro wz hSw; (try dsimp only at hSw); go_simp; try with_reducible rfl)
        (try simp only [Act.put, List.setIfInBounds_toArray, List.set_cons_zero, List.set_cons_succ])
        refine wpAnyM_take (i := 2) (oi := { dst := some 100, op := Go.Op.load 34 (Go.Operand.tmp 9), type := 34, pos := "walks.go:214", after := #[], guard := none }) (v := ?v67) rfl (by kernel_rfl) (fun _ _ _ h => h) (Or.inl ⟨by rfl, ?hy67⟩) (by assumption) ?rest67
        case hy67 => (intro wz hSw; (try dsimp only at hSw); go_simp; try with_reducible rfl)
        (try simp only [Act.put, List.setIfInBounds_toArray, List.set_cons_zero, List.set_cons_succ])
        refine wpAnyM_ready (rs := [1, 4, 5]) (by kernel_rfl) (by simp) ?_
        refine AllReadyM.cons (o := { dst := some 99, op := Go.Op.call { callee := Go.Callee.value (Go.Operand.func 17), args := #[Go.Operand.tmp 98], argTypes := #[34] }, type := 34, pos := "walks.go:214", after := #[{ on := 0, ground := Go.Ground.data }], guard := none }) rfl (fun K hK => ?_) ?more68
        · have tkn : True := trivial
          refine step_call _ rfl 17 [.tmp 98] #[34] rfl (by kernel_rfl) [_] rfl (HCA.out _ HE_.out) ?_
          rintro en w_1 ⟨cs, rfl, hT, hE⟩
          obtain ⟨x2_1, x3_1, x4_1, x5_1, u1_1, u2_1, u3_1, u4_1, u5_1, u6_1, u7_1, u8_1, u9_1, u10_1, rfl⟩ := hT.form8
          refine ⟨_, rfl, ?_⟩
          have HX_1 := hid (hT.weak (S' := fun b => wd.heap.size ≤ b ∧ b < w_1.heap.size) (fun b h1 h2 => ⟨h1, h2⟩))
          have HS_1 := hid hE.size
          have HE_1 := hid (HE_.out.trans hE)
          clear hE hT
          refine hK.out _ _ ?hS69 (fun hHeld => ?_)
          case hS69 => (exact K14.out _ HE_1.out)
          clear hK K
          (try simp only [Act.put, List.setIfInBounds_toArray, List.set_cons_zero, List.set_cons_succ])
          refine wpAnyM_ready (rs := [3, 4, 5]) (by kernel_rfl) (by simp) ?_
          refine AllReadyM.cons (o := { dst := some 101, op := Go.Op.call { callee := Go.Callee.value (Go.Operand.func 17), args := #[Go.Operand.tmp 100], argTypes := #[34] }, type := 34, pos := "walks.go:214", after := #[{ on := 2, ground := Go.Ground.data }, { on := 1, ground := Go.Ground.chain }], guard := none }) rfl (fun K hK => ?_) ?more70
          · have tkn : True := trivial
            refine step_call _ rfl 17 [.tmp 100] #[34] rfl (by kernel_rfl) [_] rfl (HCB.out _ HE_1.out) ?_
            rintro en w_1_3 ⟨cs, rfl, hT, hE⟩
            obtain ⟨y2_1_3, y3_1_3, y4_1_3, y5_1_3, u1_1_3, u2_1_3, u3_1_3, u4_1_3, u5_1_3, u6_1_3, u7_1_3, u8_1_3, u9_1_3, u10_1_3, rfl⟩ := hT.form8
            refine ⟨_, rfl, ?_⟩
            have HY_1_3 := hid (hT.weak (S' := fun b => w_1.heap.size ≤ b ∧ b < w_1_3.heap.size) (fun b h1 h2 => ⟨h1, h2⟩))
            have HS_1_3 := hid hE.size
            have HE_1_3 := hid (HE_1.out.trans hE)
            have HX_1_3 := hid (HX_1.out.ext hE)
            clear hE hT
            refine hK.out _ _ ?hS71 (fun hHeld => ?_)
            case hS71 => (exact K14.out _ HE_1_3.out)
            clear hK K
            (try simp only [Act.put, List.setIfInBounds_toArray, List.set_cons_zero, List.set_cons_succ])
            refine wpAnyM_ready (rs := [4, 5]) (by kernel_rfl) (by simp) ?_
            refine AllReadyM.cons (o := { dst := some 12, op := Go.Op.alloc 34, type := 0, pos := "walks.go:214", after := #[], guard := none }) rfl (fun K hK => ?_) ?more72
            · have tkn : True := trivial
              go_simp
              obtain ⟨w_1_3_4, hW_1_3_4⟩ : ∃ x, x = w_1_3.alloc (.cells #[.int .i64 0, .string ⟨#[]⟩, .slice none 0 0, .slice none 0 0, .int .i64 0, .int .i64 0, .float .f64 0, .string ⟨#[]⟩, .slice none 0 0, .slice none 0 0, .int .i64 0] 34) := ⟨_, rfl⟩
              change K _ (w_1_3.alloc (.cells #[.int .i64 0, .string ⟨#[]⟩, .slice none 0 0, .slice none 0 0, .int .i64 0, .int .i64 0, .float .f64 0, .string ⟨#[]⟩, .slice none 0 0, .slice none 0 0, .int .i64 0] 34))
              rw [← hW_1_3_4]
              have hE : Ext w_1_3 w_1_3_4 := hW_1_3_4 ▸ (Ext.refl w_1_3).alloc _
              have FP_1_3_4 : Hid (w_1_3_4.heap[w_1_3.heap.size]? = some (.cells #[.int .i64 0, .string ⟨#[]⟩, .slice none 0 0, .slice none 0 0, .int .i64 0, .int .i64 0, .float .f64 0, .string ⟨#[]⟩, .slice none 0 0, .slice none 0 0, .int .i64 0] 34)) := hid (hW_1_3_4 ▸ heap_alloc_new w_1_3 _)
              have HS_1_3_4 := hid (show w_1_3_4.heap.size = w_1_3.heap.size + 1 by rw [hW_1_3_4]; simp)
              have HE_1_3_4 := hid (HE_1_3.out.trans hE)
              clear hW_1_3_4
              have HX_1_3_4 := hid (HX_1_3.out.ext hE)
              have HY_1_3_4 := hid (HY_1_3.out.ext hE)
              clear hE
              refine hK.out _ _ ?hS73 (fun hHeld => ?_)
              case hS73 => (exact K14.out _ HE_1_3_4.out)
              clear hK K
              (try simp only [Act.put, List.setIfInBounds_toArray, List.set_cons_zero, List.set_cons_succ])
              refine wpAnyM_ready (rs := [5]) (by kernel_rfl) (by simp) ?_
              refine AllReadyM.cons (o := { dst := some 13, op := Go.Op.alloc 34, type := 0, pos := "walks.go:214", after := #[], guard := none }) rfl (fun K hK => ?_) AllReadyM.nil
              go_simp
              obtain ⟨w_1_3_4_5, hW_1_3_4_5⟩ : ∃ x, x = w_1_3_4.alloc (.cells #[.int .i64 0, .string ⟨#[]⟩, .slice none 0 0, .slice none 0 0, .int .i64 0, .int .i64 0, .float .f64 0, .string ⟨#[]⟩, .slice none 0 0, .slice none 0 0, .int .i64 0] 34) := ⟨_, rfl⟩
              change K _ (w_1_3_4.alloc (.cells #[.int .i64 0, .string ⟨#[]⟩, .slice none 0 0, .slice none 0 0, .int .i64 0, .int .i64 0, .float .f64 0, .string ⟨#[]⟩, .slice none 0 0, .slice none 0 0, .int .i64 0] 34))
              rw [← hW_1_3_4_5]
              have hE : Ext w_1_3_4 w_1_3_4_5 := hW_1_3_4_5 ▸ (Ext.refl w_1_3_4).alloc _
              have FQ_1_3_4_5 : Hid (w_1_3_4_5.heap[w_1_3_4.heap.size]? = some (.cells #[.int .i64 0, .string ⟨#[]⟩, .slice none 0 0, .slice none 0 0, .int .i64 0, .int .i64 0, .float .f64 0, .string ⟨#[]⟩, .slice none 0 0, .slice none 0 0, .int .i64 0] 34)) := hid (hW_1_3_4_5 ▸ heap_alloc_new w_1_3_4 _)
              have HS_1_3_4_5 := hid (show w_1_3_4_5.heap.size = w_1_3_4.heap.size + 1 by rw [hW_1_3_4_5]; simp)
              have HE_1_3_4_5 := hid (HE_1_3_4.out.trans hE)
              clear hW_1_3_4_5
              have FP_1_3_4_5 := hid (hE.block FP_1_3_4.out)
              have HX_1_3_4_5 := hid (HX_1_3_4.out.ext hE)
              have HY_1_3_4_5 := hid (HY_1_3_4.out.ext hE)
              clear hE
              refine hK.out _ _ ?hS74 (fun hHeld => ?_)
              case hS74 => (exact K14.out _ HE_1_3_4_5.out)
              clear hK K
              (try simp only [Act.put, List.setIfInBounds_toArray, List.set_cons_zero, List.set_cons_succ])
              refine wpAnyM_ready (rs := [6]) (by kernel_rfl) (by simp) ?_
              refine AllReadyM.behind (o := { dst := none, op := Go.Op.store 34 (Go.Operand.tmp 12) (Go.Operand.tmp 99), type := 0, pos := "walks.go:214", after := #[{ on := 4, ground := Go.Ground.data }, { on := 1, ground := Go.Ground.data }, { on := 3, ground := Go.Ground.chain }, { on := 0, ground := Go.Ground.phase }, { on := 1, ground := Go.Ground.phase }, { on := 2, ground := Go.Ground.textOnly Go.Departure.lateStores }, { on := 3, ground := Go.Ground.textOnly Go.Departure.lateStoresUnsure }, { on := 4, ground := Go.Ground.phase }, { on := 5, ground := Go.Ground.phase }], guard := none }) rfl (by kernel_rfl) (fun K hK => ?_) AllReadyM.nil
              obtain ⟨⟨z0, z1, z2, z3, z4, z5, z6, z7, z8, z9, z10⟩, f0, f1, f2, f3, f4, f5, f6, f7, f8, f9, f10⟩ := slot11 FP_1_3_4_5.out
              go_simp
              clear z0 z1 z2 z3 z4 z5 z6 z7 z8 z9 z10
              obtain ⟨w_1_3_4_5_6, hW_1_3_4_5_6⟩ : ∃ x, x = setL w_1_3_4_5 (w_1_3.heap.size) 0 [.int .i64 G.kind, .string G.s, .slice x2_1 G.keys.length x3_1, .slice x4_1 G.l.length x5_1, .int .i64 u1_1, .int .i64 u2_1, .float .f64 u3_1, .string u4_1, .slice u5_1 u6_1 u7_1, .slice u8_1 u9_1 u10_1, .int .i64 G.n] := ⟨_, rfl⟩
              change K _ (setL w_1_3_4_5 (w_1_3.heap.size) 0 [.int .i64 G.kind, .string G.s, .slice x2_1 G.keys.length x3_1, .slice x4_1 G.l.length x5_1, .int .i64 u1_1, .int .i64 u2_1, .float .f64 u3_1, .string u4_1, .slice u5_1 u6_1 u7_1, .slice u8_1 u9_1 u10_1, .int .i64 G.n])
              rw [← hW_1_3_4_5_6]
              have FP_1_3_4_5_6 : Hid (w_1_3_4_5_6.heap[w_1_3.heap.size]? = some (.cells ([.int .i64 G.kind, .string G.s, .slice x2_1 G.keys.length x3_1, .slice x4_1 G.l.length x5_1, .int .i64 u1_1, .int .i64 u2_1, .float .f64 u3_1, .string u4_1, .slice u5_1 u6_1 u7_1, .slice u8_1 u9_1 u10_1, .int .i64 G.n] : List Value).toArray 34)) := hid (by rw [hW_1_3_4_5_6]; exact setL_all FP_1_3_4_5.out _ rfl)
              have hoth : ∀ b', b' ≠ w_1_3.heap.size → w_1_3_4_5_6.heap[b']? = w_1_3_4_5.heap[b']? := fun b' hb => by rw [hW_1_3_4_5_6]; exact setL_other hb _
              have FQ_1_3_4_5_6 := hid ((hoth (w_1_3_4.heap.size) (by have := HS_1.out; have := HS_1_3.out; have := HS_1_3_4.out; have := HS_1_3_4_5.out; omega)).trans FQ_1_3_4_5.out)
              have HX_1_3_4_5_6 := hid (HX_1_3_4_5.out.mono (S' := fun b => wd.heap.size ≤ b ∧ b < w_1.heap.size) (fun b' o hb hob => (hoth b' (by have h1 := hb.1; have h2 := hb.2; have := HS_1.out; have := HS_1_3.out; have := HS_1_3_4.out; have := HS_1_3_4_5.out; omega)).trans hob) (fun b h _ => h))
              have HY_1_3_4_5_6 := hid (HY_1_3_4_5.out.mono (S' := fun b => w_1.heap.size ≤ b ∧ b < w_1_3.heap.size) (fun b' o hb hob => (hoth b' (by have h1 := hb.1; have h2 := hb.2; have := HS_1.out; have := HS_1_3.out; have := HS_1_3_4.out; have := HS_1_3_4_5.out; omega)).trans hob) (fun b h _ => h))
              have HE_1_3_4_5_6 := hid (show Ext wr w_1_3_4_5_6 by rw [hW_1_3_4_5_6]; exact setL_below HE_1_3_4_5.out (by have := HS_1.out; have := HS_1_3.out; have := HS_1_3_4.out; have := HS_1_3_4_5.out; have := HWD.out; omega) 0 _)
              clear hW_1_3_4_5_6 hoth
              refine hK.out _ _ ?_
              clear hK K
              (try simp only [Act.put, List.setIfInBounds_toArray, List.set_cons_zero, List.set_cons_succ])
              refine wpAnyM_ready (rs := [7]) (by kernel_rfl) (by simp) ?_
              refine AllReadyM.behind (o := { dst := none, op := Go.Op.store 34 (Go.Operand.tmp 13) (Go.Operand.tmp 101), type := 0, pos := "walks.go:214", after := #[{ on := 5, ground := Go.Ground.data }, { on := 3, ground := Go.Ground.data }, { on := 6, ground := Go.Ground.chain }, { on := 0, ground := Go.Ground.phase }, { on := 1, ground := Go.Ground.phase }, { on := 2, ground := Go.Ground.phase }, { on := 3, ground := Go.Ground.phase }, { on := 4, ground := Go.Ground.phase }, { on := 5, ground := Go.Ground.phase }, { on := 6, ground := Go.Ground.phase }], guard := none }) rfl (by kernel_rfl) (fun K hK => ?_) AllReadyM.nil
              obtain ⟨⟨z0, z1, z2, z3, z4, z5, z6, z7, z8, z9, z10⟩, f0, f1, f2, f3, f4, f5, f6, f7, f8, f9, f10⟩ := slot11 FQ_1_3_4_5_6.out
              go_simp
              clear z0 z1 z2 z3 z4 z5 z6 z7 z8 z9 z10
              obtain ⟨w_1_3_4_5_6_7, hW_1_3_4_5_6_7⟩ : ∃ x, x = setL w_1_3_4_5_6 (w_1_3_4.heap.size) 0 [.int .i64 G.kind, .string G.s, .slice y2_1_3 G.keys.length y3_1_3, .slice y4_1_3 G.l.length y5_1_3, .int .i64 u1_1_3, .int .i64 u2_1_3, .float .f64 u3_1_3, .string u4_1_3, .slice u5_1_3 u6_1_3 u7_1_3, .slice u8_1_3 u9_1_3 u10_1_3, .int .i64 G.n] := ⟨_, rfl⟩
              change K _ (setL w_1_3_4_5_6 (w_1_3_4.heap.size) 0 [.int .i64 G.kind, .string G.s, .slice y2_1_3 G.keys.length y3_1_3, .slice y4_1_3 G.l.length y5_1_3, .int .i64 u1_1_3, .int .i64 u2_1_3, .float .f64 u3_1_3, .string u4_1_3, .slice u5_1_3 u6_1_3 u7_1_3, .slice u8_1_3 u9_1_3 u10_1_3, .int .i64 G.n])
              rw [← hW_1_3_4_5_6_7]
              have FQ_1_3_4_5_6_7 : Hid (w_1_3_4_5_6_7.heap[w_1_3_4.heap.size]? = some (.cells ([.int .i64 G.kind, .string G.s, .slice y2_1_3 G.keys.length y3_1_3, .slice y4_1_3 G.l.length y5_1_3, .int .i64 u1_1_3, .int .i64 u2_1_3, .float .f64 u3_1_3, .string u4_1_3, .slice u5_1_3 u6_1_3 u7_1_3, .slice u8_1_3 u9_1_3 u10_1_3, .int .i64 G.n] : List Value).toArray 34)) := hid (by rw [hW_1_3_4_5_6_7]; exact setL_all FQ_1_3_4_5_6.out _ rfl)
              have hoth : ∀ b', b' ≠ w_1_3_4.heap.size → w_1_3_4_5_6_7.heap[b']? = w_1_3_4_5_6.heap[b']? := fun b' hb => by rw [hW_1_3_4_5_6_7]; exact setL_other hb _
              have FP_1_3_4_5_6_7 := hid ((hoth (w_1_3.heap.size) (by have := HS_1.out; have := HS_1_3.out; have := HS_1_3_4.out; have := HS_1_3_4_5.out; omega)).trans FP_1_3_4_5_6.out)
              have HX_1_3_4_5_6_7 := hid (HX_1_3_4_5_6.out.mono (S' := fun b => wd.heap.size ≤ b ∧ b < w_1.heap.size) (fun b' o hb hob => (hoth b' (by have h1 := hb.1; have h2 := hb.2; have := HS_1.out; have := HS_1_3.out; have := HS_1_3_4.out; have := HS_1_3_4_5.out; omega)).trans hob) (fun b h _ => h))
              have HY_1_3_4_5_6_7 := hid (HY_1_3_4_5_6.out.mono (S' := fun b => w_1.heap.size ≤ b ∧ b < w_1_3.heap.size) (fun b' o hb hob => (hoth b' (by have h1 := hb.1; have h2 := hb.2; have := HS_1.out; have := HS_1_3.out; have := HS_1_3_4.out; have := HS_1_3_4_5.out; omega)).trans hob) (fun b h _ => h))
              have HE_1_3_4_5_6_7 := hid (show Ext wr w_1_3_4_5_6_7 by rw [hW_1_3_4_5_6_7]; exact setL_below HE_1_3_4_5_6.out (by have := HS_1.out; have := HS_1_3.out; have := HS_1_3_4.out; have := HS_1_3_4_5.out; have := HWD.out; omega) 0 _)
              clear hW_1_3_4_5_6_7 hoth
              refine hK.out _ _ ?_
              clear hK K
              (try simp only [Act.put, List.setIfInBounds_toArray, List.set_cons_zero, List.set_cons_succ])
              refine wpAnyM_done (by kernel_rfl) ?_ _
              go_wp2_with fail
              go_meet
              case rel => exact ⟨_, _, _, _, rfl, rfl, FP_1_3_4_5_6_7, FQ_1_3_4_5_6_7, hid (HX_1_3_4_5_6_7.out.weak (fun _ _ _ => trivial)), hid (HY_1_3_4_5_6_7.out.weak (fun _ _ _ => trivial)), hid (HE4.out.trans ((show Ext w4 wr from HQ2.out.below).trans HE_1_3_4_5_6_7.out))⟩
            refine AllReadyM.cons (o := { dst := some 13, op := Go.Op.alloc 34, type := 0, pos := "walks.go:214", after := #[], guard := none }) rfl (fun K hK => ?_) AllReadyM.nil
            go_simp
            obtain ⟨w_1_3_5, hW_1_3_5⟩ : ∃ x, x = w_1_3.alloc (.cells #[.int .i64 0, .string ⟨#[]⟩, .slice none 0 0, .slice none 0 0, .int .i64 0, .int .i64 0, .float .f64 0, .string ⟨#[]⟩, .slice none 0 0, .slice none 0 0, .int .i64 0] 34) := ⟨_, rfl⟩
            change K _ (w_1_3.alloc (.cells #[.int .i64 0, .string ⟨#[]⟩, .slice none 0 0, .slice none 0 0, .int .i64 0, .int .i64 0, .float .f64 0, .string ⟨#[]⟩, .slice none 0 0, .slice none 0 0, .int .i64 0] 34))
            rw [← hW_1_3_5]
            have hE : Ext w_1_3 w_1_3_5 := hW_1_3_5 ▸ (Ext.refl w_1_3).alloc _
            have FQ_1_3_5 : Hid (w_1_3_5.heap[w_1_3.heap.size]? = some (.cells #[.int .i64 0, .string ⟨#[]⟩, .slice none 0 0, .slice none 0 0, .int .i64 0, .int .i64 0, .float .f64 0, .string ⟨#[]⟩, .slice none 0 0, .slice none 0 0, .int .i64 0] 34)) := hid (hW_1_3_5 ▸ heap_alloc_new w_1_3 _)
            have HS_1_3_5 := hid (show w_1_3_5.heap.size = w_1_3.heap.size + 1 by rw [hW_1_3_5]; simp)
            have HE_1_3_5 := hid (HE_1_3.out.trans hE)
            clear hW_1_3_5
            have HX_1_3_5 := hid (HX_1_3.out.ext hE)
            have HY_1_3_5 := hid (HY_1_3.out.ext hE)
            clear hE
            refine hK.out _ _ ?hS75 (fun hHeld => ?_)
            case hS75 => (exact K14.out _ HE_1_3_5.out)
            clear hK K
            (try simp only [Act.put, List.setIfInBounds_toArray, List.set_cons_zero, List.set_cons_succ])
            refine wpAnyM_ready (rs := [4]) (by kernel_rfl) (by simp) ?_
            refine AllReadyM.cons (o := { dst := some 12, op := Go.Op.alloc 34, type := 0, pos := "walks.go:214", after := #[], guard := none }) rfl (fun K hK => ?_) AllReadyM.nil
            go_simp
            obtain ⟨w_1_3_5_4, hW_1_3_5_4⟩ : ∃ x, x = w_1_3_5.alloc (.cells #[.int .i64 0, .string ⟨#[]⟩, .slice none 0 0, .slice none 0 0, .int .i64 0, .int .i64 0, .float .f64 0, .string ⟨#[]⟩, .slice none 0 0, .slice none 0 0, .int .i64 0] 34) := ⟨_, rfl⟩
            change K _ (w_1_3_5.alloc (.cells #[.int .i64 0, .string ⟨#[]⟩, .slice none 0 0, .slice none 0 0, .int .i64 0, .int .i64 0, .float .f64 0, .string ⟨#[]⟩, .slice none 0 0, .slice none 0 0, .int .i64 0] 34))
            rw [← hW_1_3_5_4]
            have hE : Ext w_1_3_5 w_1_3_5_4 := hW_1_3_5_4 ▸ (Ext.refl w_1_3_5).alloc _
            have FP_1_3_5_4 : Hid (w_1_3_5_4.heap[w_1_3_5.heap.size]? = some (.cells #[.int .i64 0, .string ⟨#[]⟩, .slice none 0 0, .slice none 0 0, .int .i64 0, .int .i64 0, .float .f64 0, .string ⟨#[]⟩, .slice none 0 0, .slice none 0 0, .int .i64 0] 34)) := hid (hW_1_3_5_4 ▸ heap_alloc_new w_1_3_5 _)
            have HS_1_3_5_4 := hid (show w_1_3_5_4.heap.size = w_1_3_5.heap.size + 1 by rw [hW_1_3_5_4]; simp)
            have HE_1_3_5_4 := hid (HE_1_3_5.out.trans hE)
            clear hW_1_3_5_4
            have FQ_1_3_5_4 := hid (hE.block FQ_1_3_5.out)
            have HX_1_3_5_4 := hid (HX_1_3_5.out.ext hE)
            have HY_1_3_5_4 := hid (HY_1_3_5.out.ext hE)
            clear hE
            refine hK.out _ _ ?hS76 (fun hHeld => ?_)
            case hS76 => (exact K14.out _ HE_1_3_5_4.out)
            clear hK K
            (try simp only [Act.put, List.setIfInBounds_toArray, List.set_cons_zero, List.set_cons_succ])
            refine wpAnyM_ready (rs := [6]) (by kernel_rfl) (by simp) ?_
            refine AllReadyM.behind (o := { dst := none, op := Go.Op.store 34 (Go.Operand.tmp 12) (Go.Operand.tmp 99), type := 0, pos := "walks.go:214", after := #[{ on := 4, ground := Go.Ground.data }, { on := 1, ground := Go.Ground.data }, { on := 3, ground := Go.Ground.chain }, { on := 0, ground := Go.Ground.phase }, { on := 1, ground := Go.Ground.phase }, { on := 2, ground := Go.Ground.textOnly Go.Departure.lateStores }, { on := 3, ground := Go.Ground.textOnly Go.Departure.lateStoresUnsure }, { on := 4, ground := Go.Ground.phase }, { on := 5, ground := Go.Ground.phase }], guard := none }) rfl (by kernel_rfl) (fun K hK => ?_) AllReadyM.nil
            obtain ⟨⟨z0, z1, z2, z3, z4, z5, z6, z7, z8, z9, z10⟩, f0, f1, f2, f3, f4, f5, f6, f7, f8, f9, f10⟩ := slot11 FP_1_3_5_4.out
            go_simp
            clear z0 z1 z2 z3 z4 z5 z6 z7 z8 z9 z10
            obtain ⟨w_1_3_5_4_6, hW_1_3_5_4_6⟩ : ∃ x, x = setL w_1_3_5_4 (w_1_3_5.heap.size) 0 [.int .i64 G.kind, .string G.s, .slice x2_1 G.keys.length x3_1, .slice x4_1 G.l.length x5_1, .int .i64 u1_1, .int .i64 u2_1, .float .f64 u3_1, .string u4_1, .slice u5_1 u6_1 u7_1, .slice u8_1 u9_1 u10_1, .int .i64 G.n] := ⟨_, rfl⟩
            change K _ (setL w_1_3_5_4 (w_1_3_5.heap.size) 0 [.int .i64 G.kind, .string G.s, .slice x2_1 G.keys.length x3_1, .slice x4_1 G.l.length x5_1, .int .i64 u1_1, .int .i64 u2_1, .float .f64 u3_1, .string u4_1, .slice u5_1 u6_1 u7_1, .slice u8_1 u9_1 u10_1, .int .i64 G.n])
            rw [← hW_1_3_5_4_6]
            have FP_1_3_5_4_6 : Hid (w_1_3_5_4_6.heap[w_1_3_5.heap.size]? = some (.cells ([.int .i64 G.kind, .string G.s, .slice x2_1 G.keys.length x3_1, .slice x4_1 G.l.length x5_1, .int .i64 u1_1, .int .i64 u2_1, .float .f64 u3_1, .string u4_1, .slice u5_1 u6_1 u7_1, .slice u8_1 u9_1 u10_1, .int .i64 G.n] : List Value).toArray 34)) := hid (by rw [hW_1_3_5_4_6]; exact setL_all FP_1_3_5_4.out _ rfl)
            have hoth : ∀ b', b' ≠ w_1_3_5.heap.size → w_1_3_5_4_6.heap[b']? = w_1_3_5_4.heap[b']? := fun b' hb => by rw [hW_1_3_5_4_6]; exact setL_other hb _
            have FQ_1_3_5_4_6 := hid ((hoth (w_1_3.heap.size) (by have := HS_1.out; have := HS_1_3.out; have := HS_1_3_5.out; have := HS_1_3_5_4.out; omega)).trans FQ_1_3_5_4.out)
            have HX_1_3_5_4_6 := hid (HX_1_3_5_4.out.mono (S' := fun b => wd.heap.size ≤ b ∧ b < w_1.heap.size) (fun b' o hb hob => (hoth b' (by have h1 := hb.1; have h2 := hb.2; have := HS_1.out; have := HS_1_3.out; have := HS_1_3_5.out; have := HS_1_3_5_4.out; omega)).trans hob) (fun b h _ => h))
            have HY_1_3_5_4_6 := hid (HY_1_3_5_4.out.mono (S' := fun b => w_1.heap.size ≤ b ∧ b < w_1_3.heap.size) (fun b' o hb hob => (hoth b' (by have h1 := hb.1; have h2 := hb.2; have := HS_1.out; have := HS_1_3.out; have := HS_1_3_5.out; have := HS_1_3_5_4.out; omega)).trans hob) (fun b h _ => h))
            have HE_1_3_5_4_6 := hid (show Ext wr w_1_3_5_4_6 by rw [hW_1_3_5_4_6]; exact setL_below HE_1_3_5_4.out (by have := HS_1.out; have := HS_1_3.out; have := HS_1_3_5.out; have := HS_1_3_5_4.out; have := HWD.out; omega) 0 _)
            clear hW_1_3_5_4_6 hoth
            refine hK.out _ _ ?_
            clear hK K
            (try simp only [Act.put, List.setIfInBounds_toArray, List.set_cons_zero, List.set_cons_succ])
            refine wpAnyM_ready (rs := [7]) (by kernel_rfl) (by simp) ?_
            refine AllReadyM.behind (o := { dst := none, op := Go.Op.store 34 (Go.Operand.tmp 13) (Go.Operand.tmp 101), type := 0, pos := "walks.go:214", after := #[{ on := 5, ground := Go.Ground.data }, { on := 3, ground := Go.Ground.data }, { on := 6, ground := Go.Ground.chain }, { on := 0, ground := Go.Ground.phase }, { on := 1, ground := Go.Ground.phase }, { on := 2, ground := Go.Ground.phase }, { on := 3, ground := Go.Ground.phase }, { on := 4, ground := Go.Ground.phase }, { on := 5, ground := Go.Ground.phase }, { on := 6, ground := Go.Ground.phase }], guard := none }) rfl (by kernel_rfl) (fun K hK => ?_) AllReadyM.nil
            obtain ⟨⟨z0, z1, z2, z3, z4, z5, z6, z7, z8, z9, z10⟩, f0, f1, f2, f3, f4, f5, f6, f7, f8, f9, f10⟩ := slot11 FQ_1_3_5_4_6.out
            go_simp
            clear z0 z1 z2 z3 z4 z5 z6 z7 z8 z9 z10
            obtain ⟨w_1_3_5_4_6_7, hW_1_3_5_4_6_7⟩ : ∃ x, x = setL w_1_3_5_4_6 (w_1_3.heap.size) 0 [.int .i64 G.kind, .string G.s, .slice y2_1_3 G.keys.length y3_1_3, .slice y4_1_3 G.l.length y5_1_3, .int .i64 u1_1_3, .int .i64 u2_1_3, .float .f64 u3_1_3, .string u4_1_3, .slice u5_1_3 u6_1_3 u7_1_3, .slice u8_1_3 u9_1_3 u10_1_3, .int .i64 G.n] := ⟨_, rfl⟩
            change K _ (setL w_1_3_5_4_6 (w_1_3.heap.size) 0 [.int .i64 G.kind, .string G.s, .slice y2_1_3 G.keys.length y3_1_3, .slice y4_1_3 G.l.length y5_1_3, .int .i64 u1_1_3, .int .i64 u2_1_3, .float .f64 u3_1_3, .string u4_1_3, .slice u5_1_3 u6_1_3 u7_1_3, .slice u8_1_3 u9_1_3 u10_1_3, .int .i64 G.n])
            rw [← hW_1_3_5_4_6_7]
            have FQ_1_3_5_4_6_7 : Hid (w_1_3_5_4_6_7.heap[w_1_3.heap.size]? = some (.cells ([.int .i64 G.kind, .string G.s, .slice y2_1_3 G.keys.length y3_1_3, .slice y4_1_3 G.l.length y5_1_3, .int .i64 u1_1_3, .int .i64 u2_1_3, .float .f64 u3_1_3, .string u4_1_3, .slice u5_1_3 u6_1_3 u7_1_3, .slice u8_1_3 u9_1_3 u10_1_3, .int .i64 G.n] : List Value).toArray 34)) := hid (by rw [hW_1_3_5_4_6_7]; exact setL_all FQ_1_3_5_4_6.out _ rfl)
            have hoth : ∀ b', b' ≠ w_1_3.heap.size → w_1_3_5_4_6_7.heap[b']? = w_1_3_5_4_6.heap[b']? := fun b' hb => by rw [hW_1_3_5_4_6_7]; exact setL_other hb _
            have FP_1_3_5_4_6_7 := hid ((hoth (w_1_3_5.heap.size) (by have := HS_1.out; have := HS_1_3.out; have := HS_1_3_5.out; have := HS_1_3_5_4.out; omega)).trans FP_1_3_5_4_6.out)
            have HX_1_3_5_4_6_7 := hid (HX_1_3_5_4_6.out.mono (S' := fun b => wd.heap.size ≤ b ∧ b < w_1.heap.size) (fun b' o hb hob => (hoth b' (by have h1 := hb.1; have h2 := hb.2; have := HS_1.out; have := HS_1_3.out; have := HS_1_3_5.out; have := HS_1_3_5_4.out; omega)).trans hob) (fun b h _ => h))
            have HY_1_3_5_4_6_7 := hid (HY_1_3_5_4_6.out.mono (S' := fun b => w_1.heap.size ≤ b ∧ b < w_1_3.heap.size) (fun b' o hb hob => (hoth b' (by have h1 := hb.1; have h2 := hb.2; have := HS_1.out; have := HS_1_3.out; have := HS_1_3_5.out; have := HS_1_3_5_4.out; omega)).trans hob) (fun b h _ => h))
            have HE_1_3_5_4_6_7 := hid (show Ext wr w_1_3_5_4_6_7 by rw [hW_1_3_5_4_6_7]; exact setL_below HE_1_3_5_4_6.out (by have := HS_1.out; have := HS_1_3.out; have := HS_1_3_5.out; have := HS_1_3_5_4.out; have := HWD.out; omega) 0 _)
            clear hW_1_3_5_4_6_7 hoth
            refine hK.out _ _ ?_
            clear hK K
            (try simp only [Act.put, List.setIfInBounds_toArray, List.set_cons_zero, List.set_cons_succ])
            refine wpAnyM_done (by kernel_rfl) ?_ _
            go_wp2_with fail
            go_meet
            case rel => exact ⟨_, _, _, _, rfl, rfl, FP_1_3_5_4_6_7, FQ_1_3_5_4_6_7, hid (HX_1_3_5_4_6_7.out.weak (fun _ _ _ => trivial)), hid (HY_1_3_5_4_6_7.out.weak (fun _ _ _ => trivial)), hid (HE4.out.trans ((show Ext w4 wr from HQ2.out.below).trans HE_1_3_5_4_6_7.out))⟩
          refine AllReadyM.cons (o := { dst := some 12, op := Go.Op.alloc 34, type := 0, pos := "walks.go:214", after := #[], guard := none }) rfl (fun K hK => ?_) ?more77
          · have tkn : True := trivial
            go_simp
            obtain ⟨w_1_4, hW_1_4⟩ : ∃ x, x = w_1.alloc (.cells #[.int .i64 0, .string ⟨#[]⟩, .slice none 0 0, .slice none 0 0, .int .i64 0, .int .i64 0, .float .f64 0, .string ⟨#[]⟩, .slice none 0 0, .slice none 0 0, .int .i64 0] 34) := ⟨_, rfl⟩
            change K _ (w_1.alloc (.cells #[.int .i64 0, .string ⟨#[]⟩, .slice none 0 0, .slice none 0 0, .int .i64 0, .int .i64 0, .float .f64 0, .string ⟨#[]⟩, .slice none 0 0, .slice none 0 0, .int .i64 0] 34))
            rw [← hW_1_4]
            have hE : Ext w_1 w_1_4 := hW_1_4 ▸ (Ext.refl w_1).alloc _
            have FP_1_4 : Hid (w_1_4.heap[w_1.heap.size]? = some (.cells #[.int .i64 0, .string ⟨#[]⟩, .slice none 0 0, .slice none 0 0, .int .i64 0, .int .i64 0, .float .f64 0, .string ⟨#[]⟩, .slice none 0 0, .slice none 0 0, .int .i64 0] 34)) := hid (hW_1_4 ▸ heap_alloc_new w_1 _)
            have HS_1_4 := hid (show w_1_4.heap.size = w_1.heap.size + 1 by rw [hW_1_4]; simp)
            have HE_1_4 := hid (HE_1.out.trans hE)
            clear hW_1_4
            have HX_1_4 := hid (HX_1.out.ext hE)
            clear hE
            refine hK.out _ _ ?hS78 (fun hHeld => ?_)
            case hS78 => (exact K14.out _ HE_1_4.out)
            clear hK K
            (try simp only [Act.put, List.setIfInBounds_toArray, List.set_cons_zero, List.set_cons_succ])
            refine wpAnyM_ready (rs := [3, 5]) (by kernel_rfl) (by simp) ?_
            refine AllReadyM.cons (o := { dst := some 101, op := Go.Op.call { callee := Go.Callee.value (Go.Operand.func 17), args := #[Go.Operand.tmp 100], argTypes := #[34] }, type := 34, pos := "walks.go:214", after := #[{ on := 2, ground := Go.Ground.data }, { on := 1, ground := Go.Ground.chain }], guard := none }) rfl (fun K hK => ?_) ?more79
            · have tkn : True := trivial
              refine step_call _ rfl 17 [.tmp 100] #[34] rfl (by kernel_rfl) [_] rfl (HCB.out _ HE_1_4.out) ?_
              rintro en w_1_4_3 ⟨cs, rfl, hT, hE⟩
              obtain ⟨y2_1_4_3, y3_1_4_3, y4_1_4_3, y5_1_4_3, u1_1_4_3, u2_1_4_3, u3_1_4_3, u4_1_4_3, u5_1_4_3, u6_1_4_3, u7_1_4_3, u8_1_4_3, u9_1_4_3, u10_1_4_3, rfl⟩ := hT.form8
              refine ⟨_, rfl, ?_⟩
              have HY_1_4_3 := hid (hT.weak (S' := fun b => w_1_4.heap.size ≤ b ∧ b < w_1_4_3.heap.size) (fun b h1 h2 => ⟨h1, h2⟩))
              have HS_1_4_3 := hid hE.size
              have HE_1_4_3 := hid (HE_1_4.out.trans hE)
              have FP_1_4_3 := hid (hE.block FP_1_4.out)
              have HX_1_4_3 := hid (HX_1_4.out.ext hE)
              clear hE hT
              refine hK.out _ _ ?hS80 (fun hHeld => ?_)
              case hS80 => (exact K14.out _ HE_1_4_3.out)
              clear hK K
              (try simp only [Act.put, List.setIfInBounds_toArray, List.set_cons_zero, List.set_cons_succ])
              refine wpAnyM_ready (rs := [5]) (by kernel_rfl) (by simp) ?_
              refine AllReadyM.cons (o := { dst := some 13, op := Go.Op.alloc 34, type := 0, pos := "walks.go:214", after := #[], guard := none }) rfl (fun K hK => ?_) AllReadyM.nil
              go_simp
              obtain ⟨w_1_4_3_5, hW_1_4_3_5⟩ : ∃ x, x = w_1_4_3.alloc (.cells #[.int .i64 0, .string ⟨#[]⟩, .slice none 0 0, .slice none 0 0, .int .i64 0, .int .i64 0, .float .f64 0, .string ⟨#[]⟩, .slice none 0 0, .slice none 0 0, .int .i64 0] 34) := ⟨_, rfl⟩
              change K _ (w_1_4_3.alloc (.cells #[.int .i64 0, .string ⟨#[]⟩, .slice none 0 0, .slice none 0 0, .int .i64 0, .int .i64 0, .float .f64 0, .string ⟨#[]⟩, .slice none 0 0, .slice none 0 0, .int .i64 0] 34))
              rw [← hW_1_4_3_5]
              have hE : Ext w_1_4_3 w_1_4_3_5 := hW_1_4_3_5 ▸ (Ext.refl w_1_4_3).alloc _
              have FQ_1_4_3_5 : Hid (w_1_4_3_5.heap[w_1_4_3.heap.size]? = some (.cells #[.int .i64 0, .string ⟨#[]⟩, .slice none 0 0, .slice none 0 0, .int .i64 0, .int .i64 0, .float .f64 0, .string ⟨#[]⟩, .slice none 0 0, .slice none 0 0, .int .i64 0] 34)) := hid (hW_1_4_3_5 ▸ heap_alloc_new w_1_4_3 _)
              have HS_1_4_3_5 := hid (show w_1_4_3_5.heap.size = w_1_4_3.heap.size + 1 by rw [hW_1_4_3_5]; simp)
              have HE_1_4_3_5 := hid (HE_1_4_3.out.trans hE)
              clear hW_1_4_3_5
              have FP_1_4_3_5 := hid (hE.block FP_1_4_3.out)
              have HX_1_4_3_5 := hid (HX_1_4_3.out.ext hE)
              have HY_1_4_3_5 := hid (HY_1_4_3.out.ext hE)
              clear hE
              refine hK.out _ _ ?hS81 (fun hHeld => ?_)
              case hS81 => (exact K14.out _ HE_1_4_3_5.out)
              clear hK K
              (try simp only [Act.put, List.setIfInBounds_toArray, List.set_cons_zero, List.set_cons_succ])
              refine wpAnyM_ready (rs := [6]) (by kernel_rfl) (by simp) ?_
              refine AllReadyM.behind (o := { dst := none, op := Go.Op.store 34 (Go.Operand.tmp 12) (Go.Operand.tmp 99), type := 0, pos := "walks.go:214", after := #[{ on := 4, ground := Go.Ground.data }, { on := 1, ground := Go.Ground.data }, { on := 3, ground := Go.Ground.chain }, { on := 0, ground := Go.Ground.phase }, { on := 1, ground := Go.Ground.phase }, { on := 2, ground := Go.Ground.textOnly Go.Departure.lateStores }, { on := 3, ground := Go.Ground.textOnly Go.Departure.lateStoresUnsure }, { on := 4, ground := Go.Ground.phase }, { on := 5, ground := Go.Ground.phase }], guard := none }) rfl (by kernel_rfl) (fun K hK => ?_) AllReadyM.nil
              obtain ⟨⟨z0, z1, z2, z3, z4, z5, z6, z7, z8, z9, z10⟩, f0, f1, f2, f3, f4, f5, f6, f7, f8, f9, f10⟩ := slot11 FP_1_4_3_5.out
              go_simp
              clear z0 z1 z2 z3 z4 z5 z6 z7 z8 z9 z10
              obtain ⟨w_1_4_3_5_6, hW_1_4_3_5_6⟩ : ∃ x, x = setL w_1_4_3_5 (w_1.heap.size) 0 [.int .i64 G.kind, .string G.s, .slice x2_1 G.keys.length x3_1, .slice x4_1 G.l.length x5_1, .int .i64 u1_1, .int .i64 u2_1, .float .f64 u3_1, .string u4_1, .slice u5_1 u6_1 u7_1, .slice u8_1 u9_1 u10_1, .int .i64 G.n] := ⟨_, rfl⟩
              change K _ (setL w_1_4_3_5 (w_1.heap.size) 0 [.int .i64 G.kind, .string G.s, .slice x2_1 G.keys.length x3_1, .slice x4_1 G.l.length x5_1, .int .i64 u1_1, .int .i64 u2_1, .float .f64 u3_1, .string u4_1, .slice u5_1 u6_1 u7_1, .slice u8_1 u9_1 u10_1, .int .i64 G.n])
              rw [← hW_1_4_3_5_6]
              have FP_1_4_3_5_6 : Hid (w_1_4_3_5_6.heap[w_1.heap.size]? = some (.cells ([.int .i64 G.kind, .string G.s, .slice x2_1 G.keys.length x3_1, .slice x4_1 G.l.length x5_1, .int .i64 u1_1, .int .i64 u2_1, .float .f64 u3_1, .string u4_1, .slice u5_1 u6_1 u7_1, .slice u8_1 u9_1 u10_1, .int .i64 G.n] : List Value).toArray 34)) := hid (by rw [hW_1_4_3_5_6]; exact setL_all FP_1_4_3_5.out _ rfl)
              have hoth : ∀ b', b' ≠ w_1.heap.size → w_1_4_3_5_6.heap[b']? = w_1_4_3_5.heap[b']? := fun b' hb => by rw [hW_1_4_3_5_6]; exact setL_other hb _
              have FQ_1_4_3_5_6 := hid ((hoth (w_1_4_3.heap.size) (by have := HS_1.out; have := HS_1_4.out; have := HS_1_4_3.out; have := HS_1_4_3_5.out; omega)).trans FQ_1_4_3_5.out)
              have HX_1_4_3_5_6 := hid (HX_1_4_3_5.out.mono (S' := fun b => wd.heap.size ≤ b ∧ b < w_1.heap.size) (fun b' o hb hob => (hoth b' (by have h1 := hb.1; have h2 := hb.2; have := HS_1.out; have := HS_1_4.out; have := HS_1_4_3.out; have := HS_1_4_3_5.out; omega)).trans hob) (fun b h _ => h))
              have HY_1_4_3_5_6 := hid (HY_1_4_3_5.out.mono (S' := fun b => w_1_4.heap.size ≤ b ∧ b < w_1_4_3.heap.size) (fun b' o hb hob => (hoth b' (by have h1 := hb.1; have h2 := hb.2; have := HS_1.out; have := HS_1_4.out; have := HS_1_4_3.out; have := HS_1_4_3_5.out; omega)).trans hob) (fun b h _ => h))
              have HE_1_4_3_5_6 := hid (show Ext wr w_1_4_3_5_6 by rw [hW_1_4_3_5_6]; exact setL_below HE_1_4_3_5.out (by have := HS_1.out; have := HS_1_4.out; have := HS_1_4_3.out; have := HS_1_4_3_5.out; have := HWD.out; omega) 0 _)
              clear hW_1_4_3_5_6 hoth
              refine hK.out _ _ ?_
              clear hK K
              (try simp only [Act.put, List.setIfInBounds_toArray, List.set_cons_zero, List.set_cons_succ])
              refine wpAnyM_ready (rs := [7]) (by kernel_rfl) (by simp) ?_
              refine AllReadyM.behind (o := { dst := none, op := Go.Op.store 34 (Go.Operand.tmp 13) (Go.Operand.tmp 101), type := 0, pos := "walks.go:214", after := #[{ on := 5, ground := Go.Ground.data }, { on := 3, ground := Go.Ground.data }, { on := 6, ground := Go.Ground.chain }, { on := 0, ground := Go.Ground.phase }, { on := 1, ground := Go.Ground.phase }, { on := 2, ground := Go.Ground.phase }, { on := 3, ground := Go.Ground.phase }, { on := 4, ground := Go.Ground.phase }, { on := 5, ground := Go.Ground.phase }, { on := 6, ground := Go.Ground.phase }], guard := none }) rfl (by kernel_rfl) (fun K hK => ?_) AllReadyM.nil
              obtain ⟨⟨z0, z1, z2, z3, z4, z5, z6, z7, z8, z9, z10⟩, f0, f1, f2, f3, f4, f5, f6, f7, f8, f9, f10⟩ := slot11 FQ_1_4_3_5_6.out
              go_simp
              clear z0 z1 z2 z3 z4 z5 z6 z7 z8 z9 z10
              obtain ⟨w_1_4_3_5_6_7, hW_1_4_3_5_6_7⟩ : ∃ x, x = setL w_1_4_3_5_6 (w_1_4_3.heap.size) 0 [.int .i64 G.kind, .string G.s, .slice y2_1_4_3 G.keys.length y3_1_4_3, .slice y4_1_4_3 G.l.length y5_1_4_3, .int .i64 u1_1_4_3, .int .i64 u2_1_4_3, .float .f64 u3_1_4_3, .string u4_1_4_3, .slice u5_1_4_3 u6_1_4_3 u7_1_4_3, .slice u8_1_4_3 u9_1_4_3 u10_1_4_3, .int .i64 G.n] := ⟨_, rfl⟩
              change K _ (setL w_1_4_3_5_6 (w_1_4_3.heap.size) 0 [.int .i64 G.kind, .string G.s, .slice y2_1_4_3 G.keys.length y3_1_4_3, .slice y4_1_4_3 G.l.length y5_1_4_3, .int .i64 u1_1_4_3, .int .i64 u2_1_4_3, .float .f64 u3_1_4_3, .string u4_1_4_3, .slice u5_1_4_3 u6_1_4_3 u7_1_4_3, .slice u8_1_4_3 u9_1_4_3 u10_1_4_3, .int .i64 G.n])
              rw [← hW_1_4_3_5_6_7]
              have FQ_1_4_3_5_6_7 : Hid (w_1_4_3_5_6_7.heap[w_1_4_3.heap.size]? = some (.cells ([.int .i64 G.kind, .string G.s, .slice y2_1_4_3 G.keys.length y3_1_4_3, .slice y4_1_4_3 G.l.length y5_1_4_3, .int .i64 u1_1_4_3, .int .i64 u2_1_4_3, .float .f64 u3_1_4_3, .string u4_1_4_3, .slice u5_1_4_3 u6_1_4_3 u7_1_4_3, .slice u8_1_4_3 u9_1_4_3 u10_1_4_3, .int .i64 G.n] : List Value).toArray 34)) := hid (by rw [hW_1_4_3_5_6_7]; exact setL_all FQ_1_4_3_5_6.out _ rfl)
              have hoth : ∀ b', b' ≠ w_1_4_3.heap.size → w_1_4_3_5_6_7.heap[b']? = w_1_4_3_5_6.heap[b']? := fun b' hb => by rw [hW_1_4_3_5_6_7]; exact setL_other hb _
              have FP_1_4_3_5_6_7 := hid ((hoth (w_1.heap.size) (by have := HS_1.out; have := HS_1_4.out; have := HS_1_4_3.out; have := HS_1_4_3_5.out; omega)).trans FP_1_4_3_5_6.out)
              have HX_1_4_3_5_6_7 := hid (HX_1_4_3_5_6.out.mono (S' := fun b => wd.heap.size ≤ b ∧ b < w_1.heap.size) (fun b' o hb hob => (hoth b' (by have h1 := hb.1; have h2 := hb.2; have := HS_1.out; have := HS_1_4.out; have := HS_1_4_3.out; have := HS_1_4_3_5.out; omega)).trans hob) (fun b h _ => h))
              have HY_1_4_3_5_6_7 := hid (HY_1_4_3_5_6.out.mono (S' := fun b => w_1_4.heap.size ≤ b ∧ b < w_1_4_3.heap.size) (fun b' o hb hob => (hoth b' (by have h1 := hb.1; have h2 := hb.2; have := HS_1.out; have := HS_1_4.out; have := HS_1_4_3.out; have := HS_1_4_3_5.out; omega)).trans hob) (fun b h _ => h))
              have HE_1_4_3_5_6_7 := hid (show Ext wr w_1_4_3_5_6_7 by rw [hW_1_4_3_5_6_7]; exact setL_below HE_1_4_3_5_6.out (by have := HS_1.out; have := HS_1_4.out; have := HS_1_4_3.out; have := HS_1_4_3_5.out; have := HWD.out; omega) 0 _)
              clear hW_1_4_3_5_6_7 hoth
              refine hK.out _ _ ?_
              clear hK K
              (try simp only [Act.put, List.setIfInBounds_toArray, List.set_cons_zero, List.set_cons_succ])
              refine wpAnyM_done (by kernel_rfl) ?_ _
              go_wp2_with fail
              go_meet
              case rel => exact ⟨_, _, _, _, rfl, rfl, FP_1_4_3_5_6_7, FQ_1_4_3_5_6_7, hid (HX_1_4_3_5_6_7.out.weak (fun _ _ _ => trivial)), hid (HY_1_4_3_5_6_7.out.weak (fun _ _ _ => trivial)), hid (HE4.out.trans ((show Ext w4 wr from HQ2.out.below).trans HE_1_4_3_5_6_7.out))⟩
            refine AllReadyM.cons (o := { dst := some 13, op := Go.Op.alloc 34, type := 0, pos := "walks.go:214", after := #[], guard := none }) rfl (fun K hK => ?_) AllReadyM.nil
            go_simp
            obtain ⟨w_1_4_5, hW_1_4_5⟩ : ∃ x, x = w_1_4.alloc (.cells #[.int .i64 0, .string ⟨#[]⟩, .slice none 0 0, .slice none 0 0, .int .i64 0, .int .i64 0, .float .f64 0, .string ⟨#[]⟩, .slice none 0 0, .slice none 0 0, .int .i64 0] 34) := ⟨_, rfl⟩
            change K _ (w_1_4.alloc (.cells #[.int .i64 0, .string ⟨#[]⟩, .slice none 0 0, .slice none 0 0, .int .i64 0, .int .i64 0, .float .f64 0, .string ⟨#[]⟩, .slice none 0 0, .slice none 0 0, .int .i64 0] 34))
            rw [← hW_1_4_5]
            have hE : Ext w_1_4 w_1_4_5 := hW_1_4_5 ▸ (Ext.refl w_1_4).alloc _
            have FQ_1_4_5 : Hid (w_1_4_5.heap[w_1_4.heap.size]? = some (.cells #[.int .i64 0, .string ⟨#[]⟩, .slice none 0 0, .slice none 0 0, .int .i64 0, .int .i64 0, .float .f64 0, .string ⟨#[]⟩, .slice none 0 0, .slice none 0 0, .int .i64 0] 34)) := hid (hW_1_4_5 ▸ heap_alloc_new w_1_4 _)
            have HS_1_4_5 := hid (show w_1_4_5.heap.size = w_1_4.heap.size + 1 by rw [hW_1_4_5]; simp)
            have HE_1_4_5 := hid (HE_1_4.out.trans hE)
            clear hW_1_4_5
            have FP_1_4_5 := hid (hE.block FP_1_4.out)
            have HX_1_4_5 := hid (HX_1_4.out.ext hE)
            clear hE
            refine hK.out _ _ ?hS82 (fun hHeld => ?_)
            case hS82 => (exact K14.out _ HE_1_4_5.out)
            clear hK K
            (try simp only [Act.put, List.setIfInBounds_toArray, List.set_cons_zero, List.set_cons_succ])
            refine wpAnyM_ready (rs := [3]) (by kernel_rfl) (by simp) ?_
            refine AllReadyM.cons (o := { dst := some 101, op := Go.Op.call { callee := Go.Callee.value (Go.Operand.func 17), args := #[Go.Operand.tmp 100], argTypes := #[34] }, type := 34, pos := "walks.go:214", after := #[{ on := 2, ground := Go.Ground.data }, { on := 1, ground := Go.Ground.chain }], guard := none }) rfl (fun K hK => ?_) AllReadyM.nil
            refine step_call _ rfl 17 [.tmp 100] #[34] rfl (by kernel_rfl) [_] rfl (HCB.out _ HE_1_4_5.out) ?_
            rintro en w_1_4_5_3 ⟨cs, rfl, hT, hE⟩
            obtain ⟨y2_1_4_5_3, y3_1_4_5_3, y4_1_4_5_3, y5_1_4_5_3, u1_1_4_5_3, u2_1_4_5_3, u3_1_4_5_3, u4_1_4_5_3, u5_1_4_5_3, u6_1_4_5_3, u7_1_4_5_3, u8_1_4_5_3, u9_1_4_5_3, u10_1_4_5_3, rfl⟩ := hT.form8
            refine ⟨_, rfl, ?_⟩
            have HY_1_4_5_3 := hid (hT.weak (S' := fun b => w_1_4_5.heap.size ≤ b ∧ b < w_1_4_5_3.heap.size) (fun b h1 h2 => ⟨h1, h2⟩))
            have HS_1_4_5_3 := hid hE.size
            have HE_1_4_5_3 := hid (HE_1_4_5.out.trans hE)
            have FP_1_4_5_3 := hid (hE.block FP_1_4_5.out)
            have FQ_1_4_5_3 := hid (hE.block FQ_1_4_5.out)
            have HX_1_4_5_3 := hid (HX_1_4_5.out.ext hE)
            clear hE hT
            refine hK.out _ _ ?hS83 (fun hHeld => ?_)
            case hS83 => (exact K14.out _ HE_1_4_5_3.out)
            clear hK K
            (try simp only [Act.put, List.setIfInBounds_toArray, List.set_cons_zero, List.set_cons_succ])
            refine wpAnyM_ready (rs := [6]) (by kernel_rfl) (by simp) ?_
            refine AllReadyM.behind (o := { dst := none, op := Go.Op.store 34 (Go.Operand.tmp 12) (Go.Operand.tmp 99), type := 0, pos := "walks.go:214", after := #[{ on := 4, ground := Go.Ground.data }, { on := 1, ground := Go.Ground.data }, { on := 3, ground := Go.Ground.chain }, { on := 0, ground := Go.Ground.phase }, { on := 1, ground := Go.Ground.phase }, { on := 2, ground := Go.Ground.textOnly Go.Departure.lateStores }, { on := 3, ground := Go.Ground.textOnly Go.Departure.lateStoresUnsure }, { on := 4, ground := Go.Ground.phase }, { on := 5, ground := Go.Ground.phase }], guard := none }) rfl (by kernel_rfl) (fun K hK => ?_) AllReadyM.nil
            obtain ⟨⟨z0, z1, z2, z3, z4, z5, z6, z7, z8, z9, z10⟩, f0, f1, f2, f3, f4, f5, f6, f7, f8, f9, f10⟩ := slot11 FP_1_4_5_3.out
            go_simp
            clear z0 z1 z2 z3 z4 z5 z6 z7 z8 z9 z10
            obtain ⟨w_1_4_5_3_6, hW_1_4_5_3_6⟩ : ∃ x, x = setL w_1_4_5_3 (w_1.heap.size) 0 [.int .i64 G.kind, .string G.s, .slice x2_1 G.keys.length x3_1, .slice x4_1 G.l.length x5_1, .int .i64 u1_1, .int .i64 u2_1, .float .f64 u3_1, .string u4_1, .slice u5_1 u6_1 u7_1, .slice u8_1 u9_1 u10_1, .int .i64 G.n] := ⟨_, rfl⟩
            change K _ (setL w_1_4_5_3 (w_1.heap.size) 0 [.int .i64 G.kind, .string G.s, .slice x2_1 G.keys.length x3_1, .slice x4_1 G.l.length x5_1, .int .i64 u1_1, .int .i64 u2_1, .float .f64 u3_1, .string u4_1, .slice u5_1 u6_1 u7_1, .slice u8_1 u9_1 u10_1, .int .i64 G.n])
            rw [← hW_1_4_5_3_6]
            have FP_1_4_5_3_6 : Hid (w_1_4_5_3_6.heap[w_1.heap.size]? = some (.cells ([.int .i64 G.kind, .string G.s, .slice x2_1 G.keys.length x3_1, .slice x4_1 G.l.length x5_1, .int .i64 u1_1, .int .i64 u2_1, .float .f64 u3_1, .string u4_1, .slice u5_1 u6_1 u7_1, .slice u8_1 u9_1 u10_1, .int .i64 G.n] : List Value).toArray 34)) := hid (by rw [hW_1_4_5_3_6]; exact setL_all FP_1_4_5_3.out _ rfl)
            have hoth : ∀ b', b' ≠ w_1.heap.size → w_1_4_5_3_6.heap[b']? = w_1_4_5_3.heap[b']? := fun b' hb => by rw [hW_1_4_5_3_6]; exact setL_other hb _
            have FQ_1_4_5_3_6 := hid ((hoth (w_1_4.heap.size) (by have := HS_1.out; have := HS_1_4.out; have := HS_1_4_5.out; have := HS_1_4_5_3.out; omega)).trans FQ_1_4_5_3.out)
            have HX_1_4_5_3_6 := hid (HX_1_4_5_3.out.mono (S' := fun b => wd.heap.size ≤ b ∧ b < w_1.heap.size) (fun b' o hb hob => (hoth b' (by have h1 := hb.1; have h2 := hb.2; have := HS_1.out; have := HS_1_4.out; have := HS_1_4_5.out; have := HS_1_4_5_3.out; omega)).trans hob) (fun b h _ => h))
            have HY_1_4_5_3_6 := hid (HY_1_4_5_3.out.mono (S' := fun b => w_1_4_5.heap.size ≤ b ∧ b < w_1_4_5_3.heap.size) (fun b' o hb hob => (hoth b' (by have h1 := hb.1; have h2 := hb.2; have := HS_1.out; have := HS_1_4.out; have := HS_1_4_5.out; have := HS_1_4_5_3.out; omega)).trans hob) (fun b h _ => h))
            have HE_1_4_5_3_6 := hid (show Ext wr w_1_4_5_3_6 by rw [hW_1_4_5_3_6]; exact setL_below HE_1_4_5_3.out (by have := HS_1.out; have := HS_1_4.out; have := HS_1_4_5.out; have := HS_1_4_5_3.out; have := HWD.out; omega) 0 _)
            clear hW_1_4_5_3_6 hoth
            refine hK.out _ _ ?_
            clear hK K
            (try simp only [Act.put, List.setIfInBounds_toArray, List.set_cons_zero, List.set_cons_succ])
            refine wpAnyM_ready (rs := [7]) (by kernel_rfl) (by simp) ?_
            refine AllReadyM.behind (o := { dst := none, op := Go.Op.store 34 (Go.Operand.tmp 13) (Go.Operand.tmp 101), type := 0, pos := "walks.go:214", after := #[{ on := 5, ground := Go.Ground.data }, { on := 3, ground := Go.Ground.data }, { on := 6, ground := Go.Ground.chain }, { on := 0, ground := Go.Ground.phase }, { on := 1, ground := Go.Ground.phase }, { on := 2, ground := Go.Ground.phase }, { on := 3, ground := Go.Ground.phase }, { on := 4, ground := Go.Ground.phase }, { on := 5, ground := Go.Ground.phase }, { on := 6, ground := Go.Ground.phase }], guard := none }) rfl (by kernel_rfl) (fun K hK => ?_) AllReadyM.nil
            obtain ⟨⟨z0, z1, z2, z3, z4, z5, z6, z7, z8, z9, z10⟩, f0, f1, f2, f3, f4, f5, f6, f7, f8, f9, f10⟩ := slot11 FQ_1_4_5_3_6.out
            go_simp
            clear z0 z1 z2 z3 z4 z5 z6 z7 z8 z9 z10
            obtain ⟨w_1_4_5_3_6_7, hW_1_4_5_3_6_7⟩ : ∃ x, x = setL w_1_4_5_3_6 (w_1_4.heap.size) 0 [.int .i64 G.kind, .string G.s, .slice y2_1_4_5_3 G.keys.length y3_1_4_5_3, .slice y4_1_4_5_3 G.l.length y5_1_4_5_3, .int .i64 u1_1_4_5_3, .int .i64 u2_1_4_5_3, .float .f64 u3_1_4_5_3, .string u4_1_4_5_3, .slice u5_1_4_5_3 u6_1_4_5_3 u7_1_4_5_3, .slice u8_1_4_5_3 u9_1_4_5_3 u10_1_4_5_3, .int .i64 G.n] := ⟨_, rfl⟩
            change K _ (setL w_1_4_5_3_6 (w_1_4.heap.size) 0 [.int .i64 G.kind, .string G.s, .slice y2_1_4_5_3 G.keys.length y3_1_4_5_3, .slice y4_1_4_5_3 G.l.length y5_1_4_5_3, .int .i64 u1_1_4_5_3, .int .i64 u2_1_4_5_3, .float .f64 u3_1_4_5_3, .string u4_1_4_5_3, .slice u5_1_4_5_3 u6_1_4_5_3 u7_1_4_5_3, .slice u8_1_4_5_3 u9_1_4_5_3 u10_1_4_5_3, .int .i64 G.n])
            rw [← hW_1_4_5_3_6_7]
            have FQ_1_4_5_3_6_7 : Hid (w_1_4_5_3_6_7.heap[w_1_4.heap.size]? = some (.cells ([.int .i64 G.kind, .string G.s, .slice y2_1_4_5_3 G.keys.length y3_1_4_5_3, .slice y4_1_4_5_3 G.l.length y5_1_4_5_3, .int .i64 u1_1_4_5_3, .int .i64 u2_1_4_5_3, .float .f64 u3_1_4_5_3, .string u4_1_4_5_3, .slice u5_1_4_5_3 u6_1_4_5_3 u7_1_4_5_3, .slice u8_1_4_5_3 u9_1_4_5_3 u10_1_4_5_3, .int .i64 G.n] : List Value).toArray 34)) := hid (by rw [hW_1_4_5_3_6_7]; exact setL_all FQ_1_4_5_3_6.out _ rfl)
            have hoth : ∀ b', b' ≠ w_1_4.heap.size → w_1_4_5_3_6_7.heap[b']? = w_1_4_5_3_6.heap[b']? := fun b' hb => by rw [hW_1_4_5_3_6_7]; exact setL_other hb _
            have FP_1_4_5_3_6_7 := hid ((hoth (w_1.heap.size) (by have := HS_1.out; have := HS_1_4.out; have := HS_1_4_5.out; have := HS_1_4_5_3.out; omega)).trans FP_1_4_5_3_6.out)
            have HX_1_4_5_3_6_7 := hid (HX_1_4_5_3_6.out.mono (S' := fun b => wd.heap.size ≤ b ∧ b < w_1.heap.size) (fun b' o hb hob => (hoth b' (by have h1 := hb.1; have h2 := hb.2; have := HS_1.out; have := HS_1_4.out; have := HS_1_4_5.out; have := HS_1_4_5_3.out; omega)).trans hob) (fun b h _ => h))
            have HY_1_4_5_3_6_7 := hid (HY_1_4_5_3_6.out.mono (S' := fun b => w_1_4_5.heap.size ≤ b ∧ b < w_1_4_5_3.heap.size) (fun b' o hb hob => (hoth b' (by have h1 := hb.1; have h2 := hb.2; have := HS_1.out; have := HS_1_4.out; have := HS_1_4_5.out; have := HS_1_4_5_3.out; omega)).trans hob) (fun b h _ => h))
            have HE_1_4_5_3_6_7 := hid (show Ext wr w_1_4_5_3_6_7 by rw [hW_1_4_5_3_6_7]; exact setL_below HE_1_4_5_3_6.out (by have := HS_1.out; have := HS_1_4.out; have := HS_1_4_5.out; have := HS_1_4_5_3.out; have := HWD.out; omega) 0 _)
            clear hW_1_4_5_3_6_7 hoth
            refine hK.out _ _ ?_
            clear hK K
            (try simp only [Act.put, List.setIfInBounds_toArray, List.set_cons_zero, List.set_cons_succ])
            refine wpAnyM_done (by kernel_rfl) ?_ _
            go_wp2_with fail
            go_meet
            case rel => exact ⟨_, _, _, _, rfl, rfl, FP_1_4_5_3_6_7, FQ_1_4_5_3_6_7, hid (HX_1_4_5_3_6_7.out.weak (fun _ _ _ => trivial)), hid (HY_1_4_5_3_6_7.out.weak (fun _ _ _ => trivial)), hid (HE4.out.trans ((show Ext w4 wr from HQ2.out.below).trans HE_1_4_5_3_6_7.out))⟩
          refine AllReadyM.cons (o := { dst := some 13, op := Go.Op.alloc 34, type := 0, pos := "walks.go:214", after := #[], guard := none }) rfl (fun K hK => ?_) AllReadyM.nil
          go_simp
          obtain ⟨w_1_5, hW_1_5⟩ : ∃ x, x = w_1.alloc (.cells #[.int .i64 0, .string ⟨#[]⟩, .slice none 0 0, .slice none 0 0, .int .i64 0, .int .i64 0, .float .f64 0, .string ⟨#[]⟩, .slice none 0 0, .slice none 0 0, .int .i64 0] 34) := ⟨_, rfl⟩
          change K _ (w_1.alloc (.cells #[.int .i64 0, .string ⟨#[]⟩, .slice none 0 0, .slice none 0 0, .int .i64 0, .int .i64 0, .float .f64 0, .string ⟨#[]⟩, .slice none 0 0, .slice none 0 0, .int .i64 0] 34))
          rw [← hW_1_5]
          have hE : Ext w_1 w_1_5 := hW_1_5 ▸ (Ext.refl w_1).alloc _
          have FQ_1_5 : Hid (w_1_5.heap[w_1.heap.size]? = some (.cells #[.int .i64 0, .string ⟨#[]⟩, .slice none 0 0, .slice none 0 0, .int .i64 0, .int .i64 0, .float .f64 0, .string ⟨#[]⟩, .slice none 0 0, .slice none 0 0, .int .i64 0] 34)) := hid (hW_1_5 ▸ heap_alloc_new w_1 _)
          have HS_1_5 := hid (show w_1_5.heap.size = w_1.heap.size + 1 by rw [hW_1_5]; simp)
          have HE_1_5 := hid (HE_1.out.trans hE)
          clear hW_1_5
          have HX_1_5 := hid (HX_1.out.ext hE)
          clear hE
          refine hK.out _ _ ?hS84 (fun hHeld => ?_)
          case hS84 => (exact K14.out _ HE_1_5.out)
          clear hK K
          (try simp only [Act.put, List.setIfInBounds_toArray, List.set_cons_zero, List.set_cons_succ])
          refine wpAnyM_ready (rs := [3, 4]) (by kernel_rfl) (by simp) ?_
          refine AllReadyM.cons (o := { dst := some 101, op := Go.Op.call { callee := Go.Callee.value (Go.Operand.func 17), args := #[Go.Operand.tmp 100], argTypes := #[34] }, type := 34, pos := "walks.go:214", after := #[{ on := 2, ground := Go.Ground.data }, { on := 1, ground := Go.Ground.chain }], guard := none }) rfl (fun K hK => ?_) ?more85
          · have tkn : True := trivial
            refine step_call _ rfl 17 [.tmp 100] #[34] rfl (by kernel_rfl) [_] rfl (HCB.out _ HE_1_5.out) ?_
            rintro en w_1_5_3 ⟨cs, rfl, hT, hE⟩
            obtain ⟨y2_1_5_3, y3_1_5_3, y4_1_5_3, y5_1_5_3, u1_1_5_3, u2_1_5_3, u3_1_5_3, u4_1_5_3, u5_1_5_3, u6_1_5_3, u7_1_5_3, u8_1_5_3, u9_1_5_3, u10_1_5_3, rfl⟩ := hT.form8
            refine ⟨_, rfl, ?_⟩
            have HY_1_5_3 := hid (hT.weak (S' := fun b => w_1_5.heap.size ≤ b ∧ b < w_1_5_3.heap.size) (fun b h1 h2 => ⟨h1, h2⟩))
            have HS_1_5_3 := hid hE.size
            have HE_1_5_3 := hid (HE_1_5.out.trans hE)
            have FQ_1_5_3 := hid (hE.block FQ_1_5.out)
            have HX_1_5_3 := hid (HX_1_5.out.ext hE)
            clear hE hT
            refine hK.out _ _ ?hS86 (fun hHeld => ?_)
            case hS86 => (exact K14.out _ HE_1_5_3.out)
            clear hK K
            (try simp only [Act.put, List.setIfInBounds_toArray, List.set_cons_zero, List.set_cons_succ])
            refine wpAnyM_ready (rs := [4]) (by kernel_rfl) (by simp) ?_
            refine AllReadyM.cons (o := { dst := some 12, op := Go.Op.alloc 34, type := 0, pos := "walks.go:214", after := #[], guard := none }) rfl (fun K hK => ?_) AllReadyM.nil
            go_simp
            obtain ⟨w_1_5_3_4, hW_1_5_3_4⟩ : ∃ x, x = w_1_5_3.alloc (.cells #[.int .i64 0, .string ⟨#[]⟩, .slice none 0 0, .slice none 0 0, .int .i64 0, .int .i64 0, .float .f64 0, .string ⟨#[]⟩, .slice none 0 0, .slice none 0 0, .int .i64 0] 34) := ⟨_, rfl⟩
            change K _ (w_1_5_3.alloc (.cells #[.int .i64 0, .string ⟨#[]⟩, .slice none 0 0, .slice none 0 0, .int .i64 0, .int .i64 0, .float .f64 0, .string ⟨#[]⟩, .slice none 0 0, .slice none 0 0, .int .i64 0] 34))
            rw [← hW_1_5_3_4]
            have hE : Ext w_1_5_3 w_1_5_3_4 := hW_1_5_3_4 ▸ (Ext.refl w_1_5_3).alloc _
            have FP_1_5_3_4 : Hid (w_1_5_3_4.heap[w_1_5_3.heap.size]? = some (.cells #[.int .i64 0, .string ⟨#[]⟩, .slice none 0 0, .slice none 0 0, .int .i64 0, .int .i64 0, .float .f64 0, .string ⟨#[]⟩, .slice none 0 0, .slice none 0 0, .int .i64 0] 34)) := hid (hW_1_5_3_4 ▸ heap_alloc_new w_1_5_3 _)
            have HS_1_5_3_4 := hid (show w_1_5_3_4.heap.size = w_1_5_3.heap.size + 1 by rw [hW_1_5_3_4]; simp)
            have HE_1_5_3_4 := hid (HE_1_5_3.out.trans hE)
            clear hW_1_5_3_4
            have FQ_1_5_3_4 := hid (hE.block FQ_1_5_3.out)
            have HX_1_5_3_4 := hid (HX_1_5_3.out.ext hE)
            have HY_1_5_3_4 := hid (HY_1_5_3.out.ext hE)
            clear hE
            refine hK.out _ _ ?hS87 (fun hHeld => ?_)
            case hS87 => (exact K14.out _ HE_1_5_3_4.out)
            clear hK K
            (try simp only [Act.put, List.setIfInBounds_toArray, List.set_cons_zero, List.set_cons_succ])
            refine wpAnyM_ready (rs := [6]) (by kernel_rfl) (by simp) ?_
            refine AllReadyM.behind (o := { dst := none, op := Go.Op.store 34 (Go.Operand.tmp 12) (Go.Operand.tmp 99), type := 0, pos := "walks.go:214", after := #[{ on := 4, ground := Go.Ground.data }, { on := 1, ground := Go.Ground.data }, { on := 3, ground := Go.Ground.chain }, { on := 0, ground := Go.Ground.phase }, { on := 1, ground := Go.Ground.phase }, { on := 2, ground := Go.Ground.textOnly Go.Departure.lateStores }, { on := 3, ground := Go.Ground.textOnly Go.Departure.lateStoresUnsure }, { on := 4, ground := Go.Ground.phase }, { on := 5, ground := Go.Ground.phase }], guard := none }) rfl (by kernel_rfl) (fun K hK => ?_) AllReadyM.nil
            obtain ⟨⟨z0, z1, z2, z3, z4, z5, z6, z7, z8, z9, z10⟩, f0, f1, f2, f3, f4, f5, f6, f7, f8, f9, f10⟩ := slot11 FP_1_5_3_4.out
            go_simp
            clear z0 z1 z2 z3 z4 z5 z6 z7 z8 z9 z10
            obtain ⟨w_1_5_3_4_6, hW_1_5_3_4_6⟩ : ∃ x, x = setL w_1_5_3_4 (w_1_5_3.heap.size) 0 [.int .i64 G.kind, .string G.s, .slice x2_1 G.keys.length x3_1, .slice x4_1 G.l.length x5_1, .int .i64 u1_1, .int .i64 u2_1, .float .f64 u3_1, .string u4_1, .slice u5_1 u6_1 u7_1, .slice u8_1 u9_1 u10_1, .int .i64 G.n] := ⟨_, rfl⟩
            change K _ (setL w_1_5_3_4 (w_1_5_3.heap.size) 0 [.int .i64 G.kind, .string G.s, .slice x2_1 G.keys.length x3_1, .slice x4_1 G.l.length x5_1, .int .i64 u1_1, .int .i64 u2_1, .float .f64 u3_1, .string u4_1, .slice u5_1 u6_1 u7_1, .slice u8_1 u9_1 u10_1, .int .i64 G.n])
            rw [← hW_1_5_3_4_6]
            have FP_1_5_3_4_6 : Hid (w_1_5_3_4_6.heap[w_1_5_3.heap.size]? = some (.cells ([.int .i64 G.kind, .string G.s, .slice x2_1 G.keys.length x3_1, .slice x4_1 G.l.length x5_1, .int .i64 u1_1, .int .i64 u2_1, .float .f64 u3_1, .string u4_1, .slice u5_1 u6_1 u7_1, .slice u8_1 u9_1 u10_1, .int .i64 G.n] : List Value).toArray 34)) := hid (by rw [hW_1_5_3_4_6]; exact setL_all FP_1_5_3_4.out _ rfl)
            have hoth : ∀ b', b' ≠ w_1_5_3.heap.size → w_1_5_3_4_6.heap[b']? = w_1_5_3_4.heap[b']? := fun b' hb => by rw [hW_1_5_3_4_6]; exact setL_other hb _
            have FQ_1_5_3_4_6 := hid ((hoth (w_1.heap.size) (by have := HS_1.out; have := HS_1_5.out; have := HS_1_5_3.out; have := HS_1_5_3_4.out; omega)).trans FQ_1_5_3_4.out)
            have HX_1_5_3_4_6 := hid (HX_1_5_3_4.out.mono (S' := fun b => wd.heap.size ≤ b ∧ b < w_1.heap.size) (fun b' o hb hob => (hoth b' (by have h1 := hb.1; have h2 := hb.2; have := HS_1.out; have := HS_1_5.out; have := HS_1_5_3.out; have := HS_1_5_3_4.out; omega)).trans hob) (fun b h _ => h))
            have HY_1_5_3_4_6 := hid (HY_1_5_3_4.out.mono (S' := fun b => w_1_5.heap.size ≤ b ∧ b < w_1_5_3.heap.size) (fun b' o hb hob => (hoth b' (by have h1 := hb.1; have h2 := hb.2; have := HS_1.out; have := HS_1_5.out; have := HS_1_5_3.out; have := HS_1_5_3_4.out; omega)).trans hob) (fun b h _ => h))
            have HE_1_5_3_4_6 := hid (show Ext wr w_1_5_3_4_6 by rw [hW_1_5_3_4_6]; exact setL_below HE_1_5_3_4.out (by have := HS_1.out; have := HS_1_5.out; have := HS_1_5_3.out; have := HS_1_5_3_4.out; have := HWD.out; omega) 0 _)
            clear hW_1_5_3_4_6 hoth
            refine hK.out _ _ ?_
            clear hK K
            (try simp only [Act.put, List.setIfInBounds_toArray, List.set_cons_zero, List.set_cons_succ])
            refine wpAnyM_ready (rs := [7]) (by kernel_rfl) (by simp) ?_
            refine AllReadyM.behind (o := { dst := none, op := Go.Op.store 34 (Go.Operand.tmp 13) (Go.Operand.tmp 101), type := 0, pos := "walks.go:214", after := #[{ on := 5, ground := Go.Ground.data }, { on := 3, ground := Go.Ground.data }, { on := 6, ground := Go.Ground.chain }, { on := 0, ground := Go.Ground.phase }, { on := 1, ground := Go.Ground.phase }, { on := 2, ground := Go.Ground.phase }, { on := 3, ground := Go.Ground.phase }, { on := 4, ground := Go.Ground.phase }, { on := 5, ground := Go.Ground.phase }, { on := 6, ground := Go.Ground.phase }], guard := none }) rfl (by kernel_rfl) (fun K hK => ?_) AllReadyM.nil
            obtain ⟨⟨z0, z1, z2, z3, z4, z5, z6, z7, z8, z9, z10⟩, f0, f1, f2, f3, f4, f5, f6, f7, f8, f9, f10⟩ := slot11 FQ_1_5_3_4_6.out
            go_simp
            clear z0 z1 z2 z3 z4 z5 z6 z7 z8 z9 z10
            obtain ⟨w_1_5_3_4_6_7, hW_1_5_3_4_6_7⟩ : ∃ x, x = setL w_1_5_3_4_6 (w_1.heap.size) 0 [.int .i64 G.kind, .string G.s, .slice y2_1_5_3 G.keys.length y3_1_5_3, .slice y4_1_5_3 G.l.length y5_1_5_3, .int .i64 u1_1_5_3, .int .i64 u2_1_5_3, .float .f64 u3_1_5_3, .string u4_1_5_3, .slice u5_1_5_3 u6_1_5_3 u7_1_5_3, .slice u8_1_5_3 u9_1_5_3 u10_1_5_3, .int .i64 G.n] := ⟨_, rfl⟩
            change K _ (setL w_1_5_3_4_6 (w_1.heap.size) 0 [.int .i64 G.kind, .string G.s, .slice y2_1_5_3 G.keys.length y3_1_5_3, .slice y4_1_5_3 G.l.length y5_1_5_3, .int .i64 u1_1_5_3, .int .i64 u2_1_5_3, .float .f64 u3_1_5_3, .string u4_1_5_3, .slice u5_1_5_3 u6_1_5_3 u7_1_5_3, .slice u8_1_5_3 u9_1_5_3 u10_1_5_3, .int .i64 G.n])
            rw [← hW_1_5_3_4_6_7]
            have FQ_1_5_3_4_6_7 : Hid (w_1_5_3_4_6_7.heap[w_1.heap.size]? = some (.cells ([.int .i64 G.kind, .string G.s, .slice y2_1_5_3 G.keys.length y3_1_5_3, .slice y4_1_5_3 G.l.length y5_1_5_3, .int .i64 u1_1_5_3, .int .i64 u2_1_5_3, .float .f64 u3_1_5_3, .string u4_1_5_3, .slice u5_1_5_3 u6_1_5_3 u7_1_5_3, .slice u8_1_5_3 u9_1_5_3 u10_1_5_3, .int .i64 G.n] : List Value).toArray 34)) := hid (by rw [hW_1_5_3_4_6_7]; exact setL_all FQ_1_5_3_4_6.out _ rfl)
            have hoth : ∀ b', b' ≠ w_1.heap.size → w_1_5_3_4_6_7.heap[b']? = w_1_5_3_4_6.heap[b']? := fun b' hb => by rw [hW_1_5_3_4_6_7]; exact setL_other hb _
            have FP_1_5_3_4_6_7 := hid ((hoth (w_1_5_3.heap.size) (by have := HS_1.out; have := HS_1_5.out; have := HS_1_5_3.out; have := HS_1_5_3_4.out; omega)).trans FP_1_5_3_4_6.out)
            have HX_1_5_3_4_6_7 := hid (HX_1_5_3_4_6.out.mono (S' := fun b => wd.heap.size ≤ b ∧ b < w_1.heap.size) (fun b' o hb hob => (hoth b' (by have h1 := hb.1; have h2 := hb.2; have := HS_1.out; have := HS_1_5.out; have := HS_1_5_3.out; have := HS_1_5_3_4.out; omega)).trans hob) (fun b h _ => h))
            have HY_1_5_3_4_6_7 := hid (HY_1_5_3_4_6.out.mono (S' := fun b => w_1_5.heap.size ≤ b ∧ b < w_1_5_3.heap.size) (fun b' o hb hob => (hoth b' (by have h1 := hb.1; have h2 := hb.2; have := HS_1.out; have := HS_1_5.out; have := HS_1_5_3.out; have := HS_1_5_3_4.out; omega)).trans hob) (fun b h _ => h))
            have HE_1_5_3_4_6_7 := hid (show Ext wr w_1_5_3_4_6_7 by rw [hW_1_5_3_4_6_7]; exact setL_below HE_1_5_3_4_6.out (by have := HS_1.out; have := HS_1_5.out; have := HS_1_5_3.out; have := HS_1_5_3_4.out; have := HWD.out; omega) 0 _)
            clear hW_1_5_3_4_6_7 hoth
            refine hK.out _ _ ?_
            clear hK K
            (try simp only [Act.put, List.setIfInBounds_toArray, List.set_cons_zero, List.set_cons_succ])
            refine wpAnyM_done (by kernel_rfl) ?_ _
            go_wp2_with fail
            go_meet
            case rel => exact ⟨_, _, _, _, rfl, rfl, FP_1_5_3_4_6_7, FQ_1_5_3_4_6_7, hid (HX_1_5_3_4_6_7.out.weak (fun _ _ _ => trivial)), hid (HY_1_5_3_4_6_7.out.weak (fun _ _ _ => trivial)), hid (HE4.out.trans ((show Ext w4 wr from HQ2.out.below).trans HE_1_5_3_4_6_7.out))⟩
          refine AllReadyM.cons (o := { dst := some 12, op := Go.Op.alloc 34, type := 0, pos := "walks.go:214", after := #[], guard := none }) rfl (fun K hK => ?_) AllReadyM.nil
          go_simp
          obtain ⟨w_1_5_4, hW_1_5_4⟩ : ∃ x, x = w_1_5.alloc (.cells #[.int .i64 0, .string ⟨#[]⟩, .slice none 0 0, .slice none 0 0, .int .i64 0, .int .i64 0, .float .f64 0, .string ⟨#[]⟩, .slice none 0 0, .slice none 0 0, .int .i64 0] 34) := ⟨_, rfl⟩
          change K _ (w_1_5.alloc (.cells #[.int .i64 0, .string ⟨#[]⟩, .slice none 0 0, .slice none 0 0, .int .i64 0, .int .i64 0, .float .f64 0, .string ⟨#[]⟩, .slice none 0 0, .slice none 0 0, .int .i64 0] 34))
          rw [← hW_1_5_4]
          have hE : Ext w_1_5 w_1_5_4 := hW_1_5_4 ▸ (Ext.refl w_1_5).alloc _
          have FP_1_5_4 : Hid (w_1_5_4.heap[w_1_5.heap.size]? = some (.cells #[.int .i64 0, .string ⟨#[]⟩, .slice none 0 0, .slice none 0 0, .int .i64 0, .int .i64 0, .float .f64 0, .string ⟨#[]⟩, .slice none 0 0, .slice none 0 0, .int .i64 0] 34)) := hid (hW_1_5_4 ▸ heap_alloc_new w_1_5 _)
          have HS_1_5_4 := hid (show w_1_5_4.heap.size = w_1_5.heap.size + 1 by rw [hW_1_5_4]; simp)
          have HE_1_5_4 := hid (HE_1_5.out.trans hE)
          clear hW_1_5_4
          have FQ_1_5_4 := hid (hE.block FQ_1_5.out)
          have HX_1_5_4 := hid (HX_1_5.out.ext hE)
          clear hE
          refine hK.out _ _ ?hS88 (fun hHeld => ?_)
          case hS88 => (exact K14.out _ HE_1_5_4.out)
          clear hK K
          (try simp only [Act.put, List.setIfInBounds_toArray, List.set_cons_zero, List.set_cons_succ])
          refine wpAnyM_ready (rs := [3]) (by kernel_rfl) (by simp) ?_
          refine AllReadyM.cons (o := { dst := some 101, op := Go.Op.call { callee := Go.Callee.value (Go.Operand.func 17), args := #[Go.Operand.tmp 100], argTypes := #[34] }, type := 34, pos := "walks.go:214", after := #[{ on := 2, ground := Go.Ground.data }, { on := 1, ground := Go.Ground.chain }], guard := none }) rfl (fun K hK => ?_) AllReadyM.nil
          refine step_call _ rfl 17 [.tmp 100] #[34] rfl (by kernel_rfl) [_] rfl (HCB.out _ HE_1_5_4.out) ?_
          rintro en w_1_5_4_3 ⟨cs, rfl, hT, hE⟩
          obtain ⟨y2_1_5_4_3, y3_1_5_4_3, y4_1_5_4_3, y5_1_5_4_3, u1_1_5_4_3, u2_1_5_4_3, u3_1_5_4_3, u4_1_5_4_3, u5_1_5_4_3, u6_1_5_4_3, u7_1_5_4_3, u8_1_5_4_3, u9_1_5_4_3, u10_1_5_4_3, rfl⟩ := hT.form8
          refine ⟨_, rfl, ?_⟩
          have HY_1_5_4_3 := hid (hT.weak (S' := fun b => w_1_5_4.heap.size ≤ b ∧ b < w_1_5_4_3.heap.size) (fun b h1 h2 => ⟨h1, h2⟩))
          have HS_1_5_4_3 := hid hE.size
          have HE_1_5_4_3 := hid (HE_1_5_4.out.trans hE)
          have FP_1_5_4_3 := hid (hE.block FP_1_5_4.out)
          have FQ_1_5_4_3 := hid (hE.block FQ_1_5_4.out)
          have HX_1_5_4_3 := hid (HX_1_5_4.out.ext hE)
          clear hE hT
          refine hK.out _ _ ?hS89 (fun hHeld => ?_)
          case hS89 => (exact K14.out _ HE_1_5_4_3.out)
          clear hK K
          (try simp only [Act.put, List.setIfInBounds_toArray, List.set_cons_zero, List.set_cons_succ])
          refine wpAnyM_ready (rs := [6]) (by kernel_rfl) (by simp) ?_
          refine AllReadyM.behind (o := { dst := none, op := Go.Op.store 34 (Go.Operand.tmp 12) (Go.Operand.tmp 99), type := 0, pos := "walks.go:214", after := #[{ on := 4, ground := Go.Ground.data }, { on := 1, ground := Go.Ground.data }, { on := 3, ground := Go.Ground.chain }, { on := 0, ground := Go.Ground.phase }, { on := 1, ground := Go.Ground.phase }, { on := 2, ground := Go.Ground.textOnly Go.Departure.lateStores }, { on := 3, ground := Go.Ground.textOnly Go.Departure.lateStoresUnsure }, { on := 4, ground := Go.Ground.phase }, { on := 5, ground := Go.Ground.phase }], guard := none }) rfl (by kernel_rfl) (fun K hK => ?_) AllReadyM.nil
          obtain ⟨⟨z0, z1, z2, z3, z4, z5, z6, z7, z8, z9, z10⟩, f0, f1, f2, f3, f4, f5, f6, f7, f8, f9, f10⟩ := slot11 FP_1_5_4_3.out
          go_simp
          clear z0 z1 z2 z3 z4 z5 z6 z7 z8 z9 z10
          obtain ⟨w_1_5_4_3_6, hW_1_5_4_3_6⟩ : ∃ x, x = setL w_1_5_4_3 (w_1_5.heap.size) 0 [.int .i64 G.kind, .string G.s, .slice x2_1 G.keys.length x3_1, .slice x4_1 G.l.length x5_1, .int .i64 u1_1, .int .i64 u2_1, .float .f64 u3_1, .string u4_1, .slice u5_1 u6_1 u7_1, .slice u8_1 u9_1 u10_1, .int .i64 G.n] := ⟨_, rfl⟩
          change K _ (setL w_1_5_4_3 (w_1_5.heap.size) 0 [.int .i64 G.kind, .string G.s, .slice x2_1 G.keys.length x3_1, .slice x4_1 G.l.length x5_1, .int .i64 u1_1, .int .i64 u2_1, .float .f64 u3_1, .string u4_1, .slice u5_1 u6_1 u7_1, .slice u8_1 u9_1 u10_1, .int .i64 G.n])
          rw [← hW_1_5_4_3_6]
          have FP_1_5_4_3_6 : Hid (w_1_5_4_3_6.heap[w_1_5.heap.size]? = some (.cells ([.int .i64 G.kind, .string G.s, .slice x2_1 G.keys.length x3_1, .slice x4_1 G.l.length x5_1, .int .i64 u1_1, .int .i64 u2_1, .float .f64 u3_1, .string u4_1, .slice u5_1 u6_1 u7_1, .slice u8_1 u9_1 u10_1, .int .i64 G.n] : List Value).toArray 34)) := hid (by rw [hW_1_5_4_3_6]; exact setL_all FP_1_5_4_3.out _ rfl)
          have hoth : ∀ b', b' ≠ w_1_5.heap.size → w_1_5_4_3_6.heap[b']? = w_1_5_4_3.heap[b']? := fun b' hb => by rw [hW_1_5_4_3_6]; exact setL_other hb _
          have FQ_1_5_4_3_6 := hid ((hoth (w_1.heap.size) (by have := HS_1.out; have := HS_1_5.out; have := HS_1_5_4.out; have := HS_1_5_4_3.out; omega)).trans FQ_1_5_4_3.out)
          have HX_1_5_4_3_6 := hid (HX_1_5_4_3.out.mono (S' := fun b => wd.heap.size ≤ b ∧ b < w_1.heap.size) (fun b' o hb hob => (hoth b' (by have h1 := hb.1; have h2 := hb.2; have := HS_1.out; have := HS_1_5.out; have := HS_1_5_4.out; have := HS_1_5_4_3.out; omega)).trans hob) (fun b h _ => h))
          have HY_1_5_4_3_6 := hid (HY_1_5_4_3.out.mono (S' := fun b => w_1_5_4.heap.size ≤ b ∧ b < w_1_5_4_3.heap.size) (fun b' o hb hob => (hoth b' (by have h1 := hb.1; have h2 := hb.2; have := HS_1.out; have := HS_1_5.out; have := HS_1_5_4.out; have := HS_1_5_4_3.out; omega)).trans hob) (fun b h _ => h))
          have HE_1_5_4_3_6 := hid (show Ext wr w_1_5_4_3_6 by rw [hW_1_5_4_3_6]; exact setL_below HE_1_5_4_3.out (by have := HS_1.out; have := HS_1_5.out; have := HS_1_5_4.out; have := HS_1_5_4_3.out; have := HWD.out; omega) 0 _)
          clear hW_1_5_4_3_6 hoth
          refine hK.out _ _ ?_
          clear hK K
          (try simp only [Act.put, List.setIfInBounds_toArray, List.set_cons_zero, List.set_cons_succ])
          refine wpAnyM_ready (rs := [7]) (by kernel_rfl) (by simp) ?_
          refine AllReadyM.behind (o := { dst := none, op := Go.Op.store 34 (Go.Operand.tmp 13) (Go.Operand.tmp 101), type := 0, pos := "walks.go:214", after := #[{ on := 5, ground := Go.Ground.data }, { on := 3, ground := Go.Ground.data }, { on := 6, ground := Go.Ground.chain }, { on := 0, ground := Go.Ground.phase }, { on := 1, ground := Go.Ground.phase }, { on := 2, ground := Go.Ground.phase }, { on := 3, ground := Go.Ground.phase }, { on := 4, ground := Go.Ground.phase }, { on := 5, ground := Go.Ground.phase }, { on := 6, ground := Go.Ground.phase }], guard := none }) rfl (by kernel_rfl) (fun K hK => ?_) AllReadyM.nil
          obtain ⟨⟨z0, z1, z2, z3, z4, z5, z6, z7, z8, z9, z10⟩, f0, f1, f2, f3, f4, f5, f6, f7, f8, f9, f10⟩ := slot11 FQ_1_5_4_3_6.out
          go_simp
          clear z0 z1 z2 z3 z4 z5 z6 z7 z8 z9 z10
          obtain ⟨w_1_5_4_3_6_7, hW_1_5_4_3_6_7⟩ : ∃ x, x = setL w_1_5_4_3_6 (w_1.heap.size) 0 [.int .i64 G.kind, .string G.s, .slice y2_1_5_4_3 G.keys.length y3_1_5_4_3, .slice y4_1_5_4_3 G.l.length y5_1_5_4_3, .int .i64 u1_1_5_4_3, .int .i64 u2_1_5_4_3, .float .f64 u3_1_5_4_3, .string u4_1_5_4_3, .slice u5_1_5_4_3 u6_1_5_4_3 u7_1_5_4_3, .slice u8_1_5_4_3 u9_1_5_4_3 u10_1_5_4_3, .int .i64 G.n] := ⟨_, rfl⟩
          change K _ (setL w_1_5_4_3_6 (w_1.heap.size) 0 [.int .i64 G.kind, .string G.s, .slice y2_1_5_4_3 G.keys.length y3_1_5_4_3, .slice y4_1_5_4_3 G.l.length y5_1_5_4_3, .int .i64 u1_1_5_4_3, .int .i64 u2_1_5_4_3, .float .f64 u3_1_5_4_3, .string u4_1_5_4_3, .slice u5_1_5_4_3 u6_1_5_4_3 u7_1_5_4_3, .slice u8_1_5_4_3 u9_1_5_4_3 u10_1_5_4_3, .int .i64 G.n])
          rw [← hW_1_5_4_3_6_7]
          have FQ_1_5_4_3_6_7 : Hid (w_1_5_4_3_6_7.heap[w_1.heap.size]? = some (.cells ([.int .i64 G.kind, .string G.s, .slice y2_1_5_4_3 G.keys.length y3_1_5_4_3, .slice y4_1_5_4_3 G.l.length y5_1_5_4_3, .int .i64 u1_1_5_4_3, .int .i64 u2_1_5_4_3, .float .f64 u3_1_5_4_3, .string u4_1_5_4_3, .slice u5_1_5_4_3 u6_1_5_4_3 u7_1_5_4_3, .slice u8_1_5_4_3 u9_1_5_4_3 u10_1_5_4_3, .int .i64 G.n] : List Value).toArray 34)) := hid (by rw [hW_1_5_4_3_6_7]; exact setL_all FQ_1_5_4_3_6.out _ rfl)
          have hoth : ∀ b', b' ≠ w_1.heap.size → w_1_5_4_3_6_7.heap[b']? = w_1_5_4_3_6.heap[b']? := fun b' hb => by rw [hW_1_5_4_3_6_7]; exact setL_other hb _
          have FP_1_5_4_3_6_7 := hid ((hoth (w_1_5.heap.size) (by have := HS_1.out; have := HS_1_5.out; have := HS_1_5_4.out; have := HS_1_5_4_3.out; omega)).trans FP_1_5_4_3_6.out)
          have HX_1_5_4_3_6_7 := hid (HX_1_5_4_3_6.out.mono (S' := fun b => wd.heap.size ≤ b ∧ b < w_1.heap.size) (fun b' o hb hob => (hoth b' (by have h1 := hb.1; have h2 := hb.2; have := HS_1.out; have := HS_1_5.out; have := HS_1_5_4.out; have := HS_1_5_4_3.out; omega)).trans hob) (fun b h _ => h))
          have HY_1_5_4_3_6_7 := hid (HY_1_5_4_3_6.out.mono (S' := fun b => w_1_5_4.heap.size ≤ b ∧ b < w_1_5_4_3.heap.size) (fun b' o hb hob => (hoth b' (by have h1 := hb.1; have h2 := hb.2; have := HS_1.out; have := HS_1_5.out; have := HS_1_5_4.out; have := HS_1_5_4_3.out; omega)).trans hob) (fun b h _ => h))
          have HE_1_5_4_3_6_7 := hid (show Ext wr w_1_5_4_3_6_7 by rw [hW_1_5_4_3_6_7]; exact setL_below HE_1_5_4_3_6.out (by have := HS_1.out; have := HS_1_5.out; have := HS_1_5_4.out; have := HS_1_5_4_3.out; have := HWD.out; omega) 0 _)
          clear hW_1_5_4_3_6_7 hoth
          refine hK.out _ _ ?_
          clear hK K
          (try simp only [Act.put, List.setIfInBounds_toArray, List.set_cons_zero, List.set_cons_succ])
          refine wpAnyM_done (by kernel_rfl) ?_ _
          go_wp2_with fail
          go_meet
          case rel => exact ⟨_, _, _, _, rfl, rfl, FP_1_5_4_3_6_7, FQ_1_5_4_3_6_7, hid (HX_1_5_4_3_6_7.out.weak (fun _ _ _ => trivial)), hid (HY_1_5_4_3_6_7.out.weak (fun _ _ _ => trivial)), hid (HE4.out.trans ((show Ext w4 wr from HQ2.out.below).trans HE_1_5_4_3_6_7.out))⟩
        refine AllReadyM.cons (o := { dst := some 12, op := Go.Op.alloc 34, type := 0, pos := "walks.go:214", after := #[], guard := none }) rfl (fun K hK => ?_) ?more90
        · have tkn : True := trivial
          go_simp
          obtain ⟨w_4, hW_4⟩ : ∃ x, x = wd.alloc (.cells #[.int .i64 0, .string ⟨#[]⟩, .slice none 0 0, .slice none 0 0, .int .i64 0, .int .i64 0, .float .f64 0, .string ⟨#[]⟩, .slice none 0 0, .slice none 0 0, .int .i64 0] 34) := ⟨_, rfl⟩
          change K _ (wd.alloc (.cells #[.int .i64 0, .string ⟨#[]⟩, .slice none 0 0, .slice none 0 0, .int .i64 0, .int .i64 0, .float .f64 0, .string ⟨#[]⟩, .slice none 0 0, .slice none 0 0, .int .i64 0] 34))
          rw [← hW_4]
          have hE : Ext wd w_4 := hW_4 ▸ (Ext.refl wd).alloc _
          have FP_4 : Hid (w_4.heap[wd.heap.size]? = some (.cells #[.int .i64 0, .string ⟨#[]⟩, .slice none 0 0, .slice none 0 0, .int .i64 0, .int .i64 0, .float .f64 0, .string ⟨#[]⟩, .slice none 0 0, .slice none 0 0, .int .i64 0] 34)) := hid (hW_4 ▸ heap_alloc_new wd _)
          have HS_4 := hid (show w_4.heap.size = wd.heap.size + 1 by rw [hW_4]; simp)
          have HE_4 := hid (HE_.out.trans hE)
          clear hW_4
          clear hE
          refine hK.out _ _ ?hS91 (fun hHeld => ?_)
          case hS91 => (exact K14.out _ HE_4.out)
          clear hK K
          (try simp only [Act.put, List.setIfInBounds_toArray, List.set_cons_zero, List.set_cons_succ])
          refine wpAnyM_ready (rs := [1, 5]) (by kernel_rfl) (by simp) ?_
          refine AllReadyM.cons (o := { dst := some 99, op := Go.Op.call { callee := Go.Callee.value (Go.Operand.func 17), args := #[Go.Operand.tmp 98], argTypes := #[34] }, type := 34, pos := "walks.go:214", after := #[{ on := 0, ground := Go.Ground.data }], guard := none }) rfl (fun K hK => ?_) ?more92
          · have tkn : True := trivial
            refine step_call _ rfl 17 [.tmp 98] #[34] rfl (by kernel_rfl) [_] rfl (HCA.out _ HE_4.out) ?_
            rintro en w_4_1 ⟨cs, rfl, hT, hE⟩
            obtain ⟨x2_4_1, x3_4_1, x4_4_1, x5_4_1, u1_4_1, u2_4_1, u3_4_1, u4_4_1, u5_4_1, u6_4_1, u7_4_1, u8_4_1, u9_4_1, u10_4_1, rfl⟩ := hT.form8
            refine ⟨_, rfl, ?_⟩
            have HX_4_1 := hid (hT.weak (S' := fun b => w_4.heap.size ≤ b ∧ b < w_4_1.heap.size) (fun b h1 h2 => ⟨h1, h2⟩))
            have HS_4_1 := hid hE.size
            have HE_4_1 := hid (HE_4.out.trans hE)
            have FP_4_1 := hid (hE.block FP_4.out)
            clear hE hT
            refine hK.out _ _ ?hS93 (fun hHeld => ?_)
            case hS93 => (exact K14.out _ HE_4_1.out)
            clear hK K
            (try simp only [Act.put, List.setIfInBounds_toArray, List.set_cons_zero, List.set_cons_succ])
            refine wpAnyM_ready (rs := [3, 5]) (by kernel_rfl) (by simp) ?_
            refine AllReadyM.cons (o := { dst := some 101, op := Go.Op.call { callee := Go.Callee.value (Go.Operand.func 17), args := #[Go.Operand.tmp 100], argTypes := #[34] }, type := 34, pos := "walks.go:214", after := #[{ on := 2, ground := Go.Ground.data }, { on := 1, ground := Go.Ground.chain }], guard := none }) rfl (fun K hK => ?_) ?more94
            · have tkn : True := trivial
              refine step_call _ rfl 17 [.tmp 100] #[34] rfl (by kernel_rfl) [_] rfl (HCB.out _ HE_4_1.out) ?_
              rintro en w_4_1_3 ⟨cs, rfl, hT, hE⟩
              obtain ⟨y2_4_1_3, y3_4_1_3, y4_4_1_3, y5_4_1_3, u1_4_1_3, u2_4_1_3, u3_4_1_3, u4_4_1_3, u5_4_1_3, u6_4_1_3, u7_4_1_3, u8_4_1_3, u9_4_1_3, u10_4_1_3, rfl⟩ := hT.form8
              refine ⟨_, rfl, ?_⟩
              have HY_4_1_3 := hid (hT.weak (S' := fun b => w_4_1.heap.size ≤ b ∧ b < w_4_1_3.heap.size) (fun b h1 h2 => ⟨h1, h2⟩))
              have HS_4_1_3 := hid hE.size
              have HE_4_1_3 := hid (HE_4_1.out.trans hE)
              have FP_4_1_3 := hid (hE.block FP_4_1.out)
              have HX_4_1_3 := hid (HX_4_1.out.ext hE)
              clear hE hT
              refine hK.out _ _ ?hS95 (fun hHeld => ?_)
              case hS95 => (exact K14.out _ HE_4_1_3.out)
              clear hK K
              (try simp only [Act.put, List.setIfInBounds_toArray, List.set_cons_zero, List.set_cons_succ])
              refine wpAnyM_ready (rs := [5]) (by kernel_rfl) (by simp) ?_
              refine AllReadyM.cons (o := { dst := some 13, op := Go.Op.alloc 34, type := 0, pos := "walks.go:214", after := #[], guard := none }) rfl (fun K hK => ?_) AllReadyM.nil
              go_simp
              obtain ⟨w_4_1_3_5, hW_4_1_3_5⟩ : ∃ x, x = w_4_1_3.alloc (.cells #[.int .i64 0, .string ⟨#[]⟩, .slice none 0 0, .slice none 0 0, .int .i64 0, .int .i64 0, .float .f64 0, .string ⟨#[]⟩, .slice none 0 0, .slice none 0 0, .int .i64 0] 34) := ⟨_, rfl⟩
              change K _ (w_4_1_3.alloc (.cells #[.int .i64 0, .string ⟨#[]⟩, .slice none 0 0, .slice none 0 0, .int .i64 0, .int .i64 0, .float .f64 0, .string ⟨#[]⟩, .slice none 0 0, .slice none 0 0, .int .i64 0] 34))
              rw [← hW_4_1_3_5]
              have hE : Ext w_4_1_3 w_4_1_3_5 := hW_4_1_3_5 ▸ (Ext.refl w_4_1_3).alloc _
              have FQ_4_1_3_5 : Hid (w_4_1_3_5.heap[w_4_1_3.heap.size]? = some (.cells #[.int .i64 0, .string ⟨#[]⟩, .slice none 0 0, .slice none 0 0, .int .i64 0, .int .i64 0, .float .f64 0, .string ⟨#[]⟩, .slice none 0 0, .slice none 0 0, .int .i64 0] 34)) := hid (hW_4_1_3_5 ▸ heap_alloc_new w_4_1_3 _)
              have HS_4_1_3_5 := hid (show w_4_1_3_5.heap.size = w_4_1_3.heap.size + 1 by rw [hW_4_1_3_5]; simp)
              have HE_4_1_3_5 := hid (HE_4_1_3.out.trans hE)
              clear hW_4_1_3_5
              have FP_4_1_3_5 := hid (hE.block FP_4_1_3.out)
              have HX_4_1_3_5 := hid (HX_4_1_3.out.ext hE)
              have HY_4_1_3_5 := hid (HY_4_1_3.out.ext hE)
              clear hE
              refine hK.out _ _ ?hS96 (fun hHeld => ?_)
              case hS96 => (exact K14.out _ HE_4_1_3_5.out)
              clear hK K
              (try simp only [Act.put, List.setIfInBounds_toArray, List.set_cons_zero, List.set_cons_succ])
              refine wpAnyM_ready (rs := [6]) (by kernel_rfl) (by simp) ?_
              refine AllReadyM.behind (o := { dst := none, op := Go.Op.store 34 (Go.Operand.tmp 12) (Go.Operand.tmp 99), type := 0, pos := "walks.go:214", after := #[{ on := 4, ground := Go.Ground.data }, { on := 1, ground := Go.Ground.data }, { on := 3, ground := Go.Ground.chain }, { on := 0, ground := Go.Ground.phase }, { on := 1, ground := Go.Ground.phase }, { on := 2, ground := Go.Ground.textOnly Go.Departure.lateStores }, { on := 3, ground := Go.Ground.textOnly Go.Departure.lateStoresUnsure }, { on := 4, ground := Go.Ground.phase }, { on := 5, ground := Go.Ground.phase }], guard := none }) rfl (by kernel_rfl) (fun K hK => ?_) AllReadyM.nil
              obtain ⟨⟨z0, z1, z2, z3, z4, z5, z6, z7, z8, z9, z10⟩, f0, f1, f2, f3, f4, f5, f6, f7, f8, f9, f10⟩ := slot11 FP_4_1_3_5.out
              go_simp
              clear z0 z1 z2 z3 z4 z5 z6 z7 z8 z9 z10
              obtain ⟨w_4_1_3_5_6, hW_4_1_3_5_6⟩ : ∃ x, x = setL w_4_1_3_5 (wd.heap.size) 0 [.int .i64 G.kind, .string G.s, .slice x2_4_1 G.keys.length x3_4_1, .slice x4_4_1 G.l.length x5_4_1, .int .i64 u1_4_1, .int .i64 u2_4_1, .float .f64 u3_4_1, .string u4_4_1, .slice u5_4_1 u6_4_1 u7_4_1, .slice u8_4_1 u9_4_1 u10_4_1, .int .i64 G.n] := ⟨_, rfl⟩
              change K _ (setL w_4_1_3_5 (wd.heap.size) 0 [.int .i64 G.kind, .string G.s, .slice x2_4_1 G.keys.length x3_4_1, .slice x4_4_1 G.l.length x5_4_1, .int .i64 u1_4_1, .int .i64 u2_4_1, .float .f64 u3_4_1, .string u4_4_1, .slice u5_4_1 u6_4_1 u7_4_1, .slice u8_4_1 u9_4_1 u10_4_1, .int .i64 G.n])
              rw [← hW_4_1_3_5_6]
              have FP_4_1_3_5_6 : Hid (w_4_1_3_5_6.heap[wd.heap.size]? = some (.cells ([.int .i64 G.kind, .string G.s, .slice x2_4_1 G.keys.length x3_4_1, .slice x4_4_1 G.l.length x5_4_1, .int .i64 u1_4_1, .int .i64 u2_4_1, .float .f64 u3_4_1, .string u4_4_1, .slice u5_4_1 u6_4_1 u7_4_1, .slice u8_4_1 u9_4_1 u10_4_1, .int .i64 G.n] : List Value).toArray 34)) := hid (by rw [hW_4_1_3_5_6]; exact setL_all FP_4_1_3_5.out _ rfl)
              have hoth : ∀ b', b' ≠ wd.heap.size → w_4_1_3_5_6.heap[b']? = w_4_1_3_5.heap[b']? := fun b' hb => by rw [hW_4_1_3_5_6]; exact setL_other hb _
              have FQ_4_1_3_5_6 := hid ((hoth (w_4_1_3.heap.size) (by have := HS_4.out; have := HS_4_1.out; have := HS_4_1_3.out; have := HS_4_1_3_5.out; omega)).trans FQ_4_1_3_5.out)
              have HX_4_1_3_5_6 := hid (HX_4_1_3_5.out.mono (S' := fun b => w_4.heap.size ≤ b ∧ b < w_4_1.heap.size) (fun b' o hb hob => (hoth b' (by have h1 := hb.1; have h2 := hb.2; have := HS_4.out; have := HS_4_1.out; have := HS_4_1_3.out; have := HS_4_1_3_5.out; omega)).trans hob) (fun b h _ => h))
              have HY_4_1_3_5_6 := hid (HY_4_1_3_5.out.mono (S' := fun b => w_4_1.heap.size ≤ b ∧ b < w_4_1_3.heap.size) (fun b' o hb hob => (hoth b' (by have h1 := hb.1; have h2 := hb.2; have := HS_4.out; have := HS_4_1.out; have := HS_4_1_3.out; have := HS_4_1_3_5.out; omega)).trans hob) (fun b h _ => h))
              have HE_4_1_3_5_6 := hid (show Ext wr w_4_1_3_5_6 by rw [hW_4_1_3_5_6]; exact setL_below HE_4_1_3_5.out (by have := HS_4.out; have := HS_4_1.out; have := HS_4_1_3.out; have := HS_4_1_3_5.out; have := HWD.out; omega) 0 _)
              clear hW_4_1_3_5_6 hoth
              refine hK.out _ _ ?_
              clear hK K
              (try simp only [Act.put, List.setIfInBounds_toArray, List.set_cons_zero, List.set_cons_succ])
              refine wpAnyM_ready (rs := [7]) (by kernel_rfl) (by simp) ?_
              refine AllReadyM.behind (o := { dst := none, op := Go.Op.store 34 (Go.Operand.tmp 13) (Go.Operand.tmp 101), type := 0, pos := "walks.go:214", after := #[{ on := 5, ground := Go.Ground.data }, { on := 3, ground := Go.Ground.data }, { on := 6, ground := Go.Ground.chain }, { on := 0, ground := Go.Ground.phase }, { on := 1, ground := Go.Ground.phase }, { on := 2, ground := Go.Ground.phase }, { on := 3, ground := Go.Ground.phase }, { on := 4, ground := Go.Ground.phase }, { on := 5, ground := Go.Ground.phase }, { on := 6, ground := Go.Ground.phase }], guard := none }) rfl (by kernel_rfl) (fun K hK => ?_) AllReadyM.nil
              obtain ⟨⟨z0, z1, z2, z3, z4, z5, z6, z7, z8, z9, z10⟩, f0, f1, f2, f3, f4, f5, f6, f7, f8, f9, f10⟩ := slot11 FQ_4_1_3_5_6.out
              go_simp
              clear z0 z1 z2 z3 z4 z5 z6 z7 z8 z9 z10
              obtain ⟨w_4_1_3_5_6_7, hW_4_1_3_5_6_7⟩ : ∃ x, x = setL w_4_1_3_5_6 (w_4_1_3.heap.size) 0 [.int .i64 G.kind, .string G.s, .slice y2_4_1_3 G.keys.length y3_4_1_3, .slice y4_4_1_3 G.l.length y5_4_1_3, .int .i64 u1_4_1_3, .int .i64 u2_4_1_3, .float .f64 u3_4_1_3, .string u4_4_1_3, .slice u5_4_1_3 u6_4_1_3 u7_4_1_3, .slice u8_4_1_3 u9_4_1_3 u10_4_1_3, .int .i64 G.n] := ⟨_, rfl⟩
              change K _ (setL w_4_1_3_5_6 (w_4_1_3.heap.size) 0 [.int .i64 G.kind, .string G.s, .slice y2_4_1_3 G.keys.length y3_4_1_3, .slice y4_4_1_3 G.l.length y5_4_1_3, .int .i64 u1_4_1_3, .int .i64 u2_4_1_3, .float .f64 u3_4_1_3, .string u4_4_1_3, .slice u5_4_1_3 u6_4_1_3 u7_4_1_3, .slice u8_4_1_3 u9_4_1_3 u10_4_1_3, .int .i64 G.n])
              rw [← hW_4_1_3_5_6_7]
              have FQ_4_1_3_5_6_7 : Hid (w_4_1_3_5_6_7.heap[w_4_1_3.heap.size]? = some (.cells ([.int .i64 G.kind, .string G.s, .slice y2_4_1_3 G.keys.length y3_4_1_3, .slice y4_4_1_3 G.l.length y5_4_1_3, .int .i64 u1_4_1_3, .int .i64 u2_4_1_3, .float .f64 u3_4_1_3, .string u4_4_1_3, .slice u5_4_1_3 u6_4_1_3 u7_4_1_3, .slice u8_4_1_3 u9_4_1_3 u10_4_1_3, .int .i64 G.n] : List Value).toArray 34)) := hid (by rw [hW_4_1_3_5_6_7]; exact setL_all FQ_4_1_3_5_6.out _ rfl)
              have hoth : ∀ b', b' ≠ w_4_1_3.heap.size → w_4_1_3_5_6_7.heap[b']? = w_4_1_3_5_6.heap[b']? := fun b' hb => by rw [hW_4_1_3_5_6_7]; exact setL_other hb _
              have FP_4_1_3_5_6_7 := hid ((hoth (wd.heap.size) (by have := HS_4.out; have := HS_4_1.out; have := HS_4_1_3.out; have := HS_4_1_3_5.out; omega)).trans FP_4_1_3_5_6.out)
              have HX_4_1_3_5_6_7 := hid (HX_4_1_3_5_6.out.mono (S' := fun b => w_4.heap.size ≤ b ∧ b < w_4_1.heap.size) (fun b' o hb hob => (hoth b' (by have h1 := hb.1; have h2 := hb.2; have := HS_4.out; have := HS_4_1.out; have := HS_4_1_3.out; have := HS_4_1_3_5.out; omega)).trans hob) (fun b h _ => h))
              have HY_4_1_3_5_6_7 := hid (HY_4_1_3_5_6.out.mono (S' := fun b => w_4_1.heap.size ≤ b ∧ b < w_4_1_3.heap.size) (fun b' o hb hob => (hoth b' (by have h1 := hb.1; have h2 := hb.2; have := HS_4.out; have := HS_4_1.out; have := HS_4_1_3.out; have := HS_4_1_3_5.out; omega)).trans hob) (fun b h _ => h))
              have HE_4_1_3_5_6_7 := hid (show Ext wr w_4_1_3_5_6_7 by rw [hW_4_1_3_5_6_7]; exact setL_below HE_4_1_3_5_6.out (by have := HS_4.out; have := HS_4_1.out; have := HS_4_1_3.out; have := HS_4_1_3_5.out; have := HWD.out; omega) 0 _)
              clear hW_4_1_3_5_6_7 hoth
              refine hK.out _ _ ?_
              clear hK K
              (try simp only [Act.put, List.setIfInBounds_toArray, List.set_cons_zero, List.set_cons_succ])
              refine wpAnyM_done (by kernel_rfl) ?_ _
              go_wp2_with fail
              go_meet
              case rel => exact ⟨_, _, _, _, rfl, rfl, FP_4_1_3_5_6_7, FQ_4_1_3_5_6_7, hid (HX_4_1_3_5_6_7.out.weak (fun _ _ _ => trivial)), hid (HY_4_1_3_5_6_7.out.weak (fun _ _ _ => trivial)), hid (HE4.out.trans ((show Ext w4 wr from HQ2.out.below).trans HE_4_1_3_5_6_7.out))⟩
            refine AllReadyM.cons (o := { dst := some 13, op := Go.Op.alloc 34, type := 0, pos := "walks.go:214", after := #[], guard := none }) rfl (fun K hK => ?_) AllReadyM.nil
            go_simp
            obtain ⟨w_4_1_5, hW_4_1_5⟩ : ∃ x, x = w_4_1.alloc (.cells #[.int .i64 0, .string ⟨#[]⟩, .slice none 0 0, .slice none 0 0, .int .i64 0, .int .i64 0, .float .f64 0, .string ⟨#[]⟩, .slice none 0 0, .slice none 0 0, .int .i64 0] 34) := ⟨_, rfl⟩
            change K _ (w_4_1.alloc (.cells #[.int .i64 0, .string ⟨#[]⟩, .slice none 0 0, .slice none 0 0, .int .i64 0, .int .i64 0, .float .f64 0, .string ⟨#[]⟩, .slice none 0 0, .slice none 0 0, .int .i64 0] 34))
            rw [← hW_4_1_5]
            have hE : Ext w_4_1 w_4_1_5 := hW_4_1_5 ▸ (Ext.refl w_4_1).alloc _
            have FQ_4_1_5 : Hid (w_4_1_5.heap[w_4_1.heap.size]? = some (.cells #[.int .i64 0, .string ⟨#[]⟩, .slice none 0 0, .slice none 0 0, .int .i64 0, .int .i64 0, .float .f64 0, .string ⟨#[]⟩, .slice none 0 0, .slice none 0 0, .int .i64 0] 34)) := hid (hW_4_1_5 ▸ heap_alloc_new w_4_1 _)
            have HS_4_1_5 := hid (show w_4_1_5.heap.size = w_4_1.heap.size + 1 by rw [hW_4_1_5]; simp)
            have HE_4_1_5 := hid (HE_4_1.out.trans hE)
            clear hW_4_1_5
            have FP_4_1_5 := hid (hE.block FP_4_1.out)
            have HX_4_1_5 := hid (HX_4_1.out.ext hE)
            clear hE
            refine hK.out _ _ ?hS97 (fun hHeld => ?_)
            case hS97 => (exact K14.out _ HE_4_1_5.out)
            clear hK K
            (try simp only [Act.put, List.setIfInBounds_toArray, List.set_cons_zero, List.set_cons_succ])
            refine wpAnyM_ready (rs := [3]) (by kernel_rfl) (by simp) ?_
            refine AllReadyM.cons (o := { dst := some 101, op := Go.Op.call { callee := Go.Callee.value (Go.Operand.func 17), args := #[Go.Operand.tmp 100], argTypes := #[34] }, type := 34, pos := "walks.go:214", after := #[{ on := 2, ground := Go.Ground.data }, { on := 1, ground := Go.Ground.chain }], guard := none }) rfl (fun K hK => ?_) AllReadyM.nil
            refine step_call _ rfl 17 [.tmp 100] #[34] rfl (by kernel_rfl) [_] rfl (HCB.out _ HE_4_1_5.out) ?_
            rintro en w_4_1_5_3 ⟨cs, rfl, hT, hE⟩
            obtain ⟨y2_4_1_5_3, y3_4_1_5_3, y4_4_1_5_3, y5_4_1_5_3, u1_4_1_5_3, u2_4_1_5_3, u3_4_1_5_3, u4_4_1_5_3, u5_4_1_5_3, u6_4_1_5_3, u7_4_1_5_3, u8_4_1_5_3, u9_4_1_5_3, u10_4_1_5_3, rfl⟩ := hT.form8
            refine ⟨_, rfl, ?_⟩
            have HY_4_1_5_3 := hid (hT.weak (S' := fun b => w_4_1_5.heap.size ≤ b ∧ b < w_4_1_5_3.heap.size) (fun b h1 h2 => ⟨h1, h2⟩))
            have HS_4_1_5_3 := hid hE.size
            have HE_4_1_5_3 := hid (HE_4_1_5.out.trans hE)
            have FP_4_1_5_3 := hid (hE.block FP_4_1_5.out)
            have FQ_4_1_5_3 := hid (hE.block FQ_4_1_5.out)
            have HX_4_1_5_3 := hid (HX_4_1_5.out.ext hE)
            clear hE hT
            refine hK.out _ _ ?hS98 (fun hHeld => ?_)
            case hS98 => (exact K14.out _ HE_4_1_5_3.out)
            clear hK K
            (try simp only [Act.put, List.setIfInBounds_toArray, List.set_cons_zero, List.set_cons_succ])
            refine wpAnyM_ready (rs := [6]) (by kernel_rfl) (by simp) ?_
            refine AllReadyM.behind (o := { dst := none, op := Go.Op.store 34 (Go.Operand.tmp 12) (Go.Operand.tmp 99), type := 0, pos := "walks.go:214", after := #[{ on := 4, ground := Go.Ground.data }, { on := 1, ground := Go.Ground.data }, { on := 3, ground := Go.Ground.chain }, { on := 0, ground := Go.Ground.phase }, { on := 1, ground := Go.Ground.phase }, { on := 2, ground := Go.Ground.textOnly Go.Departure.lateStores }, { on := 3, ground := Go.Ground.textOnly Go.Departure.lateStoresUnsure }, { on := 4, ground := Go.Ground.phase }, { on := 5, ground := Go.Ground.phase }], guard := none }) rfl (by kernel_rfl) (fun K hK => ?_) AllReadyM.nil
            obtain ⟨⟨z0, z1, z2, z3, z4, z5, z6, z7, z8, z9, z10⟩, f0, f1, f2, f3, f4, f5, f6, f7, f8, f9, f10⟩ := slot11 FP_4_1_5_3.out
            go_simp
            clear z0 z1 z2 z3 z4 z5 z6 z7 z8 z9 z10
            obtain ⟨w_4_1_5_3_6, hW_4_1_5_3_6⟩ : ∃ x, x = setL w_4_1_5_3 (wd.heap.size) 0 [.int .i64 G.kind, .string G.s, .slice x2_4_1 G.keys.length x3_4_1, .slice x4_4_1 G.l.length x5_4_1, .int .i64 u1_4_1, .int .i64 u2_4_1, .float .f64 u3_4_1, .string u4_4_1, .slice u5_4_1 u6_4_1 u7_4_1, .slice u8_4_1 u9_4_1 u10_4_1, .int .i64 G.n] := ⟨_, rfl⟩
            change K _ (setL w_4_1_5_3 (wd.heap.size) 0 [.int .i64 G.kind, .string G.s, .slice x2_4_1 G.keys.length x3_4_1, .slice x4_4_1 G.l.length x5_4_1, .int .i64 u1_4_1, .int .i64 u2_4_1, .float .f64 u3_4_1, .string u4_4_1, .slice u5_4_1 u6_4_1 u7_4_1, .slice u8_4_1 u9_4_1 u10_4_1, .int .i64 G.n])
            rw [← hW_4_1_5_3_6]
            have FP_4_1_5_3_6 : Hid (w_4_1_5_3_6.heap[wd.heap.size]? = some (.cells ([.int .i64 G.kind, .string G.s, .slice x2_4_1 G.keys.length x3_4_1, .slice x4_4_1 G.l.length x5_4_1, .int .i64 u1_4_1, .int .i64 u2_4_1, .float .f64 u3_4_1, .string u4_4_1, .slice u5_4_1 u6_4_1 u7_4_1, .slice u8_4_1 u9_4_1 u10_4_1, .int .i64 G.n] : List Value).toArray 34)) := hid (by rw [hW_4_1_5_3_6]; exact setL_all FP_4_1_5_3.out _ rfl)
            have hoth : ∀ b', b' ≠ wd.heap.size → w_4_1_5_3_6.heap[b']? = w_4_1_5_3.heap[b']? := fun b' hb => by rw [hW_4_1_5_3_6]; exact setL_other hb _
            have FQ_4_1_5_3_6 := hid ((hoth (w_4_1.heap.size) (by have := HS_4.out; have := HS_4_1.out; have := HS_4_1_5.out; have := HS_4_1_5_3.out; omega)).trans FQ_4_1_5_3.out)
            have HX_4_1_5_3_6 := hid (HX_4_1_5_3.out.mono (S' := fun b => w_4.heap.size ≤ b ∧ b < w_4_1.heap.size) (fun b' o hb hob => (hoth b' (by have h1 := hb.1; have h2 := hb.2; have := HS_4.out; have := HS_4_1.out; have := HS_4_1_5.out; have := HS_4_1_5_3.out; omega)).trans hob) (fun b h _ => h))
            have HY_4_1_5_3_6 := hid (HY_4_1_5_3.out.mono (S' := fun b => w_4_1_5.heap.size ≤ b ∧ b < w_4_1_5_3.heap.size) (fun b' o hb hob => (hoth b' (by have h1 := hb.1; have h2 := hb.2; have := HS_4.out; have := HS_4_1.out; have := HS_4_1_5.out; have := HS_4_1_5_3.out; omega)).trans hob) (fun b h _ => h))
            have HE_4_1_5_3_6 := hid (show Ext wr w_4_1_5_3_6 by rw [hW_4_1_5_3_6]; exact setL_below HE_4_1_5_3.out (by have := HS_4.out; have := HS_4_1.out; have := HS_4_1_5.out; have := HS_4_1_5_3.out; have := HWD.out; omega) 0 _)
            clear hW_4_1_5_3_6 hoth
            refine hK.out _ _ ?_
            clear hK K
            (try simp only [Act.put, List.setIfInBounds_toArray, List.set_cons_zero, List.set_cons_succ])
            refine wpAnyM_ready (rs := [7]) (by kernel_rfl) (by simp) ?_
            refine AllReadyM.behind (o := { dst := none, op := Go.Op.store 34 (Go.Operand.tmp 13) (Go.Operand.tmp 101), type := 0, pos := "walks.go:214", after := #[{ on := 5, ground := Go.Ground.data }, { on := 3, ground := Go.Ground.data }, { on := 6, ground := Go.Ground.chain }, { on := 0, ground := Go.Ground.phase }, { on := 1, ground := Go.Ground.phase }, { on := 2, ground := Go.Ground.phase }, { on := 3, ground := Go.Ground.phase }, { on := 4, ground := Go.Ground.phase }, { on := 5, ground := Go.Ground.phase }, { on := 6, ground := Go.Ground.phase }], guard := none }) rfl (by kernel_rfl) (fun K hK => ?_) AllReadyM.nil
            obtain ⟨⟨z0, z1, z2, z3, z4, z5, z6, z7, z8, z9, z10⟩, f0, f1, f2, f3, f4, f5, f6, f7, f8, f9, f10⟩ := slot11 FQ_4_1_5_3_6.out
            go_simp
            clear z0 z1 z2 z3 z4 z5 z6 z7 z8 z9 z10
            obtain ⟨w_4_1_5_3_6_7, hW_4_1_5_3_6_7⟩ : ∃ x, x = setL w_4_1_5_3_6 (w_4_1.heap.size) 0 [.int .i64 G.kind, .string G.s, .slice y2_4_1_5_3 G.keys.length y3_4_1_5_3, .slice y4_4_1_5_3 G.l.length y5_4_1_5_3, .int .i64 u1_4_1_5_3, .int .i64 u2_4_1_5_3, .float .f64 u3_4_1_5_3, .string u4_4_1_5_3, .slice u5_4_1_5_3 u6_4_1_5_3 u7_4_1_5_3, .slice u8_4_1_5_3 u9_4_1_5_3 u10_4_1_5_3, .int .i64 G.n] := ⟨_, rfl⟩
            change K _ (setL w_4_1_5_3_6 (w_4_1.heap.size) 0 [.int .i64 G.kind, .string G.s, .slice y2_4_1_5_3 G.keys.length y3_4_1_5_3, .slice y4_4_1_5_3 G.l.length y5_4_1_5_3, .int .i64 u1_4_1_5_3, .int .i64 u2_4_1_5_3, .float .f64 u3_4_1_5_3, .string u4_4_1_5_3, .slice u5_4_1_5_3 u6_4_1_5_3 u7_4_1_5_3, .slice u8_4_1_5_3 u9_4_1_5_3 u10_4_1_5_3, .int .i64 G.n])
            rw [← hW_4_1_5_3_6_7]
            have FQ_4_1_5_3_6_7 : Hid (w_4_1_5_3_6_7.heap[w_4_1.heap.size]? = some (.cells ([.int .i64 G.kind, .string G.s, .slice y2_4_1_5_3 G.keys.length y3_4_1_5_3, .slice y4_4_1_5_3 G.l.length y5_4_1_5_3, .int .i64 u1_4_1_5_3, .int .i64 u2_4_1_5_3, .float .f64 u3_4_1_5_3, .string u4_4_1_5_3, .slice u5_4_1_5_3 u6_4_1_5_3 u7_4_1_5_3, .slice u8_4_1_5_3 u9_4_1_5_3 u10_4_1_5_3, .int .i64 G.n] : List Value).toArray 34)) := hid (by rw [hW_4_1_5_3_6_7]; exact setL_all FQ_4_1_5_3_6.out _ rfl)
            have hoth : ∀ b', b' ≠ w_4_1.heap.size → w_4_1_5_3_6_7.heap[b']? = w_4_1_5_3_6.heap[b']? := fun b' hb => by rw [hW_4_1_5_3_6_7]; exact setL_other hb _
            have FP_4_1_5_3_6_7 := hid ((hoth (wd.heap.size) (by have := HS_4.out; have := HS_4_1.out; have := HS_4_1_5.out; have := HS_4_1_5_3.out; omega)).trans FP_4_1_5_3_6.out)
            have HX_4_1_5_3_6_7 := hid (HX_4_1_5_3_6.out.mono (S' := fun b => w_4.heap.size ≤ b ∧ b < w_4_1.heap.size) (fun b' o hb hob => (hoth b' (by have h1 := hb.1; have h2 := hb.2; have := HS_4.out; have := HS_4_1.out; have := HS_4_1_5.out; have := HS_4_1_5_3.out; omega)).trans hob) (fun b h _ => h))
            have HY_4_1_5_3_6_7 := hid (HY_4_1_5_3_6.out.mono (S' := fun b => w_4_1_5.heap.size ≤ b ∧ b < w_4_1_5_3.heap.size) (fun b' o hb hob => (hoth b' (by have h1 := hb.1; have h2 := hb.2; have := HS_4.out; have := HS_4_1.out; have := HS_4_1_5.out; have := HS_4_1_5_3.out; omega)).trans hob) (fun b h _ => h))
            have HE_4_1_5_3_6_7 := hid (show Ext wr w_4_1_5_3_6_7 by rw [hW_4_1_5_3_6_7]; exact setL_below HE_4_1_5_3_6.out (by have := HS_4.out; have := HS_4_1.out; have := HS_4_1_5.out; have := HS_4_1_5_3.out; have := HWD.out; omega) 0 _)
            clear hW_4_1_5_3_6_7 hoth
            refine hK.out _ _ ?_
            clear hK K
            (try simp only [Act.put, List.setIfInBounds_toArray, List.set_cons_zero, List.set_cons_succ])
            refine wpAnyM_done (by kernel_rfl) ?_ _
            go_wp2_with fail
            go_meet
            case rel => exact ⟨_, _, _, _, rfl, rfl, FP_4_1_5_3_6_7, FQ_4_1_5_3_6_7, hid (HX_4_1_5_3_6_7.out.weak (fun _ _ _ => trivial)), hid (HY_4_1_5_3_6_7.out.weak (fun _ _ _ => trivial)), hid (HE4.out.trans ((show Ext w4 wr from HQ2.out.below).trans HE_4_1_5_3_6_7.out))⟩
          refine AllReadyM.cons (o := { dst := some 13, op := Go.Op.alloc 34, type := 0, pos := "walks.go:214", after := #[], guard := none }) rfl (fun K hK => ?_) AllReadyM.nil
          go_simp
          obtain ⟨w_4_5, hW_4_5⟩ : ∃ x, x = w_4.alloc (.cells #[.int .i64 0, .string ⟨#[]⟩, .slice none 0 0, .slice none 0 0, .int .i64 0, .int .i64 0, .float .f64 0, .string ⟨#[]⟩, .slice none 0 0, .slice none 0 0, .int .i64 0] 34) := ⟨_, rfl⟩
          change K _ (w_4.alloc (.cells #[.int .i64 0, .string ⟨#[]⟩, .slice none 0 0, .slice none 0 0, .int .i64 0, .int .i64 0, .float .f64 0, .string ⟨#[]⟩, .slice none 0 0, .slice none 0 0, .int .i64 0] 34))
          rw [← hW_4_5]
          have hE : Ext w_4 w_4_5 := hW_4_5 ▸ (Ext.refl w_4).alloc _
          have FQ_4_5 : Hid (w_4_5.heap[w_4.heap.size]? = some (.cells #[.int .i64 0, .string ⟨#[]⟩, .slice none 0 0, .slice none 0 0, .int .i64 0, .int .i64 0, .float .f64 0, .string ⟨#[]⟩, .slice none 0 0, .slice none 0 0, .int .i64 0] 34)) := hid (hW_4_5 ▸ heap_alloc_new w_4 _)
          have HS_4_5 := hid (show w_4_5.heap.size = w_4.heap.size + 1 by rw [hW_4_5]; simp)
          have HE_4_5 := hid (HE_4.out.trans hE)
          clear hW_4_5
          have FP_4_5 := hid (hE.block FP_4.out)
          clear hE
          refine hK.out _ _ ?hS99 (fun hHeld => ?_)
          case hS99 => (exact K14.out _ HE_4_5.out)
          clear hK K
          (try simp only [Act.put, List.setIfInBounds_toArray, List.set_cons_zero, List.set_cons_succ])
          refine wpAnyM_ready (rs := [1]) (by kernel_rfl) (by simp) ?_
          refine AllReadyM.cons (o := { dst := some 99, op := Go.Op.call { callee := Go.Callee.value (Go.Operand.func 17), args := #[Go.Operand.tmp 98], argTypes := #[34] }, type := 34, pos := "walks.go:214", after := #[{ on := 0, ground := Go.Ground.data }], guard := none }) rfl (fun K hK => ?_) AllReadyM.nil
          refine step_call _ rfl 17 [.tmp 98] #[34] rfl (by kernel_rfl) [_] rfl (HCA.out _ HE_4_5.out) ?_
          rintro en w_4_5_1 ⟨cs, rfl, hT, hE⟩
          obtain ⟨x2_4_5_1, x3_4_5_1, x4_4_5_1, x5_4_5_1, u1_4_5_1, u2_4_5_1, u3_4_5_1, u4_4_5_1, u5_4_5_1, u6_4_5_1, u7_4_5_1, u8_4_5_1, u9_4_5_1, u10_4_5_1, rfl⟩ := hT.form8
          refine ⟨_, rfl, ?_⟩
          have HX_4_5_1 := hid (hT.weak (S' := fun b => w_4_5.heap.size ≤ b ∧ b < w_4_5_1.heap.size) (fun b h1 h2 => ⟨h1, h2⟩))
          have HS_4_5_1 := hid hE.size
          have HE_4_5_1 := hid (HE_4_5.out.trans hE)
          have FP_4_5_1 := hid (hE.block FP_4_5.out)
          have FQ_4_5_1 := hid (hE.block FQ_4_5.out)
          clear hE hT
          refine hK.out _ _ ?hS100 (fun hHeld => ?_)
          case hS100 => (exact K14.out _ HE_4_5_1.out)
          clear hK K
          (try simp only [Act.put, List.setIfInBounds_toArray, List.set_cons_zero, List.set_cons_succ])
          refine wpAnyM_ready (rs := [3]) (by kernel_rfl) (by simp) ?_
          refine AllReadyM.cons (o := { dst := some 101, op := Go.Op.call { callee := Go.Callee.value (Go.Operand.func 17), args := #[Go.Operand.tmp 100], argTypes := #[34] }, type := 34, pos := "walks.go:214", after := #[{ on := 2, ground := Go.Ground.data }, { on := 1, ground := Go.Ground.chain }], guard := none }) rfl (fun K hK => ?_) AllReadyM.nil
          refine step_call _ rfl 17 [.tmp 100] #[34] rfl (by kernel_rfl) [_] rfl (HCB.out _ HE_4_5_1.out) ?_
          rintro en w_4_5_1_3 ⟨cs, rfl, hT, hE⟩
          obtain ⟨y2_4_5_1_3, y3_4_5_1_3, y4_4_5_1_3, y5_4_5_1_3, u1_4_5_1_3, u2_4_5_1_3, u3_4_5_1_3, u4_4_5_1_3, u5_4_5_1_3, u6_4_5_1_3, u7_4_5_1_3, u8_4_5_1_3, u9_4_5_1_3, u10_4_5_1_3, rfl⟩ := hT.form8
          refine ⟨_, rfl, ?_⟩
          have HY_4_5_1_3 := hid (hT.weak (S' := fun b => w_4_5_1.heap.size ≤ b ∧ b < w_4_5_1_3.heap.size) (fun b h1 h2 => ⟨h1, h2⟩))
          have HS_4_5_1_3 := hid hE.size
          have HE_4_5_1_3 := hid (HE_4_5_1.out.trans hE)
          have FP_4_5_1_3 := hid (hE.block FP_4_5_1.out)
          have FQ_4_5_1_3 := hid (hE.block FQ_4_5_1.out)
          have HX_4_5_1_3 := hid (HX_4_5_1.out.ext hE)
          clear hE hT
          refine hK.out _ _ ?hS101 (fun hHeld => ?_)
          case hS101 => (exact K14.out _ HE_4_5_1_3.out)
          clear hK K
          (try simp only [Act.put, List.setIfInBounds_toArray, List.set_cons_zero, List.set_cons_succ])
          refine wpAnyM_ready (rs := [6]) (by kernel_rfl) (by simp) ?_
          refine AllReadyM.behind (o := { dst := none, op := Go.Op.store 34 (Go.Operand.tmp 12) (Go.Operand.tmp 99), type := 0, pos := "walks.go:214", after := #[{ on := 4, ground := Go.Ground.data }, { on := 1, ground := Go.Ground.data }, { on := 3, ground := Go.Ground.chain }, { on := 0, ground := Go.Ground.phase }, { on := 1, ground := Go.Ground.phase }, { on := 2, ground := Go.Ground.textOnly Go.Departure.lateStores }, { on := 3, ground := Go.Ground.textOnly Go.Departure.lateStoresUnsure }, { on := 4, ground := Go.Ground.phase }, { on := 5, ground := Go.Ground.phase }], guard := none }) rfl (by kernel_rfl) (fun K hK => ?_) AllReadyM.nil
          obtain ⟨⟨z0, z1, z2, z3, z4, z5, z6, z7, z8, z9, z10⟩, f0, f1, f2, f3, f4, f5, f6, f7, f8, f9, f10⟩ := slot11 FP_4_5_1_3.out
          go_simp
          clear z0 z1 z2 z3 z4 z5 z6 z7 z8 z9 z10
          obtain ⟨w_4_5_1_3_6, hW_4_5_1_3_6⟩ : ∃ x, x = setL w_4_5_1_3 (wd.heap.size) 0 [.int .i64 G.kind, .string G.s, .slice x2_4_5_1 G.keys.length x3_4_5_1, .slice x4_4_5_1 G.l.length x5_4_5_1, .int .i64 u1_4_5_1, .int .i64 u2_4_5_1, .float .f64 u3_4_5_1, .string u4_4_5_1, .slice u5_4_5_1 u6_4_5_1 u7_4_5_1, .slice u8_4_5_1 u9_4_5_1 u10_4_5_1, .int .i64 G.n] := ⟨_, rfl⟩
          change K _ (setL w_4_5_1_3 (wd.heap.size) 0 [.int .i64 G.kind, .string G.s, .slice x2_4_5_1 G.keys.length x3_4_5_1, .slice x4_4_5_1 G.l.length x5_4_5_1, .int .i64 u1_4_5_1, .int .i64 u2_4_5_1, .float .f64 u3_4_5_1, .string u4_4_5_1, .slice u5_4_5_1 u6_4_5_1 u7_4_5_1, .slice u8_4_5_1 u9_4_5_1 u10_4_5_1, .int .i64 G.n])
          rw [← hW_4_5_1_3_6]
          have FP_4_5_1_3_6 : Hid (w_4_5_1_3_6.heap[wd.heap.size]? = some (.cells ([.int .i64 G.kind, .string G.s, .slice x2_4_5_1 G.keys.length x3_4_5_1, .slice x4_4_5_1 G.l.length x5_4_5_1, .int .i64 u1_4_5_1, .int .i64 u2_4_5_1, .float .f64 u3_4_5_1, .string u4_4_5_1, .slice u5_4_5_1 u6_4_5_1 u7_4_5_1, .slice u8_4_5_1 u9_4_5_1 u10_4_5_1, .int .i64 G.n] : List Value).toArray 34)) := hid (by rw [hW_4_5_1_3_6]; exact setL_all FP_4_5_1_3.out _ rfl)
          have hoth : ∀ b', b' ≠ wd.heap.size → w_4_5_1_3_6.heap[b']? = w_4_5_1_3.heap[b']? := fun b' hb => by rw [hW_4_5_1_3_6]; exact setL_other hb _
          have FQ_4_5_1_3_6 := hid ((hoth (w_4.heap.size) (by have := HS_4.out; have := HS_4_5.out; have := HS_4_5_1.out; have := HS_4_5_1_3.out; omega)).trans FQ_4_5_1_3.out)
          have HX_4_5_1_3_6 := hid (HX_4_5_1_3.out.mono (S' := fun b => w_4_5.heap.size ≤ b ∧ b < w_4_5_1.heap.size) (fun b' o hb hob => (hoth b' (by have h1 := hb.1; have h2 := hb.2; have := HS_4.out; have := HS_4_5.out; have := HS_4_5_1.out; have := HS_4_5_1_3.out; omega)).trans hob) (fun b h _ => h))
          have HY_4_5_1_3_6 := hid (HY_4_5_1_3.out.mono (S' := fun b => w_4_5_1.heap.size ≤ b ∧ b < w_4_5_1_3.heap.size) (fun b' o hb hob => (hoth b' (by have h1 := hb.1; have h2 := hb.2; have := HS_4.out; have := HS_4_5.out; have := HS_4_5_1.out; have := HS_4_5_1_3.out; omega)).trans hob) (fun b h _ => h))
          have HE_4_5_1_3_6 := hid (show Ext wr w_4_5_1_3_6 by rw [hW_4_5_1_3_6]; exact setL_below HE_4_5_1_3.out (by have := HS_4.out; have := HS_4_5.out; have := HS_4_5_1.out; have := HS_4_5_1_3.out; have := HWD.out; omega) 0 _)
          clear hW_4_5_1_3_6 hoth
          refine hK.out _ _ ?_
          clear hK K
          (try simp only [Act.put, List.setIfInBounds_toArray, List.set_cons_zero, List.set_cons_succ])
          refine wpAnyM_ready (rs := [7]) (by kernel_rfl) (by simp) ?_
          refine AllReadyM.behind (o := { dst := none, op := Go.Op.store 34 (Go.Operand.tmp 13) (Go.Operand.tmp 101), type := 0, pos := "walks.go:214", after := #[{ on := 5, ground := Go.Ground.data }, { on := 3, ground := Go.Ground.data }, { on := 6, ground := Go.Ground.chain }, { on := 0, ground := Go.Ground.phase }, { on := 1, ground := Go.Ground.phase }, { on := 2, ground := Go.Ground.phase }, { on := 3, ground := Go.Ground.phase }, { on := 4, ground := Go.Ground.phase }, { on := 5, ground := Go.Ground.phase }, { on := 6, ground := Go.Ground.phase }], guard := none }) rfl (by kernel_rfl) (fun K hK => ?_) AllReadyM.nil
          obtain ⟨⟨z0, z1, z2, z3, z4, z5, z6, z7, z8, z9, z10⟩, f0, f1, f2, f3, f4, f5, f6, f7, f8, f9, f10⟩ := slot11 FQ_4_5_1_3_6.out
          go_simp
          clear z0 z1 z2 z3 z4 z5 z6 z7 z8 z9 z10
          obtain ⟨w_4_5_1_3_6_7, hW_4_5_1_3_6_7⟩ : ∃ x, x = setL w_4_5_1_3_6 (w_4.heap.size) 0 [.int .i64 G.kind, .string G.s, .slice y2_4_5_1_3 G.keys.length y3_4_5_1_3, .slice y4_4_5_1_3 G.l.length y5_4_5_1_3, .int .i64 u1_4_5_1_3, .int .i64 u2_4_5_1_3, .float .f64 u3_4_5_1_3, .string u4_4_5_1_3, .slice u5_4_5_1_3 u6_4_5_1_3 u7_4_5_1_3, .slice u8_4_5_1_3 u9_4_5_1_3 u10_4_5_1_3, .int .i64 G.n] := ⟨_, rfl⟩
          change K _ (setL w_4_5_1_3_6 (w_4.heap.size) 0 [.int .i64 G.kind, .string G.s, .slice y2_4_5_1_3 G.keys.length y3_4_5_1_3, .slice y4_4_5_1_3 G.l.length y5_4_5_1_3, .int .i64 u1_4_5_1_3, .int .i64 u2_4_5_1_3, .float .f64 u3_4_5_1_3, .string u4_4_5_1_3, .slice u5_4_5_1_3 u6_4_5_1_3 u7_4_5_1_3, .slice u8_4_5_1_3 u9_4_5_1_3 u10_4_5_1_3, .int .i64 G.n])
          rw [← hW_4_5_1_3_6_7]
          have FQ_4_5_1_3_6_7 : Hid (w_4_5_1_3_6_7.heap[w_4.heap.size]? = some (.cells ([.int .i64 G.kind, .string G.s, .slice y2_4_5_1_3 G.keys.length y3_4_5_1_3, .slice y4_4_5_1_3 G.l.length y5_4_5_1_3, .int .i64 u1_4_5_1_3, .int .i64 u2_4_5_1_3, .float .f64 u3_4_5_1_3, .string u4_4_5_1_3, .slice u5_4_5_1_3 u6_4_5_1_3 u7_4_5_1_3, .slice u8_4_5_1_3 u9_4_5_1_3 u10_4_5_1_3, .int .i64 G.n] : List Value).toArray 34)) := hid (by rw [hW_4_5_1_3_6_7]; exact setL_all FQ_4_5_1_3_6.out _ rfl)
          have hoth : ∀ b', b' ≠ w_4.heap.size → w_4_5_1_3_6_7.heap[b']? = w_4_5_1_3_6.heap[b']? := fun b' hb => by rw [hW_4_5_1_3_6_7]; exact setL_other hb _
          have FP_4_5_1_3_6_7 := hid ((hoth (wd.heap.size) (by have := HS_4.out; have := HS_4_5.out; have := HS_4_5_1.out; have := HS_4_5_1_3.out; omega)).trans FP_4_5_1_3_6.out)
          have HX_4_5_1_3_6_7 := hid (HX_4_5_1_3_6.out.mono (S' := fun b => w_4_5.heap.size ≤ b ∧ b < w_4_5_1.heap.size) (fun b' o hb hob => (hoth b' (by have h1 := hb.1; have h2 := hb.2; have := HS_4.out; have := HS_4_5.out; have := HS_4_5_1.out; have := HS_4_5_1_3.out; omega)).trans hob) (fun b h _ => h))
          have HY_4_5_1_3_6_7 := hid (HY_4_5_1_3_6.out.mono (S' := fun b => w_4_5_1.heap.size ≤ b ∧ b < w_4_5_1_3.heap.size) (fun b' o hb hob => (hoth b' (by have h1 := hb.1; have h2 := hb.2; have := HS_4.out; have := HS_4_5.out; have := HS_4_5_1.out; have := HS_4_5_1_3.out; omega)).trans hob) (fun b h _ => h))
          have HE_4_5_1_3_6_7 := hid (show Ext wr w_4_5_1_3_6_7 by rw [hW_4_5_1_3_6_7]; exact setL_below HE_4_5_1_3_6.out (by have := HS_4.out; have := HS_4_5.out; have := HS_4_5_1.out; have := HS_4_5_1_3.out; have := HWD.out; omega) 0 _)
          clear hW_4_5_1_3_6_7 hoth
          refine hK.out _ _ ?_
          clear hK K
          (try simp only [Act.put, List.setIfInBounds_toArray, List.set_cons_zero, List.set_cons_succ])
          refine wpAnyM_done (by kernel_rfl) ?_ _
          go_wp2_with fail
          go_meet
          case rel => exact ⟨_, _, _, _, rfl, rfl, FP_4_5_1_3_6_7, FQ_4_5_1_3_6_7, hid (HX_4_5_1_3_6_7.out.weak (fun _ _ _ => trivial)), hid (HY_4_5_1_3_6_7.out.weak (fun _ _ _ => trivial)), hid (HE4.out.trans ((show Ext w4 wr from HQ2.out.below).trans HE_4_5_1_3_6_7.out))⟩
        refine AllReadyM.cons (o := { dst := some 13, op := Go.Op.alloc 34, type := 0, pos := "walks.go:214", after := #[], guard := none }) rfl (fun K hK => ?_) AllReadyM.nil
        go_simp
        obtain ⟨w_5, hW_5⟩ : ∃ x, x = wd.alloc (.cells #[.int .i64 0, .string ⟨#[]⟩, .slice none 0 0, .slice none 0 0, .int .i64 0, .int .i64 0, .float .f64 0, .string ⟨#[]⟩, .slice none 0 0, .slice none 0 0, .int .i64 0] 34) := ⟨_, rfl⟩
        change K _ (wd.alloc (.cells #[.int .i64 0, .string ⟨#[]⟩, .slice none 0 0, .slice none 0 0, .int .i64 0, .int .i64 0, .float .f64 0, .string ⟨#[]⟩, .slice none 0 0, .slice none 0 0, .int .i64 0] 34))
        rw [← hW_5]
        have hE : Ext wd w_5 := hW_5 ▸ (Ext.refl wd).alloc _
        have FQ_5 : Hid (w_5.heap[wd.heap.size]? = some (.cells #[.int .i64 0, .string ⟨#[]⟩, .slice none 0 0, .slice none 0 0, .int .i64 0, .int .i64 0, .float .f64 0, .string ⟨#[]⟩, .slice none 0 0, .slice none 0 0, .int .i64 0] 34)) := hid (hW_5 ▸ heap_alloc_new wd _)
        have HS_5 := hid (show w_5.heap.size = wd.heap.size + 1 by rw [hW_5]; simp)
        have HE_5 := hid (HE_.out.trans hE)
        clear hW_5
        clear hE
        refine hK.out _ _ ?hS102 (fun hHeld => ?_)
        case hS102 => (exact K14.out _ HE_5.out)
        clear hK K
        (try simp only [Act.put, List.setIfInBounds_toArray, List.set_cons_zero, List.set_cons_succ])
        refine wpAnyM_ready (rs := [1, 4]) (by kernel_rfl) (by simp) ?_
        refine AllReadyM.cons (o := { dst := some 99, op := Go.Op.call { callee := Go.Callee.value (Go.Operand.func 17), args := #[Go.Operand.tmp 98], argTypes := #[34] }, type := 34, pos := "walks.go:214", after := #[{ on := 0, ground := Go.Ground.data }], guard := none }) rfl (fun K hK => ?_) ?more103
        · have tkn : True := trivial
          refine step_call _ rfl 17 [.tmp 98] #[34] rfl (by kernel_rfl) [_] rfl (HCA.out _ HE_5.out) ?_
          rintro en w_5_1 ⟨cs, rfl, hT, hE⟩
          obtain ⟨x2_5_1, x3_5_1, x4_5_1, x5_5_1, u1_5_1, u2_5_1, u3_5_1, u4_5_1, u5_5_1, u6_5_1, u7_5_1, u8_5_1, u9_5_1, u10_5_1, rfl⟩ := hT.form8
          refine ⟨_, rfl, ?_⟩
          have HX_5_1 := hid (hT.weak (S' := fun b => w_5.heap.size ≤ b ∧ b < w_5_1.heap.size) (fun b h1 h2 => ⟨h1, h2⟩))
          have HS_5_1 := hid hE.size
          have HE_5_1 := hid (HE_5.out.trans hE)
          have FQ_5_1 := hid (hE.block FQ_5.out)
          clear hE hT
          refine hK.out _ _ ?hS104 (fun hHeld => ?_)
          case hS104 => (exact K14.out _ HE_5_1.out)
          clear hK K
          (try simp only [Act.put, List.setIfInBounds_toArray, List.set_cons_zero, List.set_cons_succ])
          refine wpAnyM_ready (rs := [3, 4]) (by kernel_rfl) (by simp) ?_
          refine AllReadyM.cons (o := { dst := some 101, op := Go.Op.call { callee := Go.Callee.value (Go.Operand.func 17), args := #[Go.Operand.tmp 100], argTypes := #[34] }, type := 34, pos := "walks.go:214", after := #[{ on := 2, ground := Go.Ground.data }, { on := 1, ground := Go.Ground.chain }], guard := none }) rfl (fun K hK => ?_) ?more105
          · have tkn : True := trivial
            refine step_call _ rfl 17 [.tmp 100] #[34] rfl (by kernel_rfl) [_] rfl (HCB.out _ HE_5_1.out) ?_
            rintro en w_5_1_3 ⟨cs, rfl, hT, hE⟩
            obtain ⟨y2_5_1_3, y3_5_1_3, y4_5_1_3, y5_5_1_3, u1_5_1_3, u2_5_1_3, u3_5_1_3, u4_5_1_3, u5_5_1_3, u6_5_1_3, u7_5_1_3, u8_5_1_3, u9_5_1_3, u10_5_1_3, rfl⟩ := hT.form8
            refine ⟨_, rfl, ?_⟩
            have HY_5_1_3 := hid (hT.weak (S' := fun b => w_5_1.heap.size ≤ b ∧ b < w_5_1_3.heap.size) (fun b h1 h2 => ⟨h1, h2⟩))
            have HS_5_1_3 := hid hE.size
            have HE_5_1_3 := hid (HE_5_1.out.trans hE)
            have FQ_5_1_3 := hid (hE.block FQ_5_1.out)
            have HX_5_1_3 := hid (HX_5_1.out.ext hE)
            clear hE hT
            refine hK.out _ _ ?hS106 (fun hHeld => ?_)
            case hS106 => (exact K14.out _ HE_5_1_3.out)
            clear hK K
            (try simp only [Act.put, List.setIfInBounds_toArray, List.set_cons_zero, List.set_cons_succ])
            refine wpAnyM_ready (rs := [4]) (by kernel_rfl) (by simp) ?_
            refine AllReadyM.cons (o := { dst := some 12, op := Go.Op.alloc 34, type := 0, pos := "walks.go:214", after := #[], guard := none }) rfl (fun K hK => ?_) AllReadyM.nil
            go_simp
            obtain ⟨w_5_1_3_4, hW_5_1_3_4⟩ : ∃ x, x = w_5_1_3.alloc (.cells #[.int .i64 0, .string ⟨#[]⟩, .slice none 0 0, .slice none 0 0, .int .i64 0, .int .i64 0, .float .f64 0, .string ⟨#[]⟩, .slice none 0 0, .slice none 0 0, .int .i64 0] 34) := ⟨_, rfl⟩
            change K _ (w_5_1_3.alloc (.cells #[.int .i64 0, .string ⟨#[]⟩, .slice none 0 0, .slice none 0 0, .int .i64 0, .int .i64 0, .float .f64 0, .string ⟨#[]⟩, .slice none 0 0, .slice none 0 0, .int .i64 0] 34))
            rw [← hW_5_1_3_4]
            have hE : Ext w_5_1_3 w_5_1_3_4 := hW_5_1_3_4 ▸ (Ext.refl w_5_1_3).alloc _
            have FP_5_1_3_4 : Hid (w_5_1_3_4.heap[w_5_1_3.heap.size]? = some (.cells #[.int .i64 0, .string ⟨#[]⟩, .slice none 0 0, .slice none 0 0, .int .i64 0, .int .i64 0, .float .f64 0, .string ⟨#[]⟩, .slice none 0 0, .slice none 0 0, .int .i64 0] 34)) := hid (hW_5_1_3_4 ▸ heap_alloc_new w_5_1_3 _)
            have HS_5_1_3_4 := hid (show w_5_1_3_4.heap.size = w_5_1_3.heap.size + 1 by rw [hW_5_1_3_4]; simp)
            have HE_5_1_3_4 := hid (HE_5_1_3.out.trans hE)
            clear hW_5_1_3_4
            have FQ_5_1_3_4 := hid (hE.block FQ_5_1_3.out)
            have HX_5_1_3_4 := hid (HX_5_1_3.out.ext hE)
            have HY_5_1_3_4 := hid (HY_5_1_3.out.ext hE)
            clear hE
            refine hK.out _ _ ?hS107 (fun hHeld => ?_)
            case hS107 => (exact K14.out _ HE_5_1_3_4.out)
            clear hK K
            (try simp only [Act.put, List.setIfInBounds_toArray, List.set_cons_zero, List.set_cons_succ])
            refine wpAnyM_ready (rs := [6]) (by kernel_rfl) (by simp) ?_
            refine AllReadyM.behind (o := { dst := none, op := Go.Op.store 34 (Go.Operand.tmp 12) (Go.Operand.tmp 99), type := 0, pos := "walks.go:214", after := #[{ on := 4, ground := Go.Ground.data }, { on := 1, ground := Go.Ground.data }, { on := 3, ground := Go.Ground.chain }, { on := 0, ground := Go.Ground.phase }, { on := 1, ground := Go.Ground.phase }, { on := 2, ground := Go.Ground.textOnly Go.Departure.lateStores }, { on := 3, ground := Go.Ground.textOnly Go.Departure.lateStoresUnsure }, { on := 4, ground := Go.Ground.phase }, { on := 5, ground := Go.Ground.phase }], guard := none }) rfl (by kernel_rfl) (fun K hK => ?_) AllReadyM.nil
            obtain ⟨⟨z0, z1, z2, z3, z4, z5, z6, z7, z8, z9, z10⟩, f0, f1, f2, f3, f4, f5, f6, f7, f8, f9, f10⟩ := slot11 FP_5_1_3_4.out
            go_simp
            clear z0 z1 z2 z3 z4 z5 z6 z7 z8 z9 z10
            obtain ⟨w_5_1_3_4_6, hW_5_1_3_4_6⟩ : ∃ x, x = setL w_5_1_3_4 (w_5_1_3.heap.size) 0 [.int .i64 G.kind, .string G.s, .slice x2_5_1 G.keys.length x3_5_1, .slice x4_5_1 G.l.length x5_5_1, .int .i64 u1_5_1, .int .i64 u2_5_1, .float .f64 u3_5_1, .string u4_5_1, .slice u5_5_1 u6_5_1 u7_5_1, .slice u8_5_1 u9_5_1 u10_5_1, .int .i64 G.n] := ⟨_, rfl⟩
            change K _ (setL w_5_1_3_4 (w_5_1_3.heap.size) 0 [.int .i64 G.kind, .string G.s, .slice x2_5_1 G.keys.length x3_5_1, .slice x4_5_1 G.l.length x5_5_1, .int .i64 u1_5_1, .int .i64 u2_5_1, .float .f64 u3_5_1, .string u4_5_1, .slice u5_5_1 u6_5_1 u7_5_1, .slice u8_5_1 u9_5_1 u10_5_1, .int .i64 G.n])
            rw [← hW_5_1_3_4_6]
            have FP_5_1_3_4_6 : Hid (w_5_1_3_4_6.heap[w_5_1_3.heap.size]? = some (.cells ([.int .i64 G.kind, .string G.s, .slice x2_5_1 G.keys.length x3_5_1, .slice x4_5_1 G.l.length x5_5_1, .int .i64 u1_5_1, .int .i64 u2_5_1, .float .f64 u3_5_1, .string u4_5_1, .slice u5_5_1 u6_5_1 u7_5_1, .slice u8_5_1 u9_5_1 u10_5_1, .int .i64 G.n] : List Value).toArray 34)) := hid (by rw [hW_5_1_3_4_6]; exact setL_all FP_5_1_3_4.out _ rfl)
            have hoth : ∀ b', b' ≠ w_5_1_3.heap.size → w_5_1_3_4_6.heap[b']? = w_5_1_3_4.heap[b']? := fun b' hb => by rw [hW_5_1_3_4_6]; exact setL_other hb _
            have FQ_5_1_3_4_6 := hid ((hoth (wd.heap.size) (by have := HS_5.out; have := HS_5_1.out; have := HS_5_1_3.out; have := HS_5_1_3_4.out; omega)).trans FQ_5_1_3_4.out)
            have HX_5_1_3_4_6 := hid (HX_5_1_3_4.out.mono (S' := fun b => w_5.heap.size ≤ b ∧ b < w_5_1.heap.size) (fun b' o hb hob => (hoth b' (by have h1 := hb.1; have h2 := hb.2; have := HS_5.out; have := HS_5_1.out; have := HS_5_1_3.out; have := HS_5_1_3_4.out; omega)).trans hob) (fun b h _ => h))
            have HY_5_1_3_4_6 := hid (HY_5_1_3_4.out.mono (S' := fun b => w_5_1.heap.size ≤ b ∧ b < w_5_1_3.heap.size) (fun b' o hb hob => (hoth b' (by have h1 := hb.1; have h2 := hb.2; have := HS_5.out; have := HS_5_1.out; have := HS_5_1_3.out; have := HS_5_1_3_4.out; omega)).trans hob) (fun b h _ => h))
            have HE_5_1_3_4_6 := hid (show Ext wr w_5_1_3_4_6 by rw [hW_5_1_3_4_6]; exact setL_below HE_5_1_3_4.out (by have := HS_5.out; have := HS_5_1.out; have := HS_5_1_3.out; have := HS_5_1_3_4.out; have := HWD.out; omega) 0 _)
            clear hW_5_1_3_4_6 hoth
            refine hK.out _ _ ?_
            clear hK K
            (try simp only [Act.put, List.setIfInBounds_toArray, List.set_cons_zero, List.set_cons_succ])
            refine wpAnyM_ready (rs := [7]) (by kernel_rfl) (by simp) ?_
            refine AllReadyM.behind (o := { dst := none, op := Go.Op.store 34 (Go.Operand.tmp 13) (Go.Operand.tmp 101), type := 0, pos := "walks.go:214", after := #[{ on := 5, ground := Go.Ground.data }, { on := 3, ground := Go.Ground.data }, { on := 6, ground := Go.Ground.chain }, { on := 0, ground := Go.Ground.phase }, { on := 1, ground := Go.Ground.phase }, { on := 2, ground := Go.Ground.phase }, { on := 3, ground := Go.Ground.phase }, { on := 4, ground := Go.Ground.phase }, { on := 5, ground := Go.Ground.phase }, { on := 6, ground := Go.Ground.phase }], guard := none }) rfl (by kernel_rfl) (fun K hK => ?_) AllReadyM.nil
            obtain ⟨⟨z0, z1, z2, z3, z4, z5, z6, z7, z8, z9, z10⟩, f0, f1, f2, f3, f4, f5, f6, f7, f8, f9, f10⟩ := slot11 FQ_5_1_3_4_6.out
            go_simp
            clear z0 z1 z2 z3 z4 z5 z6 z7 z8 z9 z10
            obtain ⟨w_5_1_3_4_6_7, hW_5_1_3_4_6_7⟩ : ∃ x, x = setL w_5_1_3_4_6 (wd.heap.size) 0 [.int .i64 G.kind, .string G.s, .slice y2_5_1_3 G.keys.length y3_5_1_3, .slice y4_5_1_3 G.l.length y5_5_1_3, .int .i64 u1_5_1_3, .int .i64 u2_5_1_3, .float .f64 u3_5_1_3, .string u4_5_1_3, .slice u5_5_1_3 u6_5_1_3 u7_5_1_3, .slice u8_5_1_3 u9_5_1_3 u10_5_1_3, .int .i64 G.n] := ⟨_, rfl⟩
            change K _ (setL w_5_1_3_4_6 (wd.heap.size) 0 [.int .i64 G.kind, .string G.s, .slice y2_5_1_3 G.keys.length y3_5_1_3, .slice y4_5_1_3 G.l.length y5_5_1_3, .int .i64 u1_5_1_3, .int .i64 u2_5_1_3, .float .f64 u3_5_1_3, .string u4_5_1_3, .slice u5_5_1_3 u6_5_1_3 u7_5_1_3, .slice u8_5_1_3 u9_5_1_3 u10_5_1_3, .int .i64 G.n])
            rw [← hW_5_1_3_4_6_7]
            have FQ_5_1_3_4_6_7 : Hid (w_5_1_3_4_6_7.heap[wd.heap.size]? = some (.cells ([.int .i64 G.kind, .string G.s, .slice y2_5_1_3 G.keys.length y3_5_1_3, .slice y4_5_1_3 G.l.length y5_5_1_3, .int .i64 u1_5_1_3, .int .i64 u2_5_1_3, .float .f64 u3_5_1_3, .string u4_5_1_3, .slice u5_5_1_3 u6_5_1_3 u7_5_1_3, .slice u8_5_1_3 u9_5_1_3 u10_5_1_3, .int .i64 G.n] : List Value).toArray 34)) := hid (by rw [hW_5_1_3_4_6_7]; exact setL_all FQ_5_1_3_4_6.out _ rfl)
            have hoth : ∀ b', b' ≠ wd.heap.size → w_5_1_3_4_6_7.heap[b']? = w_5_1_3_4_6.heap[b']? := fun b' hb => by rw [hW_5_1_3_4_6_7]; exact setL_other hb _
            have FP_5_1_3_4_6_7 := hid ((hoth (w_5_1_3.heap.size) (by have := HS_5.out; have := HS_5_1.out; have := HS_5_1_3.out; have := HS_5_1_3_4.out; omega)).trans FP_5_1_3_4_6.out)
            have HX_5_1_3_4_6_7 := hid (HX_5_1_3_4_6.out.mono (S' := fun b => w_5.heap.size ≤ b ∧ b < w_5_1.heap.size) (fun b' o hb hob => (hoth b' (by have h1 := hb.1; have h2 := hb.2; have := HS_5.out; have := HS_5_1.out; have := HS_5_1_3.out; have := HS_5_1_3_4.out; omega)).trans hob) (fun b h _ => h))
            have HY_5_1_3_4_6_7 := hid (HY_5_1_3_4_6.out.mono (S' := fun b => w_5_1.heap.size ≤ b ∧ b < w_5_1_3.heap.size) (fun b' o hb hob => (hoth b' (by have h1 := hb.1; have h2 := hb.2; have := HS_5.out; have := HS_5_1.out; have := HS_5_1_3.out; have := HS_5_1_3_4.out; omega)).trans hob) (fun b h _ => h))
            have HE_5_1_3_4_6_7 := hid (show Ext wr w_5_1_3_4_6_7 by rw [hW_5_1_3_4_6_7]; exact setL_below HE_5_1_3_4_6.out (by have := HS_5.out; have := HS_5_1.out; have := HS_5_1_3.out; have := HS_5_1_3_4.out; have := HWD.out; omega) 0 _)
            clear hW_5_1_3_4_6_7 hoth
            refine hK.out _ _ ?_
            clear hK K
            (try simp only [Act.put, List.setIfInBounds_toArray, List.set_cons_zero, List.set_cons_succ])
            refine wpAnyM_done (by kernel_rfl) ?_ _
            go_wp2_with fail
            go_meet
            case rel => exact ⟨_, _, _, _, rfl, rfl, FP_5_1_3_4_6_7, FQ_5_1_3_4_6_7, hid (HX_5_1_3_4_6_7.out.weak (fun _ _ _ => trivial)), hid (HY_5_1_3_4_6_7.out.weak (fun _ _ _ => trivial)), hid (HE4.out.trans ((show Ext w4 wr from HQ2.out.below).trans HE_5_1_3_4_6_7.out))⟩
          refine AllReadyM.cons (o := { dst := some 12, op := Go.Op.alloc 34, type := 0, pos := "walks.go:214", after := #[], guard := none }) rfl (fun K hK => ?_) AllReadyM.nil
          go_simp
          obtain ⟨w_5_1_4, hW_5_1_4⟩ : ∃ x, x = w_5_1.alloc (.cells #[.int .i64 0, .string ⟨#[]⟩, .slice none 0 0, .slice none 0 0, .int .i64 0, .int .i64 0, .float .f64 0, .string ⟨#[]⟩, .slice none 0 0, .slice none 0 0, .int .i64 0] 34) := ⟨_, rfl⟩
          change K _ (w_5_1.alloc (.cells #[.int .i64 0, .string ⟨#[]⟩, .slice none 0 0, .slice none 0 0, .int .i64 0, .int .i64 0, .float .f64 0, .string ⟨#[]⟩, .slice none 0 0, .slice none 0 0, .int .i64 0] 34))
          rw [← hW_5_1_4]
          have hE : Ext w_5_1 w_5_1_4 := hW_5_1_4 ▸ (Ext.refl w_5_1).alloc _
          have FP_5_1_4 : Hid (w_5_1_4.heap[w_5_1.heap.size]? = some (.cells #[.int .i64 0, .string ⟨#[]⟩, .slice none 0 0, .slice none 0 0, .int .i64 0, .int .i64 0, .float .f64 0, .string ⟨#[]⟩, .slice none 0 0, .slice none 0 0, .int .i64 0] 34)) := hid (hW_5_1_4 ▸ heap_alloc_new w_5_1 _)
          have HS_5_1_4 := hid (show w_5_1_4.heap.size = w_5_1.heap.size + 1 by rw [hW_5_1_4]; simp)
          have HE_5_1_4 := hid (HE_5_1.out.trans hE)
          clear hW_5_1_4
          have FQ_5_1_4 := hid (hE.block FQ_5_1.out)
          have HX_5_1_4 := hid (HX_5_1.out.ext hE)
          clear hE
          refine hK.out _ _ ?hS108 (fun hHeld => ?_)
          case hS108 => (exact K14.out _ HE_5_1_4.out)
          clear hK K
          (try simp only [Act.put, List.setIfInBounds_toArray, List.set_cons_zero, List.set_cons_succ])
          refine wpAnyM_ready (rs := [3]) (by kernel_rfl) (by simp) ?_
          refine AllReadyM.cons (o := { dst := some 101, op := Go.Op.call { callee := Go.Callee.value (Go.Operand.func 17), args := #[Go.Operand.tmp 100], argTypes := #[34] }, type := 34, pos := "walks.go:214", after := #[{ on := 2, ground := Go.Ground.data }, { on := 1, ground := Go.Ground.chain }], guard := none }) rfl (fun K hK => ?_) AllReadyM.nil
          refine step_call _ rfl 17 [.tmp 100] #[34] rfl (by kernel_rfl) [_] rfl (HCB.out _ HE_5_1_4.out) ?_
          rintro en w_5_1_4_3 ⟨cs, rfl, hT, hE⟩
          obtain ⟨y2_5_1_4_3, y3_5_1_4_3, y4_5_1_4_3, y5_5_1_4_3, u1_5_1_4_3, u2_5_1_4_3, u3_5_1_4_3, u4_5_1_4_3, u5_5_1_4_3, u6_5_1_4_3, u7_5_1_4_3, u8_5_1_4_3, u9_5_1_4_3, u10_5_1_4_3, rfl⟩ := hT.form8
          refine ⟨_, rfl, ?_⟩
          have HY_5_1_4_3 := hid (hT.weak (S' := fun b => w_5_1_4.heap.size ≤ b ∧ b < w_5_1_4_3.heap.size) (fun b h1 h2 => ⟨h1, h2⟩))
          have HS_5_1_4_3 := hid hE.size
          have HE_5_1_4_3 := hid (HE_5_1_4.out.trans hE)
          have FP_5_1_4_3 := hid (hE.block FP_5_1_4.out)
          have FQ_5_1_4_3 := hid (hE.block FQ_5_1_4.out)
          have HX_5_1_4_3 := hid (HX_5_1_4.out.ext hE)
          clear hE hT
          refine hK.out _ _ ?hS109 (fun hHeld => ?_)
          case hS109 => (exact K14.out _ HE_5_1_4_3.out)
          clear hK K
          (try simp only [Act.put, List.setIfInBounds_toArray, List.set_cons_zero, List.set_cons_succ])
          refine wpAnyM_ready (rs := [6]) (by kernel_rfl) (by simp) ?_
          refine AllReadyM.behind (o := { dst := none, op := Go.Op.store 34 (Go.Operand.tmp 12) (Go.Operand.tmp 99), type := 0, pos := "walks.go:214", after := #[{ on := 4, ground := Go.Ground.data }, { on := 1, ground := Go.Ground.data }, { on := 3, ground := Go.Ground.chain }, { on := 0, ground := Go.Ground.phase }, { on := 1, ground := Go.Ground.phase }, { on := 2, ground := Go.Ground.textOnly Go.Departure.lateStores }, { on := 3, ground := Go.Ground.textOnly Go.Departure.lateStoresUnsure }, { on := 4, ground := Go.Ground.phase }, { on := 5, ground := Go.Ground.phase }], guard := none }) rfl (by kernel_rfl) (fun K hK => ?_) AllReadyM.nil
          obtain ⟨⟨z0, z1, z2, z3, z4, z5, z6, z7, z8, z9, z10⟩, f0, f1, f2, f3, f4, f5, f6, f7, f8, f9, f10⟩ := slot11 FP_5_1_4_3.out
          go_simp
          clear z0 z1 z2 z3 z4 z5 z6 z7 z8 z9 z10
          obtain ⟨w_5_1_4_3_6, hW_5_1_4_3_6⟩ : ∃ x, x = setL w_5_1_4_3 (w_5_1.heap.size) 0 [.int .i64 G.kind, .string G.s, .slice x2_5_1 G.keys.length x3_5_1, .slice x4_5_1 G.l.length x5_5_1, .int .i64 u1_5_1, .int .i64 u2_5_1, .float .f64 u3_5_1, .string u4_5_1, .slice u5_5_1 u6_5_1 u7_5_1, .slice u8_5_1 u9_5_1 u10_5_1, .int .i64 G.n] := ⟨_, rfl⟩
          change K _ (setL w_5_1_4_3 (w_5_1.heap.size) 0 [.int .i64 G.kind, .string G.s, .slice x2_5_1 G.keys.length x3_5_1, .slice x4_5_1 G.l.length x5_5_1, .int .i64 u1_5_1, .int .i64 u2_5_1, .float .f64 u3_5_1, .string u4_5_1, .slice u5_5_1 u6_5_1 u7_5_1, .slice u8_5_1 u9_5_1 u10_5_1, .int .i64 G.n])
          rw [← hW_5_1_4_3_6]
          have FP_5_1_4_3_6 : Hid (w_5_1_4_3_6.heap[w_5_1.heap.size]? = some (.cells ([.int .i64 G.kind, .string G.s, .slice x2_5_1 G.keys.length x3_5_1, .slice x4_5_1 G.l.length x5_5_1, .int .i64 u1_5_1, .int .i64 u2_5_1, .float .f64 u3_5_1, .string u4_5_1, .slice u5_5_1 u6_5_1 u7_5_1, .slice u8_5_1 u9_5_1 u10_5_1, .int .i64 G.n] : List Value).toArray 34)) := hid (by rw [hW_5_1_4_3_6]; exact setL_all FP_5_1_4_3.out _ rfl)
          have hoth : ∀ b', b' ≠ w_5_1.heap.size → w_5_1_4_3_6.heap[b']? = w_5_1_4_3.heap[b']? := fun b' hb => by rw [hW_5_1_4_3_6]; exact setL_other hb _
          have FQ_5_1_4_3_6 := hid ((hoth (wd.heap.size) (by have := HS_5.out; have := HS_5_1.out; have := HS_5_1_4.out; have := HS_5_1_4_3.out; omega)).trans FQ_5_1_4_3.out)
          have HX_5_1_4_3_6 := hid (HX_5_1_4_3.out.mono (S' := fun b => w_5.heap.size ≤ b ∧ b < w_5_1.heap.size) (fun b' o hb hob => (hoth b' (by have h1 := hb.1; have h2 := hb.2; have := HS_5.out; have := HS_5_1.out; have := HS_5_1_4.out; have := HS_5_1_4_3.out; omega)).trans hob) (fun b h _ => h))
          have HY_5_1_4_3_6 := hid (HY_5_1_4_3.out.mono (S' := fun b => w_5_1_4.heap.size ≤ b ∧ b < w_5_1_4_3.heap.size) (fun b' o hb hob => (hoth b' (by have h1 := hb.1; have h2 := hb.2; have := HS_5.out; have := HS_5_1.out; have := HS_5_1_4.out; have := HS_5_1_4_3.out; omega)).trans hob) (fun b h _ => h))
          have HE_5_1_4_3_6 := hid (show Ext wr w_5_1_4_3_6 by rw [hW_5_1_4_3_6]; exact setL_below HE_5_1_4_3.out (by have := HS_5.out; have := HS_5_1.out; have := HS_5_1_4.out; have := HS_5_1_4_3.out; have := HWD.out; omega) 0 _)
          clear hW_5_1_4_3_6 hoth
          refine hK.out _ _ ?_
          clear hK K
          (try simp only [Act.put, List.setIfInBounds_toArray, List.set_cons_zero, List.set_cons_succ])
          refine wpAnyM_ready (rs := [7]) (by kernel_rfl) (by simp) ?_
          refine AllReadyM.behind (o := { dst := none, op := Go.Op.store 34 (Go.Operand.tmp 13) (Go.Operand.tmp 101), type := 0, pos := "walks.go:214", after := #[{ on := 5, ground := Go.Ground.data }, { on := 3, ground := Go.Ground.data }, { on := 6, ground := Go.Ground.chain }, { on := 0, ground := Go.Ground.phase }, { on := 1, ground := Go.Ground.phase }, { on := 2, ground := Go.Ground.phase }, { on := 3, ground := Go.Ground.phase }, { on := 4, ground := Go.Ground.phase }, { on := 5, ground := Go.Ground.phase }, { on := 6, ground := Go.Ground.phase }], guard := none }) rfl (by kernel_rfl) (fun K hK => ?_) AllReadyM.nil
          obtain ⟨⟨z0, z1, z2, z3, z4, z5, z6, z7, z8, z9, z10⟩, f0, f1, f2, f3, f4, f5, f6, f7, f8, f9, f10⟩ := slot11 FQ_5_1_4_3_6.out
          go_simp
          clear z0 z1 z2 z3 z4 z5 z6 z7 z8 z9 z10
          obtain ⟨w_5_1_4_3_6_7, hW_5_1_4_3_6_7⟩ : ∃ x, x = setL w_5_1_4_3_6 (wd.heap.size) 0 [.int .i64 G.kind, .string G.s, .slice y2_5_1_4_3 G.keys.length y3_5_1_4_3, .slice y4_5_1_4_3 G.l.length y5_5_1_4_3, .int .i64 u1_5_1_4_3, .int .i64 u2_5_1_4_3, .float .f64 u3_5_1_4_3, .string u4_5_1_4_3, .slice u5_5_1_4_3 u6_5_1_4_3 u7_5_1_4_3, .slice u8_5_1_4_3 u9_5_1_4_3 u10_5_1_4_3, .int .i64 G.n] := ⟨_, rfl⟩
          change K _ (setL w_5_1_4_3_6 (wd.heap.size) 0 [.int .i64 G.kind, .string G.s, .slice y2_5_1_4_3 G.keys.length y3_5_1_4_3, .slice y4_5_1_4_3 G.l.length y5_5_1_4_3, .int .i64 u1_5_1_4_3, .int .i64 u2_5_1_4_3, .float .f64 u3_5_1_4_3, .string u4_5_1_4_3, .slice u5_5_1_4_3 u6_5_1_4_3 u7_5_1_4_3, .slice u8_5_1_4_3 u9_5_1_4_3 u10_5_1_4_3, .int .i64 G.n])
          rw [← hW_5_1_4_3_6_7]
          have FQ_5_1_4_3_6_7 : Hid (w_5_1_4_3_6_7.heap[wd.heap.size]? = some (.cells ([.int .i64 G.kind, .string G.s, .slice y2_5_1_4_3 G.keys.length y3_5_1_4_3, .slice y4_5_1_4_3 G.l.length y5_5_1_4_3, .int .i64 u1_5_1_4_3, .int .i64 u2_5_1_4_3, .float .f64 u3_5_1_4_3, .string u4_5_1_4_3, .slice u5_5_1_4_3 u6_5_1_4_3 u7_5_1_4_3, .slice u8_5_1_4_3 u9_5_1_4_3 u10_5_1_4_3, .int .i64 G.n] : List Value).toArray 34)) := hid (by rw [hW_5_1_4_3_6_7]; exact setL_all FQ_5_1_4_3_6.out _ rfl)
          have hoth : ∀ b', b' ≠ wd.heap.size → w_5_1_4_3_6_7.heap[b']? = w_5_1_4_3_6.heap[b']? := fun b' hb => by rw [hW_5_1_4_3_6_7]; exact setL_other hb _
          have FP_5_1_4_3_6_7 := hid ((hoth (w_5_1.heap.size) (by have := HS_5.out; have := HS_5_1.out; have := HS_5_1_4.out; have := HS_5_1_4_3.out; omega)).trans FP_5_1_4_3_6.out)
          have HX_5_1_4_3_6_7 := hid (HX_5_1_4_3_6.out.mono (S' := fun b => w_5.heap.size ≤ b ∧ b < w_5_1.heap.size) (fun b' o hb hob => (hoth b' (by have h1 := hb.1; have h2 := hb.2; have := HS_5.out; have := HS_5_1.out; have := HS_5_1_4.out; have := HS_5_1_4_3.out; omega)).trans hob) (fun b h _ => h))
          have HY_5_1_4_3_6_7 := hid (HY_5_1_4_3_6.out.mono (S' := fun b => w_5_1_4.heap.size ≤ b ∧ b < w_5_1_4_3.heap.size) (fun b' o hb hob => (hoth b' (by have h1 := hb.1; have h2 := hb.2; have := HS_5.out; have := HS_5_1.out; have := HS_5_1_4.out; have := HS_5_1_4_3.out; omega)).trans hob) (fun b h _ => h))
          have HE_5_1_4_3_6_7 := hid (show Ext wr w_5_1_4_3_6_7 by rw [hW_5_1_4_3_6_7]; exact setL_below HE_5_1_4_3_6.out (by have := HS_5.out; have := HS_5_1.out; have := HS_5_1_4.out; have := HS_5_1_4_3.out; have := HWD.out; omega) 0 _)
          clear hW_5_1_4_3_6_7 hoth
          refine hK.out _ _ ?_
          clear hK K
          (try simp only [Act.put, List.setIfInBounds_toArray, List.set_cons_zero, List.set_cons_succ])
          refine wpAnyM_done (by kernel_rfl) ?_ _
          go_wp2_with fail
          go_meet
          case rel => exact ⟨_, _, _, _, rfl, rfl, FP_5_1_4_3_6_7, FQ_5_1_4_3_6_7, hid (HX_5_1_4_3_6_7.out.weak (fun _ _ _ => trivial)), hid (HY_5_1_4_3_6_7.out.weak (fun _ _ _ => trivial)), hid (HE4.out.trans ((show Ext w4 wr from HQ2.out.below).trans HE_5_1_4_3_6_7.out))⟩
        refine AllReadyM.cons (o := { dst := some 12, op := Go.Op.alloc 34, type := 0, pos := "walks.go:214", after := #[], guard := none }) rfl (fun K hK => ?_) AllReadyM.nil
        go_simp
        obtain ⟨w_5_4, hW_5_4⟩ : ∃ x, x = w_5.alloc (.cells #[.int .i64 0, .string ⟨#[]⟩, .slice none 0 0, .slice none 0 0, .int .i64 0, .int .i64 0, .float .f64 0, .string ⟨#[]⟩, .slice none 0 0, .slice none 0 0, .int .i64 0] 34) := ⟨_, rfl⟩
        change K _ (w_5.alloc (.cells #[.int .i64 0, .string ⟨#[]⟩, .slice none 0 0, .slice none 0 0, .int .i64 0, .int .i64 0, .float .f64 0, .string ⟨#[]⟩, .slice none 0 0, .slice none 0 0, .int .i64 0] 34))
        rw [← hW_5_4]
        have hE : Ext w_5 w_5_4 := hW_5_4 ▸ (Ext.refl w_5).alloc _
        have FP_5_4 : Hid (w_5_4.heap[w_5.heap.size]? = some (.cells #[.int .i64 0, .string ⟨#[]⟩, .slice none 0 0, .slice none 0 0, .int .i64 0, .int .i64 0, .float .f64 0, .string ⟨#[]⟩, .slice none 0 0, .slice none 0 0, .int .i64 0] 34)) := hid (hW_5_4 ▸ heap_alloc_new w_5 _)
        have HS_5_4 := hid (show w_5_4.heap.size = w_5.heap.size + 1 by rw [hW_5_4]; simp)
        have HE_5_4 := hid (HE_5.out.trans hE)
        clear hW_5_4
        have FQ_5_4 := hid (hE.block FQ_5.out)
        clear hE
        refine hK.out _ _ ?hS110 (fun hHeld => ?_)
        case hS110 => (exact K14.out _ HE_5_4.out)
        clear hK K
        (try simp only [Act.put, List.setIfInBounds_toArray, List.set_cons_zero, List.set_cons_succ])
        refine wpAnyM_ready (rs := [1]) (by kernel_rfl) (by simp) ?_
        refine AllReadyM.cons (o := { dst := some 99, op := Go.Op.call { callee := Go.Callee.value (Go.Operand.func 17), args := #[Go.Operand.tmp 98], argTypes := #[34] }, type := 34, pos := "walks.go:214", after := #[{ on := 0, ground := Go.Ground.data }], guard := none }) rfl (fun K hK => ?_) AllReadyM.nil
        refine step_call _ rfl 17 [.tmp 98] #[34] rfl (by kernel_rfl) [_] rfl (HCA.out _ HE_5_4.out) ?_
        rintro en w_5_4_1 ⟨cs, rfl, hT, hE⟩
        obtain ⟨x2_5_4_1, x3_5_4_1, x4_5_4_1, x5_5_4_1, u1_5_4_1, u2_5_4_1, u3_5_4_1, u4_5_4_1, u5_5_4_1, u6_5_4_1, u7_5_4_1, u8_5_4_1, u9_5_4_1, u10_5_4_1, rfl⟩ := hT.form8
        refine ⟨_, rfl, ?_⟩
        have HX_5_4_1 := hid (hT.weak (S' := fun b => w_5_4.heap.size ≤ b ∧ b < w_5_4_1.heap.size) (fun b h1 h2 => ⟨h1, h2⟩))
        have HS_5_4_1 := hid hE.size
        have HE_5_4_1 := hid (HE_5_4.out.trans hE)
        have FP_5_4_1 := hid (hE.block FP_5_4.out)
        have FQ_5_4_1 := hid (hE.block FQ_5_4.out)
        clear hE hT
        refine hK.out _ _ ?hS111 (fun hHeld => ?_)
        case hS111 => (exact K14.out _ HE_5_4_1.out)
        clear hK K
        (try simp only [Act.put, List.setIfInBounds_toArray, List.set_cons_zero, List.set_cons_succ])
        refine wpAnyM_ready (rs := [3]) (by kernel_rfl) (by simp) ?_
        refine AllReadyM.cons (o := { dst := some 101, op := Go.Op.call { callee := Go.Callee.value (Go.Operand.func 17), args := #[Go.Operand.tmp 100], argTypes := #[34] }, type := 34, pos := "walks.go:214", after := #[{ on := 2, ground := Go.Ground.data }, { on := 1, ground := Go.Ground.chain }], guard := none }) rfl (fun K hK => ?_) AllReadyM.nil
        refine step_call _ rfl 17 [.tmp 100] #[34] rfl (by kernel_rfl) [_] rfl (HCB.out _ HE_5_4_1.out) ?_
        rintro en w_5_4_1_3 ⟨cs, rfl, hT, hE⟩
        obtain ⟨y2_5_4_1_3, y3_5_4_1_3, y4_5_4_1_3, y5_5_4_1_3, u1_5_4_1_3, u2_5_4_1_3, u3_5_4_1_3, u4_5_4_1_3, u5_5_4_1_3, u6_5_4_1_3, u7_5_4_1_3, u8_5_4_1_3, u9_5_4_1_3, u10_5_4_1_3, rfl⟩ := hT.form8
        refine ⟨_, rfl, ?_⟩
        have HY_5_4_1_3 := hid (hT.weak (S' := fun b => w_5_4_1.heap.size ≤ b ∧ b < w_5_4_1_3.heap.size) (fun b h1 h2 => ⟨h1, h2⟩))
        have HS_5_4_1_3 := hid hE.size
        have HE_5_4_1_3 := hid (HE_5_4_1.out.trans hE)
        have FP_5_4_1_3 := hid (hE.block FP_5_4_1.out)
        have FQ_5_4_1_3 := hid (hE.block FQ_5_4_1.out)
        have HX_5_4_1_3 := hid (HX_5_4_1.out.ext hE)
        clear hE hT
        refine hK.out _ _ ?hS112 (fun hHeld => ?_)
        case hS112 => (exact K14.out _ HE_5_4_1_3.out)
        clear hK K
        (try simp only [Act.put, List.setIfInBounds_toArray, List.set_cons_zero, List.set_cons_succ])
        refine wpAnyM_ready (rs := [6]) (by kernel_rfl) (by simp) ?_
        refine AllReadyM.behind (o := { dst := none, op := Go.Op.store 34 (Go.Operand.tmp 12) (Go.Operand.tmp 99), type := 0, pos := "walks.go:214", after := #[{ on := 4, ground := Go.Ground.data }, { on := 1, ground := Go.Ground.data }, { on := 3, ground := Go.Ground.chain }, { on := 0, ground := Go.Ground.phase }, { on := 1, ground := Go.Ground.phase }, { on := 2, ground := Go.Ground.textOnly Go.Departure.lateStores }, { on := 3, ground := Go.Ground.textOnly Go.Departure.lateStoresUnsure }, { on := 4, ground := Go.Ground.phase }, { on := 5, ground := Go.Ground.phase }], guard := none }) rfl (by kernel_rfl) (fun K hK => ?_) AllReadyM.nil
        obtain ⟨⟨z0, z1, z2, z3, z4, z5, z6, z7, z8, z9, z10⟩, f0, f1, f2, f3, f4, f5, f6, f7, f8, f9, f10⟩ := slot11 FP_5_4_1_3.out
        go_simp
        clear z0 z1 z2 z3 z4 z5 z6 z7 z8 z9 z10
        obtain ⟨w_5_4_1_3_6, hW_5_4_1_3_6⟩ : ∃ x, x = setL w_5_4_1_3 (w_5.heap.size) 0 [.int .i64 G.kind, .string G.s, .slice x2_5_4_1 G.keys.length x3_5_4_1, .slice x4_5_4_1 G.l.length x5_5_4_1, .int .i64 u1_5_4_1, .int .i64 u2_5_4_1, .float .f64 u3_5_4_1, .string u4_5_4_1, .slice u5_5_4_1 u6_5_4_1 u7_5_4_1, .slice u8_5_4_1 u9_5_4_1 u10_5_4_1, .int .i64 G.n] := ⟨_, rfl⟩
        change K _ (setL w_5_4_1_3 (w_5.heap.size) 0 [.int .i64 G.kind, .string G.s, .slice x2_5_4_1 G.keys.length x3_5_4_1, .slice x4_5_4_1 G.l.length x5_5_4_1, .int .i64 u1_5_4_1, .int .i64 u2_5_4_1, .float .f64 u3_5_4_1, .string u4_5_4_1, .slice u5_5_4_1 u6_5_4_1 u7_5_4_1, .slice u8_5_4_1 u9_5_4_1 u10_5_4_1, .int .i64 G.n])
        rw [← hW_5_4_1_3_6]
        have FP_5_4_1_3_6 : Hid (w_5_4_1_3_6.heap[w_5.heap.size]? = some (.cells ([.int .i64 G.kind, .string G.s, .slice x2_5_4_1 G.keys.length x3_5_4_1, .slice x4_5_4_1 G.l.length x5_5_4_1, .int .i64 u1_5_4_1, .int .i64 u2_5_4_1, .float .f64 u3_5_4_1, .string u4_5_4_1, .slice u5_5_4_1 u6_5_4_1 u7_5_4_1, .slice u8_5_4_1 u9_5_4_1 u10_5_4_1, .int .i64 G.n] : List Value).toArray 34)) := hid (by rw [hW_5_4_1_3_6]; exact setL_all FP_5_4_1_3.out _ rfl)
        have hoth : ∀ b', b' ≠ w_5.heap.size → w_5_4_1_3_6.heap[b']? = w_5_4_1_3.heap[b']? := fun b' hb => by rw [hW_5_4_1_3_6]; exact setL_other hb _
        have FQ_5_4_1_3_6 := hid ((hoth (wd.heap.size) (by have := HS_5.out; have := HS_5_4.out; have := HS_5_4_1.out; have := HS_5_4_1_3.out; omega)).trans FQ_5_4_1_3.out)
        have HX_5_4_1_3_6 := hid (HX_5_4_1_3.out.mono (S' := fun b => w_5_4.heap.size ≤ b ∧ b < w_5_4_1.heap.size) (fun b' o hb hob => (hoth b' (by have h1 := hb.1; have h2 := hb.2; have := HS_5.out; have := HS_5_4.out; have := HS_5_4_1.out; have := HS_5_4_1_3.out; omega)).trans hob) (fun b h _ => h))
        have HY_5_4_1_3_6 := hid (HY_5_4_1_3.out.mono (S' := fun b => w_5_4_1.heap.size ≤ b ∧ b < w_5_4_1_3.heap.size) (fun b' o hb hob => (hoth b' (by have h1 := hb.1; have h2 := hb.2; have := HS_5.out; have := HS_5_4.out; have := HS_5_4_1.out; have := HS_5_4_1_3.out; omega)).trans hob) (fun b h _ => h))
        have HE_5_4_1_3_6 := hid (show Ext wr w_5_4_1_3_6 by rw [hW_5_4_1_3_6]; exact setL_below HE_5_4_1_3.out (by have := HS_5.out; have := HS_5_4.out; have := HS_5_4_1.out; have := HS_5_4_1_3.out; have := HWD.out; omega) 0 _)
        clear hW_5_4_1_3_6 hoth
        refine hK.out _ _ ?_
        clear hK K
        (try simp only [Act.put, List.setIfInBounds_toArray, List.set_cons_zero, List.set_cons_succ])
        refine wpAnyM_ready (rs := [7]) (by kernel_rfl) (by simp) ?_
        refine AllReadyM.behind (o := { dst := none, op := Go.Op.store 34 (Go.Operand.tmp 13) (Go.Operand.tmp 101), type := 0, pos := "walks.go:214", after := #[{ on := 5, ground := Go.Ground.data }, { on := 3, ground := Go.Ground.data }, { on := 6, ground := Go.Ground.chain }, { on := 0, ground := Go.Ground.phase }, { on := 1, ground := Go.Ground.phase }, { on := 2, ground := Go.Ground.phase }, { on := 3, ground := Go.Ground.phase }, { on := 4, ground := Go.Ground.phase }, { on := 5, ground := Go.Ground.phase }, { on := 6, ground := Go.Ground.phase }], guard := none }) rfl (by kernel_rfl) (fun K hK => ?_) AllReadyM.nil
        obtain ⟨⟨z0, z1, z2, z3, z4, z5, z6, z7, z8, z9, z10⟩, f0, f1, f2, f3, f4, f5, f6, f7, f8, f9, f10⟩ := slot11 FQ_5_4_1_3_6.out
        go_simp
        clear z0 z1 z2 z3 z4 z5 z6 z7 z8 z9 z10
        obtain ⟨w_5_4_1_3_6_7, hW_5_4_1_3_6_7⟩ : ∃ x, x = setL w_5_4_1_3_6 (wd.heap.size) 0 [.int .i64 G.kind, .string G.s, .slice y2_5_4_1_3 G.keys.length y3_5_4_1_3, .slice y4_5_4_1_3 G.l.length y5_5_4_1_3, .int .i64 u1_5_4_1_3, .int .i64 u2_5_4_1_3, .float .f64 u3_5_4_1_3, .string u4_5_4_1_3, .slice u5_5_4_1_3 u6_5_4_1_3 u7_5_4_1_3, .slice u8_5_4_1_3 u9_5_4_1_3 u10_5_4_1_3, .int .i64 G.n] := ⟨_, rfl⟩
        change K _ (setL w_5_4_1_3_6 (wd.heap.size) 0 [.int .i64 G.kind, .string G.s, .slice y2_5_4_1_3 G.keys.length y3_5_4_1_3, .slice y4_5_4_1_3 G.l.length y5_5_4_1_3, .int .i64 u1_5_4_1_3, .int .i64 u2_5_4_1_3, .float .f64 u3_5_4_1_3, .string u4_5_4_1_3, .slice u5_5_4_1_3 u6_5_4_1_3 u7_5_4_1_3, .slice u8_5_4_1_3 u9_5_4_1_3 u10_5_4_1_3, .int .i64 G.n])
        rw [← hW_5_4_1_3_6_7]
        have FQ_5_4_1_3_6_7 : Hid (w_5_4_1_3_6_7.heap[wd.heap.size]? = some (.cells ([.int .i64 G.kind, .string G.s, .slice y2_5_4_1_3 G.keys.length y3_5_4_1_3, .slice y4_5_4_1_3 G.l.length y5_5_4_1_3, .int .i64 u1_5_4_1_3, .int .i64 u2_5_4_1_3, .float .f64 u3_5_4_1_3, .string u4_5_4_1_3, .slice u5_5_4_1_3 u6_5_4_1_3 u7_5_4_1_3, .slice u8_5_4_1_3 u9_5_4_1_3 u10_5_4_1_3, .int .i64 G.n] : List Value).toArray 34)) := hid (by rw [hW_5_4_1_3_6_7]; exact setL_all FQ_5_4_1_3_6.out _ rfl)
        have hoth : ∀ b', b' ≠ wd.heap.size → w_5_4_1_3_6_7.heap[b']? = w_5_4_1_3_6.heap[b']? := fun b' hb => by rw [hW_5_4_1_3_6_7]; exact setL_other hb _
        have FP_5_4_1_3_6_7 := hid ((hoth (w_5.heap.size) (by have := HS_5.out; have := HS_5_4.out; have := HS_5_4_1.out; have := HS_5_4_1_3.out; omega)).trans FP_5_4_1_3_6.out)
        have HX_5_4_1_3_6_7 := hid (HX_5_4_1_3_6.out.mono (S' := fun b => w_5_4.heap.size ≤ b ∧ b < w_5_4_1.heap.size) (fun b' o hb hob => (hoth b' (by have h1 := hb.1; have h2 := hb.2; have := HS_5.out; have := HS_5_4.out; have := HS_5_4_1.out; have := HS_5_4_1_3.out; omega)).trans hob) (fun b h _ => h))
        have HY_5_4_1_3_6_7 := hid (HY_5_4_1_3_6.out.mono (S' := fun b => w_5_4_1.heap.size ≤ b ∧ b < w_5_4_1_3.heap.size) (fun b' o hb hob => (hoth b' (by have h1 := hb.1; have h2 := hb.2; have := HS_5.out; have := HS_5_4.out; have := HS_5_4_1.out; have := HS_5_4_1_3.out; omega)).trans hob) (fun b h _ => h))
        have HE_5_4_1_3_6_7 := hid (show Ext wr w_5_4_1_3_6_7 by rw [hW_5_4_1_3_6_7]; exact setL_below HE_5_4_1_3_6.out (by have := HS_5.out; have := HS_5_4.out; have := HS_5_4_1.out; have := HS_5_4_1_3.out; have := HWD.out; omega) 0 _)
        clear hW_5_4_1_3_6_7 hoth
        refine hK.out _ _ ?_
        clear hK K
        (try simp only [Act.put, List.setIfInBounds_toArray, List.set_cons_zero, List.set_cons_succ])
        refine wpAnyM_done (by kernel_rfl) ?_ _
        go_wp2_with fail
        go_meet
        case rel => exact ⟨_, _, _, _, rfl, rfl, FP_5_4_1_3_6_7, FQ_5_4_1_3_6_7, hid (HX_5_4_1_3_6_7.out.weak (fun _ _ _ => trivial)), hid (HY_5_4_1_3_6_7.out.weak (fun _ _ _ => trivial)), hid (HE4.out.trans ((show Ext w4 wr from HQ2.out.below).trans HE_5_4_1_3_6_7.out))⟩
      case rest =>
        obtain ⟨p, q, c1, c2, rfl, rfl, HP, HQ5, HX, HY, HE7⟩ := hcut
        rename World => w8
        have HEE := hid (show ∀ W x y, RepGE Any W G x → RepGE Any W G y → Calls Try.prog 19 #[.agg x.toArray, .agg y.toArray] W fun e w' => e = .returned (.bool true) ∧ Ext W w' from fun W x y h1 h2 => by
          have h := eqElems_any G G W x y h1 h2
          rwa [HGE.out] at h)
        obtain ⟨x2, x3, x4, x5, u1, u2, u3, u4, u5, u6, u7, u8, u9, u10, rfl⟩ := HX.out.form8
        obtain ⟨y2, y3, y4, y5, v1, v2, v3, v4, v5, v6, v7, v8, v9, v10, rfl⟩ := HY.out.form8
        obtain ⟨⟨z0, z1, z2, z3, z4, z5, z6, z7, z8, z9, z10⟩, -⟩ := slot11 HP.out
        obtain ⟨⟨m0, m1, m2, m3, m4, m5, m6, m7, m8, m9, m10⟩, -⟩ := slot11 HQ5.out
        have hb : ((G.keys.length : Int) == (k : Int)) = true := by rw [HGK.out]; simp
        go_wp2_with (first
          | (go_at_call 18; refine (sameElem_true G G rfl _ _ _ HX.out HY.out).mono ?_; rintro en w9 ⟨rfl, hE⟩; have HE9 := hid (HE7.out.trans hE); have HX9 := hid (HX.out.ext hE); have HY9 := hid (HY.out.ext hE); have HP9 := hid (hE.block HP.out); have HQ9 := hid (hE.block HQ5.out); clear hE z0 z1 z2 z3 z4 z5 z6 z7 z8 z9 z10 m0 m1 m2 m3 m4 m5 m6 m7 m8 m9 m10; obtain ⟨⟨z0, z1, z2, z3, z4, z5, z6, z7, z8, z9, z10⟩, -⟩ := slot11 HP9.out; obtain ⟨⟨m0, m1, m2, m3, m4, m5, m6, m7, m8, m9, m10⟩, -⟩ := slot11 HQ9.out)
          | (go_at_call 19; refine (HEE.out _ _ _ HX9.out HY9.out).mono ?_; rintro en w10 ⟨rfl, hE⟩; have HE10 := hid (HE9.out.trans hE); have HP10 := hid (hE.block HP9.out); clear hE z0 z1 z2 z3 z4 z5 z6 z7 z8 z9 z10 m0 m1 m2 m3 m4 m5 m6 m7 m8 m9 m10; obtain ⟨⟨z0, z1, z2, z3, z4, z5, z6, z7, z8, z9, z10⟩, -⟩ := slot11 HP10.out))
        go_ret
        exact ⟨rfl, HE10.out⟩
section
variable {H : Type} {enc : TypeId × Value → H} {P : Program} {w : World} {base : Nat} {spare : Nat → Bool} {held : Bool}
theorem trodAll_args {t0 t1 t2 : TypeId} {args : Array Value} {ds : List (DataW H)} {ps : List MemPlace} (h : DataW.TrodAll enc P w base spare held [t0, t1, t2] args.toList ds ps) :
    ∃ v0 v1 v2 d0 d1 d2 p0 p1 p2, args = #[v0, v1, v2] ∧ ds = [d0, d1, d2] ∧ DataW.Trod enc P w base spare held t0 v0 d0 p0 ∧ DataW.Trod enc P w base spare held t1 v1 d1 p1 ∧ DataW.Trod enc P w base spare held t2 v2 d2 p2 := by
  obtain ⟨v0, vs0, d0, ds0, p0, q0, hargs, rfl, rfl, hd0, hr0⟩ := trodAll_cons h
  obtain ⟨v1, vs1, d1, ds1, p1, q1, rfl, rfl, rfl, hd1, hr1⟩ := trodAll_cons hr0
  obtain ⟨v2, vs2, d2, ds2, p2, q2, rfl, rfl, rfl, hd2, hr2⟩ := trodAll_cons hr1
  obtain ⟨rfl, rfl, rfl⟩ := trodAll_nil hr2
  exact ⟨v0, v1, v2, d0, d1, d2, p0, p1, p2, by cases args; simp_all, rfl, hd0, hd1, hd2⟩
end
theorem own : ownKnob Try.prog.godebug = none := by kernel_rfl
set_option maxRecDepth 100000 in
theorem lifted (os : Os) (started : os.Started) (H : Type) (enc : TypeId × Value → H) :
    ReturnsInHanded {} Try.checked os 4 .any (Rows.fnKeyInAnyOrderSpec.pre6 enc Try.prog Try.f4 Rows.fnKeyInAnyOrderRow.domain false) (Rows.fnKeyInAnyOrderSpec.post enc Try.prog Try.f4 false true false false) := by
  refine law_lifted (C := Try.checked) own started (by kernel_rfl) Try.func4 (by kernel_rfl)
    (fun t ht => by
      have ht' : t ∈ ([26, 27, 3] : List TypeId) := by rwa [Try.params4] at ht
      simp only [List.mem_cons, List.not_mem_nil, or_false] at ht'
      rcases ht' with rfl | rfl | rfl <;> exact ⟨by kernel_rfl, of_decide_eq_true (by kernel_rfl)⟩) (by kernel_rfl) rfl
    (fun ds hl => by rw [Try.params4] at hl; match ds, hl with | [d0, d1, d2], _ => exact ⟨rfl, rfl, rfl⟩)
    (ChangeSpec.witness6 (enc := enc) (C := Try.checked) false ⟨#[], #[.slice none 0 0, .slice none 0 0, .int .i64 0], []⟩ 8 (by kernel_rfl) (by kernel_rfl) (by kernel_rfl) (by kernel_rfl)) ?_
  intro W base args ds p hval hA hsz
  rw [Try.params4] at hA hval hsz
  obtain ⟨v0, v1, v2, d0, d1, d2, p0, p1, p2, rfl, rfl, h0, h1, h2⟩ := trodAll_args hA
  have hw : ∀ n ∈ DataW.weightsEach Try.prog [26, 27, 3] [d0, d1, d2], n ≤ 140737488351232 := by
    intro n hn
    exact of_decide_eq_true (List.all_eq_true.1 hsz n hn)
  obtain ⟨a0, n0, c0, rfl⟩ := okWide_slice Try.underlying26 (hval 0 26 v0 rfl rfl)
  obtain ⟨fu0, h0⟩ := h0
  obtain ⟨x0, l0, e0, hg0⟩ := open_strs Try.underlying26 Try.underlying9 cellsStr bytesStr h0 (weightsEach_mem (j := 0) rfl rfl hw)
  simp only [Value.cells, List.cons.injEq, and_true] at e0
  subst e0
  obtain ⟨a1, n1, c1, rfl⟩ := okWide_slice Try.underlying27 (hval 1 27 v1 rfl rfl)
  obtain ⟨fu1, h1⟩ := h1
  obtain ⟨x1, l1, e1, hg1⟩ := open_gvl fu1 _ (d1, p1) h1 (weightsEach_mem (j := 1) rfl rfl hw)
  simp only [Value.cells, List.cons.injEq, and_true] at e1
  subst e1
  obtain ⟨a2, rfl⟩ := okWide_int Try.underlying3 (hval 2 3 v2 rfl rfl)
  obtain ⟨fu2, h2⟩ := h2
  obtain ⟨x2, e2, _, hg2⟩ := DataW.trod_int Try.underlying3 h2
  simp only [Value.cells, List.cons.injEq, and_true, Value.int.injEq, true_and] at e2
  subst e2
  have := walk l0 l1 a2 W _ _ hg0 hg1 hg2
  exact this

theorem over : Rows.fnKeyInAnyOrderRow.holds Try.pinned (OpenSpec.ofChange Rows.fnKeyInAnyOrderSpec) :=
  OpenClaim.holds_of_wide 4 Try.f4 rfl rfl rfl rfl rfl rfl rfl ⟨rfl, rfl, rfl, rfl, rfl⟩ rfl rfl rfl rfl rfl (by kernel_rfl) Try.func4 (by kernel_rfl)
    (of_decide_eq_true (by kernel_rfl)) (by unfold Func.isWrapper; first | (rw [if_pos (by decide +kernel)]; kernel_rfl) | (rw [if_neg (by decide +kernel)]; exact ⟨rfl, rfl⟩))
    (fun os started H enc _ => lifted os started H enc)

theorem proved : Rows.FnKeyInAnyOrderSaid :=
  over
#print axioms proved
end Go.Proofs.Ytempfaefopfobaa.fnKeyAny
