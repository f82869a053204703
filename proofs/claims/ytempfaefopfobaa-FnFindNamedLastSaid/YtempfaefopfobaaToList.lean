/- ToList: impl.toListType, toField. -/
import Derived.Test.YtempfaefopfobaaToSchema

namespace Go.Proofs.Ytempfaefopfobaa
open Go.ChangeShapes Go.WideShapes Go.ChangeAt Go.RowKit
set_option linter.unusedVariables false
set_option linter.unusedSimpArgs false

theorem set8_raw {B : Nat} {a W : World} (h : Below B a W) {b : Nat} (hb : B ≤ b) (v0 v1 v2 v3 v4 v5 v6 v7 : Value) : Below B a ((((((((W.setCell ⟨b, 0, none⟩ v0).setCell ⟨b, 1, none⟩ v1).setCell ⟨b, 2, none⟩ v2).setCell ⟨b, 3, none⟩ v3).setCell ⟨b, 4, none⟩ v4).setCell ⟨b, 5, none⟩ v5).setCell ⟨b, 6, none⟩ v6).setCell ⟨b, 7, none⟩ v7) := setL_below h hb 0 [v0, v1, v2, v3, v4, v5, v6, v7]
theorem set9_raw {B : Nat} {a W : World} (h : Below B a W) {b : Nat} (hb : B ≤ b) (v0 v1 v2 v3 v4 v5 v6 v7 v8 : Value) : Below B a (((((((((W.setCell ⟨b, 0, none⟩ v0).setCell ⟨b, 1, none⟩ v1).setCell ⟨b, 2, none⟩ v2).setCell ⟨b, 3, none⟩ v3).setCell ⟨b, 4, none⟩ v4).setCell ⟨b, 5, none⟩ v5).setCell ⟨b, 6, none⟩ v6).setCell ⟨b, 7, none⟩ v7).setCell ⟨b, 8, none⟩ v8) := setL_below h hb 0 [v0, v1, v2, v3, v4, v5, v6, v7, v8]
set_option maxRecDepth 100000 in
set_option maxHeartbeats 2000000 in
theorem toList_of (e : GS) (rel : ByteArray) (keys : List ByteArray) (ih : ToOK 82 1 e) : ToOK 74 3 (.lst e rel keys) := by
  intro _ w cs hR
  cases hR with
  | @lst _ _ _ kv c0 c1 c2 c3 c4 c5 h1 ht he hks =>
  obtain ⟨b, n, s, p0, p1, p2, q0, q1, q2, r, e'⟩ := he.formR ht
  simp only [List.cons.injEq, and_true] at e'
  obtain ⟨rfl, rfl, rfl, rfl, rfl, rfl⟩ := e'
  have HK := hid hks
  obtain ⟨ka, kb, ko, kc, rfl, k2, k3, k4, k5, k6⟩ := hks
  have HA := hid he
  have HI := hid ih
  have HT := hid ht
  have K6 := hid k6
  obtain ⟨is, his, hs0, hs1, hs2⟩ := info_parts infoStr
  have hlen : keys.length ≤ 140737488351232 := by omega
  clear he ih ht k2 k4 k5 k6
  go_enter Try.func74, Try.ntmps74
  go_upto_region 1 with fail
  obtain ⟨x1, x2, hEE⟩ := boxes2 w (.cells #[.bool b, .string n, .string s, .slice p0 p1 p2, .slice q0 q1 q2, .string r, .string rel, .slice ka keys.length kc] 57) (.cells #[.pointer none, .pointer none, .pointer none, .pointer none, .pointer none, .bool false, .string ⟨#[]⟩, .slice none 0 0] 129) _ (Below.refl _ _)
  generalize (w.alloc (.cells #[.bool b, .string n, .string s, .slice p0 p1 p2, .slice q0 q1 q2, .string r, .string rel, .slice ka keys.length kc] 57)).alloc (.cells #[.pointer none, .pointer none, .pointer none, .pointer none, .pointer none, .bool false, .string ⟨#[]⟩, .slice none 0 0] 129) = w1 at *
  have X1 := hid x1
  have X2 := hid x2
  have HE1 := hid hEE
  have hsz1 : w.heap.size + 1 < w1.heap.size := (Array.getElem?_eq_some_iff.1 x2).1
  clear x1 x2 hEE
  have K := hid (show ∀ w' : World, Below (w.heap.size + 1) w1 w' → (fun w' : World => w'.cell? ⟨w.heap.size, 0, none⟩ = some (.bool b) ∧ w'.cell? ⟨w.heap.size, 1, none⟩ = some (.string n) ∧ w'.cell? ⟨w.heap.size, 2, none⟩ = some (.string s) ∧ w'.cell? ⟨w.heap.size, 3, none⟩ = some (.slice p0 p1 p2) ∧ w'.cell? ⟨w.heap.size, 4, none⟩ = some (.slice q0 q1 q2) ∧ w'.cell? ⟨w.heap.size, 5, none⟩ = some (.string r) ∧ w'.cell? ⟨w.heap.size, 6, none⟩ = some (.string rel) ∧ w'.cell? ⟨w.heap.size, 7, none⟩ = some (.slice ka keys.length kc)) w' from fun w' h => by
    obtain ⟨⟨z0, z1, z2, z3, z4, z5, z6, z7⟩, -⟩ := slot8 ((Below.block h _ (by omega)).trans X1.out)
    exact ⟨z0, z1, z2, z3, z4, z5, z6, z7⟩)
  go_region_held3 (fun w' => w'.cell? ⟨w.heap.size, 0, none⟩ = some (.bool b) ∧ w'.cell? ⟨w.heap.size, 1, none⟩ = some (.string n) ∧ w'.cell? ⟨w.heap.size, 2, none⟩ = some (.string s) ∧ w'.cell? ⟨w.heap.size, 3, none⟩ = some (.slice p0 p1 p2) ∧ w'.cell? ⟨w.heap.size, 4, none⟩ = some (.slice q0 q1 q2) ∧ w'.cell? ⟨w.heap.size, 5, none⟩ = some (.string r) ∧ w'.cell? ⟨w.heap.size, 6, none⟩ = some (.string rel) ∧ w'.cell? ⟨w.heap.size, 7, none⟩ = some (.slice ka keys.length kc))
    (first | with_reducible exact K.out _ (HER.out.mono (Nat.le_of_lt hsz1)) | with_reducible exact K.out _ (HEA.out.mono (Nat.le_of_lt hsz1)) | with_reducible exact K.out _ ((Ext.refl w1).drew.mono (Nat.le_of_lt hsz1)) | with_reducible exact K.out _ (set8_raw (HEA.out.mono (Nat.le_of_lt hsz1)) (Nat.le_refl _) _ _ _ _ _ _ _ _) | with_reducible exact K.out _ (set8_raw (HER.out.mono (Nat.le_of_lt hsz1)) (Nat.le_refl _) _ _ _ _ _ _ _ _))
    (first
      | (go_at_call 82; refine (HI.out HT.out _ _ (HA.out.ext HE1.out.drew)).mono ?_; rintro e5 w5 ⟨cs5, rfl, hT, hE⟩; have HER := hid ((Ext.refl w1).drew.trans hE); have HS5 := hid (show w1.heap.size ≤ w5.heap.size from hE.size); obtain ⟨u0, u1, u2, u3, u4, rfl⟩ := hT.formR HT.out; have HT5 := hid hT; clear hT hE)
      | (refine step_append_src _ rfl (.const (.slice none 0 0)) (.tmp 9) 26 rfl w1.heap.size 9 is (.string ByteArray.empty) 1 16 Try.underlying26 his hs0 hs1 hs2 rfl (by decide) (.slice none 0 0) 0 [] rfl (World.ownsRow_nil _ _ _ _) ka keys.length kc (keys.map .string) rfl (by simp) (src_all (HK.out.ext (HE1.out.trans HER.out))) (strs_oneCell _) (by unfold maxLen; omega) (by omega) HS5.out ?_; intro a2 c2 w6 ho2 hg2 hb2; rw [Nat.zero_add] at ho2; have HRS := hid (strs_of_row (S := fun b => w1.heap.size ≤ b) ho2 (fun b h => h) k3 K6.out); have HEA := hid (HER.out.trans (ext_grownBy hg2)); have HG := hid (ext_grownBy hg2); obtain ⟨⟨z0, z1, z2, z3, z4, z5, z6, z7⟩, y0, y1, y2, y3, y4, y5, y6, y7⟩ := slot8 (HEA.out.block X2.out); clear ho2 hg2 hb2)
      | (refine step_append_src _ rfl (.const (.slice none 0 0)) (.tmp 9) 26 rfl w1.heap.size 9 is (.string ByteArray.empty) 1 16 Try.underlying26 his hs0 hs1 hs2 rfl (by decide) (.slice none 0 0) 0 [] rfl (World.ownsRow_nil _ _ _ _) ka keys.length kc (keys.map .string) rfl (by simp) (src_all (HK.out.ext HE1.out.drew)) (strs_oneCell _) (by unfold maxLen; omega) (by omega) (Nat.le_refl _) ?_; intro a2 c2 w6 ho2 hg2 hb2; rw [Nat.zero_add] at ho2; have HRS := hid (strs_of_row (S := fun b => w1.heap.size ≤ b) ho2 (fun b h => h) k3 K6.out); have HEA := hid ((Ext.refl w1).drew.trans (ext_grownBy hg2)); clear ho2 hg2 hb2)
      | (go_at_call 82; refine (HI.out HT.out _ _ (HA.out.ext (HE1.out.trans HEA.out))).mono ?_; rintro e5 w5 ⟨cs5, rfl, hT, hE⟩; have HER := hid (HEA.out.trans hE); have HG := hid hE; have HS6 := hid (show w1.heap.size ≤ w6.heap.size from HEA.out.size); obtain ⟨u0, u1, u2, u3, u4, rfl⟩ := hT.formR HT.out; have HT5 := hid hT; obtain ⟨⟨z0, z1, z2, z3, z4, z5, z6, z7⟩, y0, y1, y2, y3, y4, y5, y6, y7⟩ := slot8 (HER.out.block X2.out); clear hT hE))
  go_wp2_with fail
  change bodyPost _ _ _ _ _ (setL w6 (w.heap.size + 1) 0 [.pointer u0, .pointer u1, .pointer u2, .pointer u3, .pointer u4, .bool false, .string rel, .slice a2 keys.length c2])
  have q2 := setL_all (HEA.out.block X2.out) [.pointer u0, .pointer u1, .pointer u2, .pointer u3, .pointer u4, .bool false, .string rel, .slice a2 keys.length c2] rfl
  have qE := hid (setL_below (HE1.out.trans HEA.out) (show w.heap.size ≤ w.heap.size + 1 by omega) 0 [.pointer u0, .pointer u1, .pointer u2, .pointer u3, .pointer u4, .bool false, .string rel, .slice a2 keys.length c2])
  have qT := hid (HT5.out.mono (S' := fun b => w.heap.size ≤ b) (w' := setL w6 (w.heap.size + 1) 0 [.pointer u0, .pointer u1, .pointer u2, .pointer u3, .pointer u4, .bool false, .string rel, .slice a2 keys.length c2]) (fun b o hb ho => (setL_other (by have hb2 : w1.heap.size ≤ b := hb; omega) _).trans (HG.out.block ho)) (fun b hb _ => by have hb2 : w1.heap.size ≤ b := hb; omega))
  have qS := hid (HRS.out.mono (S' := fun b => w.heap.size ≤ b) (w' := setL w6 (w.heap.size + 1) 0 [.pointer u0, .pointer u1, .pointer u2, .pointer u3, .pointer u4, .bool false, .string rel, .slice a2 keys.length c2]) (fun b o hb ho => (setL_other (by omega) _).trans ho) (fun b hb _ => by omega))
  generalize setL w6 (w.heap.size + 1) 0 [.pointer u0, .pointer u1, .pointer u2, .pointer u3, .pointer u4, .bool false, .string rel, .slice a2 keys.length c2] = WF at *
  obtain ⟨⟨o0, o1, o2, o3, o4, o5, o6, o7⟩, -⟩ := slot8 q2
  refine bodyPost_ret (v := .agg #[.pointer u0, .pointer u1, .pointer u2, .pointer u3, .pointer u4, .bool false, .string rel, .slice a2 keys.length c2]) (by simp [results, Try.results74, go_sem, o0, o1, o2, o3, o4, o5, o6, o7]) rfl ?_
  exact ⟨[_, _, _, _, _, _, _, _], rfl, .lst h1 HT.out qT.out qS.out, qE.out⟩

set_option maxRecDepth 100000 in
set_option maxHeartbeats 2000000 in
theorem toField_of (name : ByteArray) (t : GS) (ds : List GV) (ih : ToOK 82 1 t) : ToOK 135 5 (.fld name t ds) := by
  intro _ w cs hR
  cases hR with
  | @fld _ _ _ c0 c1 c2 c3 c4 c5 da db dO dc h1 ht he hD hd =>
  obtain ⟨b, n, s, p0, p1, p2, q0, q1, q2, r, e'⟩ := he.formR ht
  simp only [List.cons.injEq, and_true] at e'
  obtain ⟨rfl, rfl, rfl, rfl, rfl, rfl⟩ := e'
  have HA := hid he
  have HI := hid ih
  have HT := hid ht
  have HD := hid hD
  have HDD := hid hd
  clear he ih ht hD hd
  go_enter Try.func135, Try.ntmps135
  go_upto_region 1 with fail
  obtain ⟨x1, x2, hEE⟩ := boxes2 w (.cells #[.string name, .bool b, .string n, .string s, .slice p0 p1 p2, .slice q0 q1 q2, .string r, .slice da ds.length dc] 156) (.cells #[.string ⟨#[]⟩, .pointer none, .pointer none, .pointer none, .pointer none, .pointer none, .bool false, .nilIface] 212) _ (Below.refl _ _)
  generalize (w.alloc (.cells #[.string name, .bool b, .string n, .string s, .slice p0 p1 p2, .slice q0 q1 q2, .string r, .slice da ds.length dc] 156)).alloc (.cells #[.string ⟨#[]⟩, .pointer none, .pointer none, .pointer none, .pointer none, .pointer none, .bool false, .nilIface] 212) = w1 at *
  have X1 := hid x1
  have X2 := hid x2
  have HE1 := hid hEE
  have hsz1 : w.heap.size + 1 < w1.heap.size := (Array.getElem?_eq_some_iff.1 x2).1
  clear x1 x2 hEE
  have K := hid (show ∀ w' : World, Ext w1 w' → (fun w' : World => w'.cell? ⟨w.heap.size, 0, none⟩ = some (.string name) ∧ w'.cell? ⟨w.heap.size, 1, none⟩ = some (.bool b) ∧ w'.cell? ⟨w.heap.size, 2, none⟩ = some (.string n) ∧ w'.cell? ⟨w.heap.size, 3, none⟩ = some (.string s) ∧ w'.cell? ⟨w.heap.size, 4, none⟩ = some (.slice p0 p1 p2) ∧ w'.cell? ⟨w.heap.size, 5, none⟩ = some (.slice q0 q1 q2) ∧ w'.cell? ⟨w.heap.size, 6, none⟩ = some (.string r) ∧ w'.cell? ⟨w.heap.size, 7, none⟩ = some (.slice da ds.length dc)) w' from fun w' h => by
    obtain ⟨⟨z0, z1, z2, z3, z4, z5, z6, z7⟩, -⟩ := slot8 (h.block X1.out)
    exact ⟨z0, z1, z2, z3, z4, z5, z6, z7⟩)
  go_cut [3] from 4 (fun p wx => ∃ O u0 u1 u2 u3 u4, p = .pointer (some ⟨O, 0, none⟩) ∧ Hid (BSt w wx O (.cells #[.string name, .bool b, .string n, .string s, .slice p0 p1 p2, .slice q0 q1 q2, .string r, .slice da ds.length dc] 156) [.string ⟨#[]⟩, .pointer none, .pointer none, .pointer none, .pointer none, .pointer none, .bool false, .nilIface] 212 [.string name, .pointer u0, .pointer u1, .pointer u2, .pointer u3, .pointer u4, .bool false, .nilIface]) ∧ Hid (RepS (Keep w O) wx t [.pointer u0, .pointer u1, .pointer u2, .pointer u3, .pointer u4, .bool false]))
  case first =>
    go_region_held3 (fun w' : World => w'.cell? ⟨w.heap.size, 0, none⟩ = some (.string name) ∧ w'.cell? ⟨w.heap.size, 1, none⟩ = some (.bool b) ∧ w'.cell? ⟨w.heap.size, 2, none⟩ = some (.string n) ∧ w'.cell? ⟨w.heap.size, 3, none⟩ = some (.string s) ∧ w'.cell? ⟨w.heap.size, 4, none⟩ = some (.slice p0 p1 p2) ∧ w'.cell? ⟨w.heap.size, 5, none⟩ = some (.slice q0 q1 q2) ∧ w'.cell? ⟨w.heap.size, 6, none⟩ = some (.string r) ∧ w'.cell? ⟨w.heap.size, 7, none⟩ = some (.slice da ds.length dc))
      (first | with_reducible exact K.out _ HE5.out | with_reducible exact K.out _ (HE5.out.alloc _) | with_reducible exact K.out _ ((Ext.refl w1).alloc _).drew | with_reducible exact K.out _ ((Ext.refl w1).drew.alloc _) | with_reducible exact K.out _ (Ext.refl w1).drew | with_reducible exact K.out _ (set8_raw HE5.out (Nat.le_refl _) _ _ _ _ _ _ _ _))
      (first
        | (go_at_call 82; refine (HI.out HT.out _ _ (HA.out.ext HE1.out.drew)).mono ?_; rintro e5 w5 ⟨cs5, rfl, hT, hE⟩; have HE5 := hid ((Ext.refl w1).drew.trans hE); obtain ⟨u0, u1, u2, u3, u4, rfl⟩ := hT.formR HT.out; have HT5 := hid hT; clear hT hE)
        | (go_at_call 82; refine (HI.out HT.out _ _ (HA.out.ext (HE1.out.alloc _).drew)).mono ?_; rintro e5 w5 ⟨cs5, rfl, hT, hE⟩; have HE5 := hid (((Ext.refl w1).alloc _).drew.trans hE); have X5 := hid (hE.block (show ((w1.alloc (.cells #[.string ⟨#[]⟩, .pointer none, .pointer none, .pointer none, .pointer none, .pointer none, .bool false, .nilIface] 212)).drew).heap[w1.heap.size]? = _ from heap_alloc_new w1 _)); obtain ⟨⟨z0, z1, z2, z3, z4, z5, z6, z7⟩, y0, y1, y2, y3, y4, y5, y6, y7⟩ := slot8 X5.out; obtain ⟨u0, u1, u2, u3, u4, rfl⟩ := hT.formR HT.out; have HT5 := hid hT; clear hT hE))
    all_goals (go_wp2_with fail; go_meet)
    case rel =>
      have hs5 := HE5.out.size
      refine ⟨w5.heap.size, u0, u1, u2, u3, u4, rfl, hid ⟨(HE5.out.alloc _).block X1.out, (HE5.out.alloc _).block X2.out, heap_alloc_new w5 _, by omega, HE1.out.trans (HE5.out.alloc _)⟩, hid (HT5.out.mono ((Ext.refl w5).alloc _ |>.same _) (fun b hb hlt => ?_))⟩
      have hb2 : w1.heap.size ≤ b := hb
      exact ⟨by omega, by omega⟩
    case rel =>
      have hs5 := HE5.out.size
      have hO : w1.heap.size < w5.heap.size := (Array.getElem?_eq_some_iff.1 X5.out).1
      change ∃ O u0 u1 u2 u3 u4, _ ∧ Hid (BSt w (setL w5 w1.heap.size 0 [_, _, _, _, _, _, _, _]) _ _ _ _ _) ∧ Hid (RepS _ (setL w5 w1.heap.size 0 [_, _, _, _, _, _, _, _]) _ _)
      refine ⟨w1.heap.size, u0, u1, u2, u3, u4, rfl, hid ?_, hid (HT5.out.mono (fun b o hb ho => (setL_other (by have hb2 : (w1.alloc _).heap.size ≤ b := hb; simp at hb2; omega) _).trans ho) (fun b hb hlt => ?_))⟩
      · exact ⟨(setL_other (by omega) _).trans (HE5.out.block X1.out), (setL_other (by omega) _).trans (HE5.out.block X2.out), setL_all X5.out [.string name, .pointer u0, .pointer u1, .pointer u2, .pointer u3, .pointer u4, .bool false, .nilIface] rfl, by omega, setL_below (HE1.out.trans HE5.out) (by omega) _ _⟩
      · have hb2 : (w1.alloc _).heap.size ≤ b := hb
        simp at hb2
        exact ⟨by omega, by omega⟩
  case rest =>
    rename World => w2
    obtain ⟨O, u0, u1, u2, u3, u4, rfl, HB, HR⟩ := hcut
    have hO := HB.out.hO
    obtain ⟨⟨z0, z1, z2, z3, z4, z5, z6, z7⟩, -⟩ := slot8 HB.out.box
    obtain ⟨⟨y0, y1, y2, y3, y4, y5, y6, y7⟩, -, -, -, -, -, -, -, y8⟩ := slot8 HB.out.out
    obtain ⟨⟨v0, v1, v2, v3, v4, v5, v6, v7⟩, v8, v9, v10, v11, v12, v13, v14, v15⟩ := slot8 HB.out.res
    cases ds with
    | nil =>
      go_wp2_with fail
      change bodyPost _ _ _ _ _ (setL w2 (w.heap.size + 1) 0 [.string name, .pointer u0, .pointer u1, .pointer u2, .pointer u3, .pointer u4, .bool false, .nilIface])
      obtain ⟨q2, qE⟩ := HB.out.fin rfl
      have QE := hid qE
      have qT := hid (HR.out.mono (S' := fun b => w.heap.size ≤ b) (keep_res 0 [.string name, .pointer u0, .pointer u1, .pointer u2, .pointer u3, .pointer u4, .bool false, .nilIface]) (fun b hb _ => by have := hb.1; omega))
      have qX := hid ((show RepT (Keep w O) w2 .null .nilIface from .null).mono (S' := fun b => w.heap.size ≤ b) (keep_res (w := w) (O := O) 0 [.string name, .pointer u0, .pointer u1, .pointer u2, .pointer u3, .pointer u4, .bool false, .nilIface]) (fun b hb _ => by have := hb.1; omega))
      clear qE
      generalize setL w2 (w.heap.size + 1) 0 [.string name, .pointer u0, .pointer u1, .pointer u2, .pointer u3, .pointer u4, .bool false, .nilIface] = WF at *
      obtain ⟨⟨o0, o1, o2, o3, o4, o5, o6, o7⟩, -⟩ := slot8 q2
      refine bodyPost_ret (v := .agg #[.string name, .pointer u0, .pointer u1, .pointer u2, .pointer u3, .pointer u4, .bool false, .nilIface]) (by simp [results, Try.results135, go_sem, o0, o1, o2, o3, o4, o5, o6, o7]) rfl ?_
      exact ⟨[_, _, _, _, _, _, _, _], rfl, .fld h1 HT.out qT.out qX.out, QE.out⟩
    | cons d ds =>
      obtain ⟨cs, hc1, hc2⟩ := HD.out.2.2 0 (by simp)
      have hRd := HDD.out 0 d cs rfl hc1 hc2
      obtain ⟨hda, -⟩ := HD.out.2.1 (by simp)
      subst hda
      obtain ⟨k', n', f', s', a1, b1, c1, a2, b2, c2, rfl⟩ := hRd.form
      obtain ⟨e0, e1, e2, e3, e4, e5⟩ := cells6 (cellsAt_ext HB.out.ext hc2)
      simp only [Nat.zero_mul, Nat.add_zero] at e0 e1 e2 e3 e4 e5
      have HRd := hid (hRd.ext HB.out.ext)
      have hlen : (0 : Int) < ((ds.length + 1 : Nat) : Int) := by omega
      clear hRd hc1 hc2
      go_upto_region 4 with (go_at_call 51; refine ((plain_any d) _ _ HRd.out).mono ?_; rintro e w3 ⟨x, rfl, hT, hE⟩; have HT3 := hid hT; have HB3 := hid (HB.out.later hE); have HE3 := hid hE; (obtain ⟨⟨y0, y1, y2, y3, y4, y5, y6, y7⟩, -, -, -, -, -, -, -, y8⟩ := slot8 HB3.out.out); (rcases hT.form with rfl | ⟨ty, vv, rfl⟩) <;> clear hT hE)
      · have HB4 := hid (HB3.out.set [.string name, .pointer u0, .pointer u1, .pointer u2, .pointer u3, .pointer u4, .bool false] [.nilIface] [.nilIface] (by simp))
        have HR4 := hid ((HR.out.ext HE3.out).mono (S' := Keep w O) (keep_set 7 [.nilIface]) (fun b hb _ => hb))
        have HT4 := hid ((HT3.out.weak (S' := Keep w O) (fun b hb _ => ⟨by have := HB.out.lt; have := HB.out.hO; omega, by have := HB.out.lt; omega⟩)).mono (S' := Keep w O) (keep_set 7 [.nilIface]) (fun b hb _ => hb))
        change Code.wp _ _ _ _ (setL w3 O 7 [.nilIface])
        change Hid (BSt w (setL w3 O 7 [.nilIface]) O _ _ _ [.string name, .pointer u0, .pointer u1, .pointer u2, .pointer u3, .pointer u4, .bool false, .nilIface]) at HB4
        clear HB3 HE3 HT3 z0 z1 z2 z3 z4 z5 z6 z7 y0 y1 y2 y3 y4 y5 y6 y7 y8 v0 v1 v2 v3 v4 v5 v6 v7 v8 v9 v10 v11 v12 v13 v14 v15 e0 e1 e2 e3 e4 e5
        generalize setL w3 O 7 [.nilIface] = w4 at *
        obtain ⟨⟨y0, y1, y2, y3, y4, y5, y6, y7⟩, -⟩ := slot8 HB4.out.out
        obtain ⟨⟨v0, v1, v2, v3, v4, v5, v6, v7⟩, v8, v9, v10, v11, v12, v13, v14, v15⟩ := slot8 HB4.out.res
        go_wp2_with fail
        change bodyPost _ _ _ _ _ (setL w4 (w.heap.size + 1) 0 [.string name, .pointer u0, .pointer u1, .pointer u2, .pointer u3, .pointer u4, .bool false, .nilIface])
        obtain ⟨q2, qE⟩ := HB4.out.fin rfl
        have QE := hid qE
        have qT := hid (HR4.out.mono (S' := fun b => w.heap.size ≤ b) (keep_res 0 [.string name, .pointer u0, .pointer u1, .pointer u2, .pointer u3, .pointer u4, .bool false, .nilIface]) (fun b hb _ => by have := hb.1; omega))
        have qX := hid (HT4.out.mono (S' := fun b => w.heap.size ≤ b) (keep_res (w := w) (O := O) 0 [.string name, .pointer u0, .pointer u1, .pointer u2, .pointer u3, .pointer u4, .bool false, .nilIface]) (fun b hb _ => by have := hb.1; omega))
        clear qE
        generalize setL w4 (w.heap.size + 1) 0 [.string name, .pointer u0, .pointer u1, .pointer u2, .pointer u3, .pointer u4, .bool false, .nilIface] = WF at *
        obtain ⟨⟨o0, o1, o2, o3, o4, o5, o6, o7⟩, -⟩ := slot8 q2
        refine bodyPost_ret (v := .agg #[.string name, .pointer u0, .pointer u1, .pointer u2, .pointer u3, .pointer u4, .bool false, .nilIface]) (by simp [results, Try.results135, go_sem, o0, o1, o2, o3, o4, o5, o6, o7]) rfl ?_
        exact ⟨[_, _, _, _, _, _, _, _], rfl, .fld h1 HT.out qT.out qX.out, QE.out⟩
      · have HB4 := hid (HB3.out.set [.string name, .pointer u0, .pointer u1, .pointer u2, .pointer u3, .pointer u4, .bool false] [.nilIface] [.iface ty vv] (by simp))
        have HR4 := hid ((HR.out.ext HE3.out).mono (S' := Keep w O) (keep_set 7 [.iface ty vv]) (fun b hb _ => hb))
        have HT4 := hid ((HT3.out.weak (S' := Keep w O) (fun b hb _ => ⟨by have := HB.out.lt; have := HB.out.hO; omega, by have := HB.out.lt; omega⟩)).mono (S' := Keep w O) (keep_set 7 [.iface ty vv]) (fun b hb _ => hb))
        change Code.wp _ _ _ _ (setL w3 O 7 [.iface ty vv])
        change Hid (BSt w (setL w3 O 7 [.iface ty vv]) O _ _ _ [.string name, .pointer u0, .pointer u1, .pointer u2, .pointer u3, .pointer u4, .bool false, .iface ty vv]) at HB4
        clear HB3 HE3 HT3 z0 z1 z2 z3 z4 z5 z6 z7 y0 y1 y2 y3 y4 y5 y6 y7 y8 v0 v1 v2 v3 v4 v5 v6 v7 v8 v9 v10 v11 v12 v13 v14 v15 e0 e1 e2 e3 e4 e5
        generalize setL w3 O 7 [.iface ty vv] = w4 at *
        obtain ⟨⟨y0, y1, y2, y3, y4, y5, y6, y7⟩, -⟩ := slot8 HB4.out.out
        obtain ⟨⟨v0, v1, v2, v3, v4, v5, v6, v7⟩, v8, v9, v10, v11, v12, v13, v14, v15⟩ := slot8 HB4.out.res
        go_wp2_with fail
        change bodyPost _ _ _ _ _ (setL w4 (w.heap.size + 1) 0 [.string name, .pointer u0, .pointer u1, .pointer u2, .pointer u3, .pointer u4, .bool false, .iface ty vv])
        obtain ⟨q2, qE⟩ := HB4.out.fin rfl
        have QE := hid qE
        have qT := hid (HR4.out.mono (S' := fun b => w.heap.size ≤ b) (keep_res 0 [.string name, .pointer u0, .pointer u1, .pointer u2, .pointer u3, .pointer u4, .bool false, .iface ty vv]) (fun b hb _ => by have := hb.1; omega))
        have qX := hid (HT4.out.mono (S' := fun b => w.heap.size ≤ b) (keep_res (w := w) (O := O) 0 [.string name, .pointer u0, .pointer u1, .pointer u2, .pointer u3, .pointer u4, .bool false, .iface ty vv]) (fun b hb _ => by have := hb.1; omega))
        clear qE
        generalize setL w4 (w.heap.size + 1) 0 [.string name, .pointer u0, .pointer u1, .pointer u2, .pointer u3, .pointer u4, .bool false, .iface ty vv] = WF at *
        obtain ⟨⟨o0, o1, o2, o3, o4, o5, o6, o7⟩, -⟩ := slot8 q2
        refine bodyPost_ret (v := .agg #[.string name, .pointer u0, .pointer u1, .pointer u2, .pointer u3, .pointer u4, .bool false, .iface ty vv]) (by simp [results, Try.results135, go_sem, o0, o1, o2, o3, o4, o5, o6, o7]) rfl ?_
        exact ⟨[_, _, _, _, _, _, _, _], rfl, .fld h1 HT.out qT.out qX.out, QE.out⟩
end Go.Proofs.Ytempfaefopfobaa
