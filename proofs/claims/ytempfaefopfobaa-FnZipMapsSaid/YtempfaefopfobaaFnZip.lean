/- FnZipMaps: going over two maps together tells each key that one of them has, in increasing order and once, with the value of each map that has it; for every input. -/
import Derived.Test.YtempfaefopfobaaZipFn
import Derived.Test.YtempfaefopfobaaSpecZip
import Derived.Test.YtempfaefopfobaaFitsB
import Derived.Test.YtempfaefopfobaaSame
import Derived.Test.YtempfaefopfobaaSchema
import Derived.ChangeMaps5

namespace Go.Proofs.Ytempfaefopfobaa.fnZip
open Go.ChangeShapes Go.WideShapes Go.ChangeAt Go.RowKit
set_option linter.unusedSimpArgs false
set_option linter.unusedVariables false
set_option maxRecDepth 100000

theorem insKV_len (m : List (ByteArray × Tree)) (k : ByteArray) (t : Tree) : (insKV m k t).length ≤ m.length + 1 := by
  induction m with
  | nil => simp [insKV]
  | cons p m ih => unfold insKV; split <;> simp <;> omega
theorem foldKV_len (r m : List (ByteArray × Tree)) : (foldKV r m).length ≤ m.length + r.length := by
  induction r generalizing m with
  | nil => exact Nat.le_refl _
  | cons p r ih =>
    have h1 := ih (insKV m p.1 p.2)
    have h2 := insKV_len m p.1 p.2
    show (foldKV r (insKV m p.1 p.2)).length ≤ _
    simp only [List.length_cons]
    omega
theorem plainMap_len (g : GV) : (plainMapT g).length ≤ g.keys.length := by
  have := foldKV_len (g.keys.zip (plainTs g.l)) []
  rw [List.length_zip] at this
  show (foldKV (g.keys.zip (plainTs g.l)) []).length ≤ _
  simp only [List.length_nil] at this
  omega
theorem field_fold {A : GV} (h : MapG A) : ∀ (r : List (ByteArray × GV)) (x : ByteArray), ((fieldG (foldW r A) x).isSome = true ↔ x ∈ r.map (·.1) ∨ (fieldG A x).isSome = true) := by
  intro r
  induction r generalizing A with
  | nil => intro x; simp [foldW]
  | cons p r ih =>
    intro x
    show (fieldG (foldW r (withF A p.1 p.2)) x).isSome = true ↔ _
    rw [ih (h.withF p.1) x, fieldG_withF h]
    by_cases e : x = p.1
    · subst e; simp
    · rw [if_neg e]; simp [e]
theorem look_names (m : List (ByteArray × Tree)) (x : ByteArray) : (lookKV m x).isSome = true ↔ x ∈ m.map (·.1) := by
  rw [look_contains, List.contains_iff_mem]
theorem names_field {g : GV} {m : List (ByteArray × Tree)} (h : Rel g m) (x : ByteArray) : (fieldG g x).isSome = true ↔ x ∈ m.map (·.1) := by
  rw [h.at_, Option.isSome_map, look_names]
theorem zip_names (ga gb : GV) : zipKeys (plainMapT ga) (plainMapT gb) = (foldW ((cleanM gb).keys.zip (cleanM gb).l) (cleanM ga)).keys := by
  have ha := rel_clean ga
  have hb := rel_clean gb
  have hC := ha.map.foldW ((cleanM gb).keys.zip (cleanM gb).l)
  refine sorted_ext (sortN_sorted _ (zipKeys_nodup ha.nodup hb.nodup)) hC.1 fun x => ?_
  rw [← fieldG_some hC, field_fold ha.map, names_field ha, List.map_fst_zip (by rw [hb.map.2]; exact Nat.le_refl _), ← fieldG_some hb.map, names_field hb]
  unfold zipKeys
  rw [(sortN_perm _).mem_iff, List.mem_append, List.mem_filter]
  constructor
  · rintro (h | h)
    · exact .inr h
    · exact .inl h.1
  · rintro (h | h)
    · by_cases e : x ∈ (plainMapT ga).map (·.1)
      · exact .inl e
      · exact .inr ⟨h, by simp only [Bool.not_eq_true', List.contains_eq_mem, decide_eq_false_iff_not]; exact e⟩
    · exact .inl h
theorem told_eq (ga gb : GV) : toldT (plainMapT ga) (plainMapT gb) = zsSpec ga gb := by
  unfold toldT zsSpec toldG
  rw [zip_names]
  refine List.map_congr_left fun k _ => ?_
  rw [(rel_clean ga).at_, (rel_clean gb).at_]
  rfl
theorem step_callW {P : Program} {ops : Array Oper} {o : Oper} {a : Act} {K : Act → World → Prop} {Q : Exit → Act → World → Prop} {E : Prop} (w : World) (hgd : Region.wanted o (yielded ops a.tmps) = true) (f : FuncId) (xs : List Operand) (tys : Array TypeId)
    (ho : o.op = .call { callee := .value (.func f), args := xs.toArray, argTypes := tys }) (hf : (P.funcs[f]?).map (fun fn => (fn.name == "runtime.NumGoroutine", fn.body.isSome)) = some (false, true))
    (vs : List Value) (hvs : xs.map a.eval = vs) {post : Ending → World → Prop} (hc : Calls P f vs.toArray w post)
    (h : ∀ e w', post e w' → ∃ v, e = .returned v ∧ K (a.put o.dst v) w') : if Region.wanted o (yielded ops a.tmps) = true then Oper.wp P o a w K Q else E := by
  have h1 : ({ o with guard := none } : Oper).guard = none := rfl
  have := step_call (E := E) (ops := ops) (o := { o with guard := none }) (K := K) (Q := Q) (a := a) w rfl f xs tys ho hf vs hvs hc h
  rw [if_pos (by simp [Region.wanted])] at this
  rw [if_pos hgd]
  exact this
theorem list_any (v : Value) (l : List GV) (w : World) (h : RepVals Any w v l) : Calls Try.prog 69 #[v] w fun e w' => ∃ cs, e = .returned (.agg cs.toArray) ∧ RepGV Any w' (.mk 5 0 0 ByteArray.empty [] l) cs ∧ Ext w w' := by
  have HV := hid h
  obtain ⟨a, b, o, c, rfl, -⟩ := h.at'
  clear h
  go_enter Try.func69, Try.ntmps69
  go_wp2_with fail
  have HX := heap_alloc_new w (.cells #[.int .i64 5, .int .i64 0, .float .f64 0, .string ⟨#[]⟩, .slice none 0 0, .slice a l.length c] 32)
  obtain ⟨⟨y0, y1, y2, y3, y4, y5⟩, -⟩ := slot6 HX
  refine bodyPost_ret (v := .agg #[.int .i64 5, .int .i64 0, .float .f64 0, .string ⟨#[]⟩, .slice none 0 0, .slice a l.length c]) (by simp [results, Try.results69, go_sem, y0, y1, y2, y3, y4, y5]) rfl ⟨_, rfl, ?_, (Ext.refl w).alloc _⟩
  exact repGV_of (by decide) (by decide) (by decide) (by decide) (RepStrs.nil _ _) (HV.out.ext ((Ext.refl w).alloc _))
theorem sameValues_any (v1 v2 : Value) (l : List GV) (w : World) (h1 : RepVals Any w v1 l) (h2 : RepVals Any w v2 l) : Calls Try.prog 26 #[v1, v2] w fun e w' => e = .returned (.bool true) ∧ Ext w w' := by
  have H1 := hid h1
  have H2 := hid h2
  obtain ⟨a, b, o, c, rfl, -⟩ := h1.at'
  obtain ⟨a2, b2, o2, c2, rfl, -⟩ := h2.at'
  clear h1 h2
  have tk : True := trivial
  go_enter Try.func26, Try.ntmps26
  go_wp2_with (first
    | (go_at_call 69; have _t := tk; refine (list_any _ l _ H1.out).mono ?_; rintro e w2 ⟨cs, rfl, hR, hE⟩; obtain ⟨p1, p2, p3, p4, p5, p6, p7, p8, p9, p10, rfl⟩ := hR.form; have HR1 := hid hR; have HE1 := hid hE; clear hR hE tk _t)
    | (go_at_call 69; refine (list_any _ l _ (H2.out.ext HE1.out)).mono ?_; rintro e w3 ⟨cs, rfl, hR, hE⟩; obtain ⟨q1, q2, q3, q4, q5, q6, q7, q8, q9, q10, rfl⟩ := hR.form; have HR2 := hid hR; have HR1' := hid (HR1.out.ext hE); have HE2 := hid (HE1.out.trans hE); clear hR hE)
    | (go_at_call 31; refine (same_any _ _ _ rfl _ _ HR1'.out HR2.out).mono ?_; rintro e w4 ⟨rfl, hE⟩; have HE3 := hid (HE2.out.trans hE); clear hE))
  go_ret
  exact ⟨rfl, HE3.out⟩
set_option maxHeartbeats 4000000 in
theorem walk (ga gb : GV) (w : World) (ca cb : List Value) (hA : RepGV Any w ga ca) (hB : RepGV Any w gb cb) : Calls Try.prog 6 #[.agg ca.toArray, .agg cb.toArray] w fun en w' => en = .returned (.bool true) ∧ Ext w w' := by
  have HA := hid hA
  have HB := hid hB
  obtain ⟨p1, p2, p3, p4, p5, p6, p7, p8, p9, p10, rfl⟩ := hA.form
  obtain ⟨q1, q2, q3, q4, q5, q6, q7, q8, q9, q10, rfl⟩ := hB.form
  clear hA hB
  have tk : True := trivial
  go_enter Try.func6, Try.ntmps6
  have HE0 := hid (show Ext w ((w.alloc (.cells #[.int .i64 p1, .int .i64 p2, .float .f64 p3, .string p4, .slice p5 p6 p7, .slice p8 p9 p10] 32)).alloc (.cells #[.int .i64 q1, .int .i64 q2, .float .f64 q3, .string q4, .slice q5 q6 q7, .slice q8 q9 q10] 32)) from ((Ext.refl w).alloc _).alloc _)
  have HX0 := hid (show ((w.alloc (.cells #[.int .i64 p1, .int .i64 p2, .float .f64 p3, .string p4, .slice p5 p6 p7, .slice p8 p9 p10] 32)).alloc (.cells #[.int .i64 q1, .int .i64 q2, .float .f64 q3, .string q4, .slice q5 q6 q7, .slice q8 q9 q10] 32)).heap[w.heap.size]? = some (.cells #[.int .i64 p1, .int .i64 p2, .float .f64 p3, .string p4, .slice p5 p6 p7, .slice p8 p9 p10] 32) ∧ ((w.alloc (.cells #[.int .i64 p1, .int .i64 p2, .float .f64 p3, .string p4, .slice p5 p6 p7, .slice p8 p9 p10] 32)).alloc (.cells #[.int .i64 q1, .int .i64 q2, .float .f64 q3, .string q4, .slice q5 q6 q7, .slice q8 q9 q10] 32)).heap[w.heap.size + 1]? = some (.cells #[.int .i64 q1, .int .i64 q2, .float .f64 q3, .string q4, .slice q5 q6 q7, .slice q8 q9 q10] 32) from ⟨first_heap w _ _, second_heap w _ _⟩)
  go_upto_region 3 with (first
    | (go_at_call 23; have _t := tk; refine (fits5B ga _ _ (HA.out.ext HE0.out)).mono ?_; rintro en w2 ⟨b, rfl, hb, hE⟩; have HE2 := hid (HE0.out.trans hE); have HX2 := hid (And.intro (hE.block HX0.out.1) (hE.block HX0.out.2)); have HB1 := hid hb; obtain ⟨⟨y0, y1, y2, y3, y4, y5⟩, -⟩ := slot6 (hE.block HX0.out.2); cases b <;> clear hE hb tk _t)
    | (go_at_call 23; refine (fits5B gb _ _ (HB.out.ext HE2.out)).mono ?_; rintro en w3 ⟨b, rfl, hb, hE⟩; have HE3 := hid (HE2.out.trans hE); have HX3 := hid (And.intro (hE.block HX2.out.1) (hE.block HX2.out.2)); have HB2 := hid hb; cases b <;> clear hE hb))
  · go_ret
    exact ⟨rfl, HE2.out⟩
  · go_ret
    exact ⟨rfl, HE3.out⟩
  have HEd := hid (show Ext w w3.drew from HE3.out.drew)
  have HXd := hid (show w3.drew.heap[w.heap.size]? = some (.cells #[.int .i64 p1, .int .i64 p2, .float .f64 p3, .string p4, .slice p5 p6 p7, .slice p8 p9 p10] 32) ∧ w3.drew.heap[w.heap.size + 1]? = some (.cells #[.int .i64 q1, .int .i64 q2, .float .f64 q3, .string q4, .slice q5 q6 q7, .slice q8 q9 q10] 32) from HX3.out)
  refine wp_region_late (fun w' : World => w'.cell? ⟨w.heap.size, 0, none⟩ = some (.int .i64 p1) ∧ w'.cell? ⟨w.heap.size, 1, none⟩ = some (.int .i64 p2) ∧ w'.cell? ⟨w.heap.size, 2, none⟩ = some (.float .f64 p3) ∧ w'.cell? ⟨w.heap.size, 3, none⟩ = some (.string p4) ∧ w'.cell? ⟨w.heap.size, 4, none⟩ = some (.slice p5 p6 p7) ∧ w'.cell? ⟨w.heap.size, 5, none⟩ = some (.slice p8 p9 p10) ∧ w'.cell? ⟨w.heap.size + 1, 0, none⟩ = some (.int .i64 q1) ∧ w'.cell? ⟨w.heap.size + 1, 1, none⟩ = some (.int .i64 q2) ∧ w'.cell? ⟨w.heap.size + 1, 2, none⟩ = some (.float .f64 q3) ∧ w'.cell? ⟨w.heap.size + 1, 3, none⟩ = some (.string q4) ∧ w'.cell? ⟨w.heap.size + 1, 4, none⟩ = some (.slice q5 q6 q7) ∧ w'.cell? ⟨w.heap.size + 1, 5, none⟩ = some (.slice q8 q9 q10)) [] (by kernel_rfl) ?hS21 (fun hHeld => ?_)
  case hS21 => (obtain ⟨⟨z0, z1, z2, z3, z4, z5⟩, -⟩ := slot6 HXd.out.1; obtain ⟨⟨y0, y1, y2, y3, y4, y5⟩, -⟩ := slot6 HXd.out.2; exact ⟨z0, z1, z2, z3, z4, z5, y0, y1, y2, y3, y4, y5⟩)
  generalize w3.drew = wd at *
  change wpAnyM _ _ _ _ _ _ 8 #[false, false, false, false, false, false, false, false] _ _
  refine wpAnyM_take (i := 0) (oi := { dst := some 17, op := Go.Op.load 32 (Go.Operand.tmp 2), type := 32, pos := "value.go:392", after := #[], guard := none }) (v := ?v22) rfl (by kernel_rfl) (fun _ _ _ h => h) (Or.inl ⟨by rfl, ?hy22⟩) (by assumption) ?rest22
  case hy22 => (intro wz hSw; (try dsimp only at hSw); go_simp; try with_reducible rfl)
  (try simp only [Act.put, List.setIfInBounds_toArray, List.set_cons_zero, List.set_cons_succ])
  refine wpAnyM_take (i := 1) (oi := { dst := some 18, op := Go.Op.load 32 (Go.Operand.tmp 3), type := 32, pos := "value.go:392", after := #[], guard := none }) (v := ?v23) rfl (by kernel_rfl) (fun _ _ _ h => h) (Or.inl ⟨by rfl, ?hy23⟩) (by assumption) ?rest23
  case hy23 => (intro wz hSw; (try dsimp only at hSw); go_simp; try with_reducible rfl)
  (try simp only [Act.put, List.setIfInBounds_toArray, List.set_cons_zero, List.set_cons_succ])
  refine wpAnyM_take (i := 3) (oi := { dst := some 20, op := Go.Op.load 32 (Go.Operand.tmp 2), type := 32, pos := "value.go:392", after := #[], guard := none }) (v := ?v24) rfl (by kernel_rfl) (fun _ _ _ h => h) (Or.inl ⟨by rfl, ?hy24⟩) (by assumption) ?rest24
  case hy24 => (intro wz hSw; (try dsimp only at hSw); go_simp; try with_reducible rfl)
  (try simp only [Act.put, List.setIfInBounds_toArray, List.set_cons_zero, List.set_cons_succ])
  refine wpAnyM_take (i := 4) (oi := { dst := some 21, op := Go.Op.load 32 (Go.Operand.tmp 3), type := 32, pos := "value.go:392", after := #[], guard := none }) (v := ?v25) rfl (by kernel_rfl) (fun _ _ _ h => h) (Or.inl ⟨by rfl, ?hy25⟩) (by assumption) ?rest25
  case hy25 => (intro wz hSw; (try dsimp only at hSw); go_simp; try with_reducible rfl)
  (try simp only [Act.put, List.setIfInBounds_toArray, List.set_cons_zero, List.set_cons_succ])
  refine wpAnyM_ready (rs := [2]) (by kernel_rfl) (by simp) ?_
  refine AllReadyM.cons (o := { dst := some 19, op := Go.Op.call { callee := Go.Callee.value (Go.Operand.func 24), args := #[Go.Operand.tmp 17, Go.Operand.tmp 18], argTypes := #[32, 32] }, type := 42, pos := "value.go:392", after := #[{ on := 0, ground := Go.Ground.data }, { on := 1, ground := Go.Ground.data }], guard := none }) rfl (fun K hK => ?_) AllReadyM.nil
  refine step_call _ rfl 24 [.tmp 17, .tmp 18] #[32, 32] rfl (by kernel_rfl) [_, _] rfl (zipMaps_any ga gb wd _ _ (HA.out.ext HEd.out) (HB.out.ext HEd.out) ⟨Nat.le_trans (plainMap_len ga) (HB1.out trivial).1, Nat.le_trans (plainMap_len gb) (HB2.out trivial).1⟩) ?_
  rintro en w4 ⟨v1, rfl, hz, hE⟩
  rw [told_eq] at hz
  have HZ0 := hid hz
  obtain ⟨a1, _, c1, rfl, -, -⟩ := hz
  refine ⟨_, rfl, ?_⟩
  have HE4 := hid (HEd.out.trans hE)
  have HX4 := hid (And.intro (hE.block HXd.out.1) (hE.block HXd.out.2))
  clear hE
  refine hK.out _ _ ?hS26 (fun hHeld => ?_)
  case hS26 => (obtain ⟨⟨z0, z1, z2, z3, z4, z5⟩, -⟩ := slot6 HX4.out.1; obtain ⟨⟨y0, y1, y2, y3, y4, y5⟩, -⟩ := slot6 HX4.out.2; exact ⟨z0, z1, z2, z3, z4, z5, y0, y1, y2, y3, y4, y5⟩)
  clear hK K
  (try simp only [Act.put, List.setIfInBounds_toArray, List.set_cons_zero, List.set_cons_succ])
  refine wpAnyM_ready (rs := [5]) (by kernel_rfl) (by simp) ?_
  refine AllReadyM.cons (o := { dst := some 22, op := Go.Op.call { callee := Go.Callee.value (Go.Operand.func 25), args := #[Go.Operand.tmp 20, Go.Operand.tmp 21], argTypes := #[32, 32] }, type := 42, pos := "value.go:392", after := #[{ on := 3, ground := Go.Ground.data }, { on := 4, ground := Go.Ground.data }, { on := 2, ground := Go.Ground.chain }], guard := none }) rfl (fun K hK => ?_) AllReadyM.nil
  refine step_call _ rfl 25 [.tmp 20, .tmp 21] #[32, 32] rfl (by kernel_rfl) [_, _] rfl (specZip_any ga gb w4 _ _ (HA.out.ext HE4.out) (HB.out.ext HE4.out) (HB1.out trivial).1 (HB2.out trivial).1) ?_
  rintro en w5 ⟨v2, rfl, hz, hE⟩
  have HZ2 := hid hz
  obtain ⟨a2, _, c2, rfl, -, -⟩ := hz
  refine ⟨_, rfl, ?_⟩
  have HZ1 := hid (HZ0.out.ext hE)
  have HE5 := hid (HE4.out.trans hE)
  have HX5 := hid (And.intro (hE.block HX4.out.1) (hE.block HX4.out.2))
  clear hE
  refine hK.out _ _ ?hS27 (fun hHeld => ?_)
  case hS27 => (obtain ⟨⟨z0, z1, z2, z3, z4, z5⟩, -⟩ := slot6 HX5.out.1; obtain ⟨⟨y0, y1, y2, y3, y4, y5⟩, -⟩ := slot6 HX5.out.2; exact ⟨z0, z1, z2, z3, z4, z5, y0, y1, y2, y3, y4, y5⟩)
  clear hK K
  (try simp only [Act.put, List.setIfInBounds_toArray, List.set_cons_zero, List.set_cons_succ])
  refine wpAnyM_take (i := 6) (oi := { dst := some 5, op := Go.Op.assign (Go.Operand.tmp 19), type := 42, pos := "value.go:392", after := #[{ on := 2, ground := Go.Ground.data }, { on := 5, ground := Go.Ground.chain }, { on := 0, ground := Go.Ground.phase }, { on := 1, ground := Go.Ground.phase }, { on := 2, ground := Go.Ground.phase }, { on := 3, ground := Go.Ground.textOnly Go.Departure.lateStores }, { on := 4, ground := Go.Ground.textOnly Go.Departure.lateStores }, { on := 5, ground := Go.Ground.textOnly Go.Departure.lateStoresUnsure }], guard := none }) (v := ?v28) rfl (by kernel_rfl) (fun _ _ _ h => h) (Or.inl ⟨by rfl, ?hy28⟩) (by assumption) ?rest28
  case hy28 => (intro wz hSw; (try dsimp only at hSw); go_simp; try with_reducible rfl)
  (try simp only [Act.put, List.setIfInBounds_toArray, List.set_cons_zero, List.set_cons_succ])
  refine wpAnyM_take (i := 7) (oi := { dst := some 6, op := Go.Op.assign (Go.Operand.tmp 22), type := 42, pos := "value.go:392", after := #[{ on := 5, ground := Go.Ground.data }, { on := 6, ground := Go.Ground.chain }, { on := 0, ground := Go.Ground.phase }, { on := 1, ground := Go.Ground.phase }, { on := 2, ground := Go.Ground.phase }, { on := 3, ground := Go.Ground.phase }, { on := 4, ground := Go.Ground.phase }, { on := 5, ground := Go.Ground.phase }, { on := 6, ground := Go.Ground.phase }], guard := none }) (v := ?v29) rfl (by kernel_rfl) (fun _ _ _ h => h) (Or.inl ⟨by rfl, ?hy29⟩) (by assumption) ?rest29
  case hy29 => (intro wz hSw; (try dsimp only at hSw); go_simp; try with_reducible rfl)
  (try simp only [Act.put, List.setIfInBounds_toArray, List.set_cons_zero, List.set_cons_succ])
  refine wpAnyM_done (by kernel_rfl) ?_ _
  have hzl : (zsSpec ga gb).length ≤ 4294967294 := by
    rw [← told_eq]
    unfold toldT
    rw [List.length_map]
    have h1 := zipKeys_length (m1 := plainMapT ga) (m2 := plainMapT gb)
    have h2 := plainMap_len ga
    have h3 := plainMap_len gb
    have h4 := (HB1.out trivial).1
    have h5 := (HB2.out trivial).1
    omega
  generalize zsSpec ga gb = zs at *
  obtain ⟨_, B1', _, e1, hz1, hat1⟩ := HZ1.out
  simp only [Value.slice.injEq] at e1
  obtain ⟨rfl, -, rfl⟩ := e1
  obtain ⟨_, B2', _, e2, hz2, hat2⟩ := HZ2.out
  simp only [Value.slice.injEq] at e2
  obtain ⟨rfl, -, rfl⟩ := e2
  have HA1 := hid hat1
  have HA2 := hid hat2
  have HP1 := hid hz1
  have HP2 := hid hz2
  clear hz1 hz2 hat1 hat2 HZ0 HZ1 HZ2
  go_wp2_with fail
  go_loopw [30] (fun i wr => ∃ j : Nat, i = .int .i64 j ∧ j ≤ zs.length ∧ Hid (Ext w5 wr)) (fun i _ => zs.length - (intOf i).toNat)
  case atStart => exact ⟨0, rfl, Nat.zero_le _, hid (Ext.refl _)⟩
  case round =>
    obtain ⟨j, rfl, hj, HX⟩ := hrel
    by_cases h1 : j < zs.length
    · obtain ⟨⟨key, la, lb⟩, hz⟩ : ∃ z, zs[j]? = some z := ⟨_, List.getElem?_eq_getElem h1⟩
      obtain ⟨hks, k1, va, vb, k2, k3, k4, k5⟩ := HA1.out j _ hz
      obtain ⟨-, m1, va', vb', m2, m3, m4, m5⟩ := HA2.out j _ hz
      obtain rfl := HP1.out (by omega)
      obtain rfl := HP2.out (by omega)
      have HV1 := hid (And.intro (k4.ext HX.out) (m4.ext HX.out))
      have HV2 := hid (And.intro (k5.ext HX.out) (m5.ext HX.out))
      obtain ⟨d1, -, -, d2, rfl, -⟩ := k4.at'
      obtain ⟨d3, -, -, d4, rfl, -⟩ := k5.at'
      obtain ⟨e1, -, -, e2, rfl, -⟩ := m4.at'
      obtain ⟨e3, -, -, e4, rfl, -⟩ := m5.at'
      have n1 := HX.out.cellS m1
      have n2 := HX.out.cellS m2
      have n3 := HX.out.cellS m3
      have KK := hid (And.intro (HX.out.cellS k1) (And.intro (HX.out.cellS k2) (HX.out.cellS k3)))
      have p0 : (0 : Int) ≤ (j : Int) := by omega
      have p1 : (j : Int) < (zs.length : Int) := by omega
      clear hz k1 k2 k3 k4 k5 m1 m2 m3 m4 m5 hks
      go_upto_region 9 with fail
      have HBX := hid (heap_alloc_new wr (.cells #[.string key, .slice e1 la.length e2, .slice e3 lb.length e4] 45))
      have HEq := hid ((Ext.refl wr).alloc (.cells #[.string key, .slice e1 la.length e2, .slice e3 lb.length e4] 45))
      generalize wr.alloc (.cells #[.string key, .slice e1 la.length e2, .slice e3 lb.length e4] 45) = wq at *
      generalize wr.heap.size = bx at *
      have K9 := hid (show ∀ W : World, Ext wr W → Ext wq W → (fun w' : World => w'.cell? ⟨B1', j * 3, none⟩ = some (.string key) ∧ w'.cell? ⟨B1', j * 3 + 1, none⟩ = some (.slice d1 la.length d2) ∧ w'.cell? ⟨B1', j * 3 + 2, none⟩ = some (.slice d3 lb.length d4) ∧ w'.cell? ⟨bx, 0, none⟩ = some (.string key) ∧ w'.cell? ⟨bx, 1, none⟩ = some (.slice e1 la.length e2) ∧ w'.cell? ⟨bx, 2, none⟩ = some (.slice e3 lb.length e4)) W from fun W hE hq => ⟨hE.cellS KK.out.1, hE.cellS KK.out.2.1, hE.cellS KK.out.2.2, (cell_of_heap (hq.block HBX.out) 0).trans rfl, (cell_of_heap (hq.block HBX.out) 1).trans rfl, (cell_of_heap (hq.block HBX.out) 2).trans rfl⟩)
      have HEd9 := hid (show Ext wr wq.drew from HEq.out.drew)
      have HEq9 := hid (show Ext wq wq.drew from (Ext.refl wq).drew)
      clear n1 n2 n3
      refine wp_region_late (fun w' : World => w'.cell? ⟨B1', j * 3, none⟩ = some (.string key) ∧ w'.cell? ⟨B1', j * 3 + 1, none⟩ = some (.slice d1 la.length d2) ∧ w'.cell? ⟨B1', j * 3 + 2, none⟩ = some (.slice d3 lb.length d4) ∧ w'.cell? ⟨bx, 0, none⟩ = some (.string key) ∧ w'.cell? ⟨bx, 1, none⟩ = some (.slice e1 la.length e2) ∧ w'.cell? ⟨bx, 2, none⟩ = some (.slice e3 lb.length e4)) [] (by kernel_rfl) ?hS30 (fun hHeld => ?_)
      case hS30 => (exact K9.out _ HEd9.out HEq9.out)
      generalize wq.drew = wd9 at *
      change wpAnyM _ _ _ _ _ _ 30 #[false, false, false, false, false, false, false, false, false, false, false, false, false, false, false, false, false, false, false, false, false, false, false, false, false, false, false, false, false, false] _ _
      refine wpAnyM_take (i := 0) (oi := { dst := some 35, op := Go.Op.move (Go.Operand.tmp 5), type := 42, pos := "value.go:397", after := #[], guard := none }) (v := ?v31) rfl (by kernel_rfl) (fun _ _ _ h => h) (Or.inl ⟨by rfl, ?hy31⟩) (by assumption) ?rest31
      case hy31 => (intro wz hSw; (try dsimp only at hSw); go_simp; try with_reducible rfl)
      (try simp only [Act.put, List.setIfInBounds_toArray, List.set_cons_zero, List.set_cons_succ])
      refine wpAnyM_take (i := 1) (oi := { dst := some 36, op := Go.Op.move (Go.Operand.tmp 7), type := 3, pos := "value.go:397", after := #[], guard := none }) (v := ?v32) rfl (by kernel_rfl) (fun _ _ _ h => h) (Or.inl ⟨by rfl, ?hy32⟩) (by assumption) ?rest32
      case hy32 => (intro wz hSw; (try dsimp only at hSw); go_simp; try with_reducible rfl)
      (try simp only [Act.put, List.setIfInBounds_toArray, List.set_cons_zero, List.set_cons_succ])
      refine wpAnyM_take (i := 2) (oi := { dst := some 37, op := Go.Op.indexAddr 42 (Go.Operand.tmp 35) (Go.Operand.tmp 36), type := 0, pos := "value.go:397", after := #[{ on := 0, ground := Go.Ground.data }, { on := 1, ground := Go.Ground.data }], guard := none }) (v := ?v33) rfl (by kernel_rfl) (fun _ _ _ h => h) (Or.inl ⟨by rfl, ?hy33⟩) (by assumption) ?rest33
      case hy33 => (intro wz hSw; (try dsimp only at hSw); go_simp; try with_reducible rfl)
      (try simp only [Act.put, List.setIfInBounds_toArray, List.set_cons_zero, List.set_cons_succ])
      refine wpAnyM_take (i := 3) (oi := { dst := some 38, op := Go.Op.fieldAddr 45 (Go.Operand.tmp 37) 0, type := 0, pos := "value.go:397", after := #[{ on := 2, ground := Go.Ground.data }], guard := none }) (v := ?v34) rfl (by kernel_rfl) (fun _ _ _ h => h) (Or.inl ⟨by rfl, ?hy34⟩) (by assumption) ?rest34
      case hy34 => (intro wz hSw; (try dsimp only at hSw); go_simp; try with_reducible rfl)
      (try simp only [Act.put, List.setIfInBounds_toArray, List.set_cons_zero, List.set_cons_succ])
      refine wpAnyM_take (i := 4) (oi := { dst := some 39, op := Go.Op.load 9 (Go.Operand.tmp 38), type := 9, pos := "value.go:397", after := #[{ on := 3, ground := Go.Ground.data }], guard := none }) (v := ?v35) rfl (by kernel_rfl) (fun _ _ _ h => h) (Or.inl ⟨by rfl, ?hy35⟩) (by assumption) ?rest35
      case hy35 => (intro wz hSw; (try dsimp only at hSw); go_simp; try with_reducible rfl)
      (try simp only [Act.put, List.setIfInBounds_toArray, List.set_cons_zero, List.set_cons_succ])
      refine wpAnyM_take (i := 5) (oi := { dst := some 40, op := Go.Op.fieldAddr 45 (Go.Operand.tmp 8) 0, type := 0, pos := "value.go:397", after := #[], guard := none }) (v := ?v36) rfl (by kernel_rfl) (fun _ _ _ h => h) (Or.inl ⟨by rfl, ?hy36⟩) (by assumption) ?rest36
      case hy36 => (intro wz hSw; (try dsimp only at hSw); go_simp; try with_reducible rfl)
      (try simp only [Act.put, List.setIfInBounds_toArray, List.set_cons_zero, List.set_cons_succ])
      refine wpAnyM_take (i := 6) (oi := { dst := some 41, op := Go.Op.load 9 (Go.Operand.tmp 40), type := 9, pos := "value.go:397", after := #[{ on := 5, ground := Go.Ground.data }], guard := none }) (v := ?v37) rfl (by kernel_rfl) (fun _ _ _ h => h) (Or.inl ⟨by rfl, ?hy37⟩) (by assumption) ?rest37
      case hy37 => (intro wz hSw; (try dsimp only at hSw); go_simp; try with_reducible rfl)
      (try simp only [Act.put, List.setIfInBounds_toArray, List.set_cons_zero, List.set_cons_succ])
      refine wpAnyM_take (i := 7) (oi := { dst := some 42, op := Go.Op.binOp Go.BinOp.neq 9 (Go.Operand.tmp 39) (Go.Operand.tmp 41) 9, type := 4, pos := "value.go:397", after := #[{ on := 4, ground := Go.Ground.data }, { on := 6, ground := Go.Ground.data }], guard := none }) (v := ?v38) rfl (by kernel_rfl) (fun _ _ _ h => h) (Or.inl ⟨by rfl, ?hy38⟩) (by assumption) ?rest38
      case hy38 => (intro wz hSw; (try dsimp only at hSw); go_simp; try with_reducible rfl)
      (try simp only [Act.put, List.setIfInBounds_toArray, List.set_cons_zero, List.set_cons_succ])
      refine wpAnyM_take (i := 8) (oi := { dst := some 43, op := Go.Op.move (Go.Operand.tmp 42), type := 4, pos := "value.go:397", after := #[{ on := 7, ground := Go.Ground.data }], guard := none }) (v := ?v39) rfl (by kernel_rfl) (fun _ _ _ h => h) (Or.inl ⟨by rfl, ?hy39⟩) (by assumption) ?rest39
      case hy39 => (intro wz hSw; (try dsimp only at hSw); go_simp; try with_reducible rfl)
      (try simp only [Act.put, List.setIfInBounds_toArray, List.set_cons_zero, List.set_cons_succ])
      refine wpAnyM_take (i := 9) (oi := { dst := some 44, op := Go.Op.move (Go.Operand.tmp 5), type := 42, pos := "value.go:397", after := #[{ on := 8, ground := Go.Ground.guard }], guard := some (8, false) }) (v := ?v40) rfl (by kernel_rfl) (fun _ _ _ h => h) (Or.inl ⟨by rfl, ?hy40⟩) (by assumption) ?rest40
      case hy40 => (intro wz hSw; (try dsimp only at hSw); go_simp; try with_reducible rfl)
      (try simp only [Act.put, List.setIfInBounds_toArray, List.set_cons_zero, List.set_cons_succ])
      refine wpAnyM_take (i := 10) (oi := { dst := some 45, op := Go.Op.move (Go.Operand.tmp 7), type := 3, pos := "value.go:397", after := #[{ on := 8, ground := Go.Ground.guard }], guard := some (8, false) }) (v := ?v41) rfl (by kernel_rfl) (fun _ _ _ h => h) (Or.inl ⟨by rfl, ?hy41⟩) (by assumption) ?rest41
      case hy41 => (intro wz hSw; (try dsimp only at hSw); go_simp; try with_reducible rfl)
      (try simp only [Act.put, List.setIfInBounds_toArray, List.set_cons_zero, List.set_cons_succ])
      refine wpAnyM_take (i := 11) (oi := { dst := some 46, op := Go.Op.indexAddr 42 (Go.Operand.tmp 44) (Go.Operand.tmp 45), type := 0, pos := "value.go:397", after := #[{ on := 9, ground := Go.Ground.data }, { on := 10, ground := Go.Ground.data }, { on := 8, ground := Go.Ground.guard }], guard := some (8, false) }) (v := ?v42) rfl (by kernel_rfl) (fun _ _ _ h => h) (Or.inl ⟨by rfl, ?hy42⟩) (by assumption) ?rest42
      case hy42 => (intro wz hSw; (try dsimp only at hSw); go_simp; try with_reducible rfl)
      (try simp only [Act.put, List.setIfInBounds_toArray, List.set_cons_zero, List.set_cons_succ])
      refine wpAnyM_take (i := 12) (oi := { dst := some 47, op := Go.Op.fieldAddr 45 (Go.Operand.tmp 46) 1, type := 0, pos := "value.go:397", after := #[{ on := 11, ground := Go.Ground.data }, { on := 8, ground := Go.Ground.guard }], guard := some (8, false) }) (v := ?v43) rfl (by kernel_rfl) (fun _ _ _ h => h) (Or.inl ⟨by rfl, ?hy43⟩) (by assumption) ?rest43
      case hy43 => (intro wz hSw; (try dsimp only at hSw); go_simp; try with_reducible rfl)
      (try simp only [Act.put, List.setIfInBounds_toArray, List.set_cons_zero, List.set_cons_succ])
      refine wpAnyM_take (i := 13) (oi := { dst := some 48, op := Go.Op.load 27 (Go.Operand.tmp 47), type := 27, pos := "value.go:397", after := #[{ on := 12, ground := Go.Ground.data }, { on := 8, ground := Go.Ground.guard }], guard := some (8, false) }) (v := ?v44) rfl (by kernel_rfl) (fun _ _ _ h => h) (Or.inl ⟨by rfl, ?hy44⟩) (by assumption) ?rest44
      case hy44 => (intro wz hSw; (try dsimp only at hSw); go_simp; try with_reducible rfl)
      (try simp only [Act.put, List.setIfInBounds_toArray, List.set_cons_zero, List.set_cons_succ])
      refine wpAnyM_take (i := 14) (oi := { dst := some 49, op := Go.Op.fieldAddr 45 (Go.Operand.tmp 8) 1, type := 0, pos := "value.go:397", after := #[{ on := 8, ground := Go.Ground.guard }], guard := some (8, false) }) (v := ?v45) rfl (by kernel_rfl) (fun _ _ _ h => h) (Or.inl ⟨by rfl, ?hy45⟩) (by assumption) ?rest45
      case hy45 => (intro wz hSw; (try dsimp only at hSw); go_simp; try with_reducible rfl)
      (try simp only [Act.put, List.setIfInBounds_toArray, List.set_cons_zero, List.set_cons_succ])
      refine wpAnyM_take (i := 15) (oi := { dst := some 50, op := Go.Op.load 27 (Go.Operand.tmp 49), type := 27, pos := "value.go:397", after := #[{ on := 14, ground := Go.Ground.data }, { on := 8, ground := Go.Ground.guard }], guard := some (8, false) }) (v := ?v46) rfl (by kernel_rfl) (fun _ _ _ h => h) (Or.inl ⟨by rfl, ?hy46⟩) (by assumption) ?rest46
      case hy46 => (intro wz hSw; (try dsimp only at hSw); go_simp; try with_reducible rfl)
      (try simp only [Act.put, List.setIfInBounds_toArray, List.set_cons_zero, List.set_cons_succ])
      refine wpAnyM_ready (rs := [16]) (by kernel_rfl) (by simp) ?_
      refine AllReadyM.cons (o := { dst := some 51, op := Go.Op.call { callee := Go.Callee.value (Go.Operand.func 26), args := #[Go.Operand.tmp 48, Go.Operand.tmp 50], argTypes := #[27, 27] }, type := 4, pos := "value.go:397", after := #[{ on := 13, ground := Go.Ground.data }, { on := 15, ground := Go.Ground.data }, { on := 8, ground := Go.Ground.chain }, { on := 8, ground := Go.Ground.guard }], guard := some (8, false) }) rfl (fun K hK => ?_) AllReadyM.nil
      refine step_callW _ (by rfl) 26 [.tmp 48, .tmp 50] #[27, 27] rfl (by kernel_rfl) [_, _] rfl (sameValues_any _ _ la _ (HV1.out.1.ext HEd9.out) (HV1.out.2.ext HEd9.out)) ?_
      rintro en w9_16 ⟨rfl, hE⟩
      refine ⟨_, rfl, ?_⟩
      have HE9_16 := hid (HEd9.out.trans hE)
      have HEq9_16 := hid (HEq9.out.trans hE)
      clear hE
      refine hK.out _ _ ?hS47 (fun hHeld => ?_)
      case hS47 => (exact K9.out _ HE9_16.out HEq9_16.out)
      clear hK K
      (try simp only [Act.put, List.setIfInBounds_toArray, List.set_cons_zero, List.set_cons_succ])
      refine wpAnyM_take (i := 17) (oi := { dst := some 52, op := Go.Op.unOp Go.UnOp.not 4 (Go.Operand.tmp 51), type := 4, pos := "value.go:397", after := #[{ on := 16, ground := Go.Ground.data }, { on := 8, ground := Go.Ground.guard }], guard := some (8, false) }) (v := ?v48) rfl (by kernel_rfl) (fun _ _ _ h => h) (Or.inl ⟨by rfl, ?hy48⟩) (by assumption) ?rest48
      case hy48 => (intro wz hSw; (try dsimp only at hSw); go_simp; try with_reducible rfl)
      (try simp only [Act.put, List.setIfInBounds_toArray, List.set_cons_zero, List.set_cons_succ])
      refine wpAnyM_take (i := 18) (oi := { dst := some 53, op := Go.Op.pick (Go.Operand.tmp 43) (Go.Operand.const (Go.Value.bool true)) (Go.Operand.tmp 52), type := 4, pos := "value.go:397", after := #[{ on := 8, ground := Go.Ground.data }, { on := 17, ground := Go.Ground.data }], guard := none }) (v := ?v49) rfl (by kernel_rfl) (fun _ _ _ h => h) (Or.inl ⟨by rfl, ?hy49⟩) (by assumption) ?rest49
      case hy49 => (intro wz hSw; (try dsimp only at hSw); go_simp; try with_reducible rfl)
      (try simp only [Act.put, List.setIfInBounds_toArray, List.set_cons_zero, List.set_cons_succ])
      refine wpAnyM_take (i := 19) (oi := { dst := some 54, op := Go.Op.move (Go.Operand.tmp 53), type := 4, pos := "value.go:397", after := #[{ on := 18, ground := Go.Ground.data }, { on := 16, ground := Go.Ground.chain }], guard := none }) (v := ?v50) rfl (by kernel_rfl) (fun _ _ _ h => h) (Or.inl ⟨by rfl, ?hy50⟩) (by assumption) ?rest50
      case hy50 => (intro wz hSw; (try dsimp only at hSw); go_simp; try with_reducible rfl)
      (try simp only [Act.put, List.setIfInBounds_toArray, List.set_cons_zero, List.set_cons_succ])
      refine wpAnyM_take (i := 20) (oi := { dst := some 55, op := Go.Op.move (Go.Operand.tmp 5), type := 42, pos := "value.go:397", after := #[{ on := 19, ground := Go.Ground.guard }], guard := some (19, false) }) (v := ?v51) rfl (by kernel_rfl) (fun _ _ _ h => h) (Or.inl ⟨by rfl, ?hy51⟩) (by assumption) ?rest51
      case hy51 => (intro wz hSw; (try dsimp only at hSw); go_simp; try with_reducible rfl)
      (try simp only [Act.put, List.setIfInBounds_toArray, List.set_cons_zero, List.set_cons_succ])
      refine wpAnyM_take (i := 21) (oi := { dst := some 56, op := Go.Op.move (Go.Operand.tmp 7), type := 3, pos := "value.go:397", after := #[{ on := 19, ground := Go.Ground.guard }], guard := some (19, false) }) (v := ?v52) rfl (by kernel_rfl) (fun _ _ _ h => h) (Or.inl ⟨by rfl, ?hy52⟩) (by assumption) ?rest52
      case hy52 => (intro wz hSw; (try dsimp only at hSw); go_simp; try with_reducible rfl)
      (try simp only [Act.put, List.setIfInBounds_toArray, List.set_cons_zero, List.set_cons_succ])
      refine wpAnyM_take (i := 22) (oi := { dst := some 57, op := Go.Op.indexAddr 42 (Go.Operand.tmp 55) (Go.Operand.tmp 56), type := 0, pos := "value.go:397", after := #[{ on := 20, ground := Go.Ground.data }, { on := 21, ground := Go.Ground.data }, { on := 19, ground := Go.Ground.guard }], guard := some (19, false) }) (v := ?v53) rfl (by kernel_rfl) (fun _ _ _ h => h) (Or.inl ⟨by rfl, ?hy53⟩) (by assumption) ?rest53
      case hy53 => (intro wz hSw; (try dsimp only at hSw); go_simp; try with_reducible rfl)
      (try simp only [Act.put, List.setIfInBounds_toArray, List.set_cons_zero, List.set_cons_succ])
      refine wpAnyM_take (i := 23) (oi := { dst := some 58, op := Go.Op.fieldAddr 45 (Go.Operand.tmp 57) 2, type := 0, pos := "value.go:397", after := #[{ on := 22, ground := Go.Ground.data }, { on := 19, ground := Go.Ground.guard }], guard := some (19, false) }) (v := ?v54) rfl (by kernel_rfl) (fun _ _ _ h => h) (Or.inl ⟨by rfl, ?hy54⟩) (by assumption) ?rest54
      case hy54 => (intro wz hSw; (try dsimp only at hSw); go_simp; try with_reducible rfl)
      (try simp only [Act.put, List.setIfInBounds_toArray, List.set_cons_zero, List.set_cons_succ])
      refine wpAnyM_take (i := 24) (oi := { dst := some 59, op := Go.Op.load 27 (Go.Operand.tmp 58), type := 27, pos := "value.go:397", after := #[{ on := 23, ground := Go.Ground.data }, { on := 19, ground := Go.Ground.guard }], guard := some (19, false) }) (v := ?v55) rfl (by kernel_rfl) (fun _ _ _ h => h) (Or.inl ⟨by rfl, ?hy55⟩) (by assumption) ?rest55
      case hy55 => (intro wz hSw; (try dsimp only at hSw); go_simp; try with_reducible rfl)
      (try simp only [Act.put, List.setIfInBounds_toArray, List.set_cons_zero, List.set_cons_succ])
      refine wpAnyM_take (i := 25) (oi := { dst := some 60, op := Go.Op.fieldAddr 45 (Go.Operand.tmp 8) 2, type := 0, pos := "value.go:397", after := #[{ on := 19, ground := Go.Ground.guard }], guard := some (19, false) }) (v := ?v56) rfl (by kernel_rfl) (fun _ _ _ h => h) (Or.inl ⟨by rfl, ?hy56⟩) (by assumption) ?rest56
      case hy56 => (intro wz hSw; (try dsimp only at hSw); go_simp; try with_reducible rfl)
      (try simp only [Act.put, List.setIfInBounds_toArray, List.set_cons_zero, List.set_cons_succ])
      refine wpAnyM_take (i := 26) (oi := { dst := some 61, op := Go.Op.load 27 (Go.Operand.tmp 60), type := 27, pos := "value.go:397", after := #[{ on := 25, ground := Go.Ground.data }, { on := 19, ground := Go.Ground.guard }], guard := some (19, false) }) (v := ?v57) rfl (by kernel_rfl) (fun _ _ _ h => h) (Or.inl ⟨by rfl, ?hy57⟩) (by assumption) ?rest57
      case hy57 => (intro wz hSw; (try dsimp only at hSw); go_simp; try with_reducible rfl)
      (try simp only [Act.put, List.setIfInBounds_toArray, List.set_cons_zero, List.set_cons_succ])
      refine wpAnyM_ready (rs := [27]) (by kernel_rfl) (by simp) ?_
      refine AllReadyM.cons (o := { dst := some 62, op := Go.Op.call { callee := Go.Callee.value (Go.Operand.func 26), args := #[Go.Operand.tmp 59, Go.Operand.tmp 61], argTypes := #[27, 27] }, type := 4, pos := "value.go:397", after := #[{ on := 24, ground := Go.Ground.data }, { on := 26, ground := Go.Ground.data }, { on := 19, ground := Go.Ground.chain }, { on := 19, ground := Go.Ground.guard }], guard := some (19, false) }) rfl (fun K hK => ?_) AllReadyM.nil
      refine step_callW _ (by rfl) 26 [.tmp 59, .tmp 61] #[27, 27] rfl (by kernel_rfl) [_, _] rfl (sameValues_any _ _ lb _ (HV2.out.1.ext HE9_16.out) (HV2.out.2.ext HE9_16.out)) ?_
      rintro en w9_27 ⟨rfl, hE⟩
      refine ⟨_, rfl, ?_⟩
      have HE9_27 := hid (HE9_16.out.trans hE)
      have HEq9_27 := hid (HEq9_16.out.trans hE)
      clear hE
      refine hK.out _ _ ?hS58 (fun hHeld => ?_)
      case hS58 => (exact K9.out _ HE9_27.out HEq9_27.out)
      clear hK K
      (try simp only [Act.put, List.setIfInBounds_toArray, List.set_cons_zero, List.set_cons_succ])
      refine wpAnyM_take (i := 28) (oi := { dst := some 63, op := Go.Op.unOp Go.UnOp.not 4 (Go.Operand.tmp 62), type := 4, pos := "value.go:397", after := #[{ on := 27, ground := Go.Ground.data }, { on := 19, ground := Go.Ground.guard }], guard := some (19, false) }) (v := ?v59) rfl (by kernel_rfl) (fun _ _ _ h => h) (Or.inl ⟨by rfl, ?hy59⟩) (by assumption) ?rest59
      case hy59 => (intro wz hSw; (try dsimp only at hSw); go_simp; try with_reducible rfl)
      (try simp only [Act.put, List.setIfInBounds_toArray, List.set_cons_zero, List.set_cons_succ])
      refine wpAnyM_take (i := 29) (oi := { dst := some 64, op := Go.Op.pick (Go.Operand.tmp 54) (Go.Operand.const (Go.Value.bool true)) (Go.Operand.tmp 63), type := 4, pos := "value.go:397", after := #[{ on := 19, ground := Go.Ground.data }, { on := 28, ground := Go.Ground.data }], guard := none }) (v := ?v60) rfl (by kernel_rfl) (fun _ _ _ h => h) (Or.inl ⟨by rfl, ?hy60⟩) (by assumption) ?rest60
      case hy60 => (intro wz hSw; (try dsimp only at hSw); go_simp; try with_reducible rfl)
      (try simp only [Act.put, List.setIfInBounds_toArray, List.set_cons_zero, List.set_cons_succ])
      refine wpAnyM_done (by kernel_rfl) ?_ _
      go_wp2_with fail
      exact ⟨⟨j + 1, by go_num, by omega, hid (HX.out.trans HE9_27.out)⟩, by simp [intOf]; omega⟩
    · go_wp2_with fail
      go_ret
      exact ⟨rfl, HE5.out.trans HX.out⟩
section
variable {H : Type} {enc : TypeId × Value → H} {P : Program} {w : World} {base : Nat} {spare : Nat → Bool} {held : Bool}
theorem trodAll_args {t0 t1 : TypeId} {args : Array Value} {ds : List (DataW H)} {ps : List MemPlace} (h : DataW.TrodAll enc P w base spare held [t0, t1] args.toList ds ps) :
    ∃ v0 v1 d0 d1 p0 p1, args = #[v0, v1] ∧ ds = [d0, d1] ∧ DataW.Trod enc P w base spare held t0 v0 d0 p0 ∧ DataW.Trod enc P w base spare held t1 v1 d1 p1 := by
  obtain ⟨v0, vs0, d0, ds0, p0, q0, hargs, rfl, rfl, hd0, hr0⟩ := trodAll_cons h
  obtain ⟨v1, vs1, d1, ds1, p1, q1, rfl, rfl, rfl, hd1, hr1⟩ := trodAll_cons hr0
  obtain ⟨rfl, rfl, rfl⟩ := trodAll_nil hr1
  exact ⟨v0, v1, d0, d1, p0, p1, by cases args; simp_all, rfl, hd0, hd1⟩
end
theorem own : ownKnob Try.prog.godebug = none := by kernel_rfl
set_option maxRecDepth 100000 in
theorem lifted (os : Os) (started : os.Started) (H : Type) (enc : TypeId × Value → H) :
    ReturnsInHanded {} Try.checked os 6 .any (Rows.fnZipMapsSpec.pre6 enc Try.prog Try.f6 Rows.fnZipMapsRow.domain false) (Rows.fnZipMapsSpec.post enc Try.prog Try.f6 false true false false) := by
  refine law_lifted (C := Try.checked) own started (by kernel_rfl) Try.func6 (by kernel_rfl)
    (fun t ht => by
      have ht' : t ∈ ([32, 32] : List TypeId) := by rwa [Try.params6] at ht
      simp only [List.mem_cons, List.not_mem_nil, or_false] at ht'
      rcases ht' with rfl | rfl <;> exact ⟨by kernel_rfl, of_decide_eq_true (by kernel_rfl)⟩) (by kernel_rfl) rfl
    (fun ds hl => by rw [Try.params6] at hl; match ds, hl with | [d0, d1], _ => exact ⟨rfl, rfl, rfl⟩)
    (ChangeSpec.witness6 (enc := enc) (C := Try.checked) false ⟨#[], #[.agg #[.int .i64 0, .int .i64 0, .float .f64 0, .string ⟨#[]⟩, .slice none 0 0, .slice none 0 0], .agg #[.int .i64 0, .int .i64 0, .float .f64 0, .string ⟨#[]⟩, .slice none 0 0, .slice none 0 0]], []⟩ 8 (by kernel_rfl) (by kernel_rfl) (by kernel_rfl) (by kernel_rfl)) ?_
  intro W base args ds p hval hA hsz
  rw [Try.params6] at hA hval hsz
  obtain ⟨v0, v1, d0, d1, p0, p1, rfl, rfl, h0, h1⟩ := trodAll_args hA
  have hw : ∀ n ∈ DataW.weightsEach Try.prog [32, 32] [d0, d1], n ≤ 140737488351232 := by
    intro n hn
    exact of_decide_eq_true (List.all_eq_true.1 hsz n hn)
  obtain ⟨cs0, rfl, _⟩ := okWide_struct Try.underlying32 (hval 0 32 v0 rfl rfl)
  obtain ⟨fu0, h0⟩ := h0
  obtain ⟨g0, hg0⟩ := open_gv fu0 cs0.toList (d0, p0) h0 (weightsEach_mem (j := 0) rfl rfl hw)
  obtain ⟨cs1, rfl, _⟩ := okWide_struct Try.underlying32 (hval 1 32 v1 rfl rfl)
  obtain ⟨fu1, h1⟩ := h1
  obtain ⟨g1, hg1⟩ := open_gv fu1 cs1.toList (d1, p1) h1 (weightsEach_mem (j := 1) rfl rfl hw)
  have := walk g0 g1 W cs0.toList cs1.toList hg0 hg1
  rwa [Array.toArray_toList, Array.toArray_toList] at this

theorem over : Rows.fnZipMapsRow.holds Try.pinned (OpenSpec.ofChange Rows.fnZipMapsSpec) :=
  OpenClaim.holds_of_wide 6 Try.f6 rfl rfl rfl rfl rfl rfl rfl ⟨rfl, rfl, rfl, rfl, rfl⟩ rfl rfl rfl rfl rfl (by kernel_rfl) Try.func6 (by kernel_rfl)
    (of_decide_eq_true (by kernel_rfl)) (by unfold Func.isWrapper; first | (rw [if_pos (by decide +kernel)]; kernel_rfl) | (rw [if_neg (by decide +kernel)]; exact ⟨rfl, rfl⟩))
    (fun os started H enc _ => lifted os started H enc)

theorem proved : Rows.FnZipMapsSaid :=
  over
#print axioms proved
end Go.Proofs.Ytempfaefopfobaa.fnZip
