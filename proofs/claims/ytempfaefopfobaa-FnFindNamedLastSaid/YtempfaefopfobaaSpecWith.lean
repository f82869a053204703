/- SpecWith: spec.WithField: a plain map with a field more. -/
import Derived.Test.YtempfaefopfobaaSpecIdx
import Derived.Test.YtempfaefopfobaaAppend
import Derived.Deep.Cut

namespace Go.Proofs.Ytempfaefopfobaa
open Go.ChangeShapes Go.WideShapes Go.ChangeAt Go.RowKit
set_option linter.unusedVariables false
set_option linter.unusedSimpArgs false

theorem info_str : (Try.prog.info? 9).map (fun i => (i.zero, i.size, i.bytes)) = some (some (.string ByteArray.empty), 1, 16) := by kernel_rfl
theorem info_val : (Try.prog.info? 32).map (fun i => (i.zero, i.size, i.bytes)) = some (some (.agg #[.int .i64 0, .int .i64 0, .float .f64 0, .string ByteArray.empty, .slice none 0 0, .slice none 0 0]), 6, 88) := by kernel_rfl

def withF (m : GV) (key : ByteArray) (v : GV) : GV :=
  let i := cnt m.keys key
  let j := if m.keys[i]? = some key then i + 1 else i
  .mk 6 0 0 ByteArray.empty (m.keys.take i ++ [key] ++ m.keys.drop j) (m.l.take i ++ [v] ++ m.l.drop j)

/-- out, a plain map under way: its two slices are rows of the call's own. -/
structure WSt (w0 W : World) (B O ck cl : Nat) (kv lv : Value) (xk xl : List Value) : Prop where
  below : Below B w0 W
  hB : B ≤ w0.heap.size
  out : W.heap[O]? = some (.cells #[.int .i64 6, .int .i64 0, .float .f64 0, .string ⟨#[]⟩, kv, lv] 32)
  hO : B ≤ O
  ok : W.ownsRow (O + 1) 9 1 kv ck xk
  ol : W.ownsRow (O + 1) 32 6 lv cl xl
  apart : ∀ g, kv.ownBlock = some g → lv.ownBlock ≠ some g
section
variable {w0 W W' : World} {B O ck cl : Nat} {kv lv : Value} {xk xl : List Value}
theorem WSt.drew (h : WSt w0 W B O ck cl kv lv xk xl) : WSt w0 W.drew B O ck cl kv lv xk xl := ⟨h.below.drew, h.hB, h.out, h.hO, h.ok, h.ol, h.apart⟩
theorem WSt.lt (h : WSt w0 W B O ck cl kv lv xk xl) : O < W.heap.size := (Array.getElem?_eq_some_iff.1 h.out).1
theorem WSt.base (h : WSt w0 W B O ck cl kv lv xk xl) : O + 1 ≤ W.heap.size := h.lt
theorem WSt.alloc (h : WSt w0 W B O ck cl kv lv xk xl) (o : Obj) : WSt w0 (W.alloc o) B O ck cl kv lv xk xl :=
  ⟨below_ext h.below ((Ext.refl W).alloc o) (Nat.le_trans h.hB h.below.size), h.hB, (Below.heap_alloc W o O h.lt).trans h.out, h.hO, h.ok.alloc o, h.ol.alloc o, h.apart⟩
theorem WSt.cell (h : WSt w0 W B O ck cl kv lv xk xl) (j : Nat) (v : Value) (hv : (#[.int .i64 6, .int .i64 0, .float .f64 0, .string ⟨#[]⟩, kv, lv] : Array Value)[j]? = some v) : W.cell? ⟨O, j, none⟩ = some v := by
  simp only [World.cell?, h.out]; simpa using hv
theorem WSt.free (h : WSt w0 W B O ck cl kv lv xk xl) (j : Nat) : W.frozen? ⟨O, j, none⟩ = false := by
  simp [World.frozen?, h.out]
theorem WSt.start {w1 : World} (hE : Ext w0 w1) : WSt w0 (w1.alloc (.cells #[.int .i64 6, .int .i64 0, .float .f64 0, .string ⟨#[]⟩, .slice none 0 0, .slice none 0 0] 32)) w0.heap.size w1.heap.size 0 0 (.slice none 0 0) (.slice none 0 0) [] [] :=
  ⟨hE.alloc _, Nat.le_refl _, heap_alloc_new w1 _, hE.size, World.ownsRow_nil _ _ _ _, World.ownsRow_nil _ _ _ _, fun g h => by simp [Value.ownBlock] at h⟩
theorem WSt.keys (h : WSt w0 W B O ck cl kv lv xk xl) (hg : W.grownBy W' kv.ownBlock) {a' : Option Addr} {n' c' : Nat} {xk' : List Value} (ho : W'.ownsRow (O + 1) 9 1 (.slice a' n' c') n' xk')
    (ha : a' = kv.ownBlock.map (fun g => ⟨g, 0, none⟩) ∨ a' = some ⟨W.heap.size, 0, none⟩) : WSt w0 (W'.setCell ⟨O, 4, none⟩ (.slice a' n' c')) B O n' cl (.slice a' n' c') lv xk' xl := by
  have hlt := h.lt
  have hk := h.ok.lt
  have hl := h.ol.lt
  have hO' : W'.heap[O]? = some (.cells #[.int .i64 6, .int .i64 0, .float .f64 0, .string ⟨#[]⟩, kv, lv] 32) := (hg.block O hlt (fun e => by have := hk O e.symm; omega)).trans h.out
  have hbel : Below B w0 W' := h.below.trans ⟨hg.os, hg.tape, hg.output, hg.size, fun k hk' => hg.block k (by have := h.hO; omega) (fun e => by have := hk k e.symm; have := h.hO; omega)⟩
  refine ⟨hbel.setCell (by simpa using h.hO) _, h.hB, (setCell_heap hO' 4 _).trans (by rfl), h.hO, ownsRow_setCell_below ho (by simp) _, ?_, fun g hg' => ?_⟩
  · refine ownsRow_setCell_below (h.ol.kept hg ?_) (by simp) _
    cases hlv : lv.ownBlock with
    | none => exact .inl rfl
    | some g => exact .inr (fun e => h.apart g e.symm hlv)
  · rcases ha with rfl | rfl
    · cases hkv : kv.ownBlock with
      | none => rw [hkv] at hg'; simp [Value.ownBlock] at hg'
      | some g0 =>
        rw [hkv] at hg'; simp [Value.ownBlock] at hg'
        subst hg'; exact h.apart g0 hkv
    · simp [Value.ownBlock] at hg'
      subst hg'
      intro e
      have := (hl _ e).2
      omega
theorem WSt.afterK (h : WSt w0 W B O ck cl kv lv xk xl) (hg : W.grownBy W' kv.ownBlock) (j : Nat) : W'.cell? ⟨O, j, none⟩ = (#[.int .i64 6, .int .i64 0, .float .f64 0, .string ⟨#[]⟩, kv, lv] : Array Value)[j]? ∧ W'.frozen? ⟨O, j, none⟩ = false := by
  have hO' := (hg.block O h.lt (fun e => by have := h.ok.lt O e.symm; omega)).trans h.out
  exact ⟨cell_of_heap hO' j, free_of_heap hO' j⟩
theorem WSt.afterV (h : WSt w0 W B O ck cl kv lv xk xl) (hg : W.grownBy W' lv.ownBlock) (j : Nat) : W'.cell? ⟨O, j, none⟩ = (#[.int .i64 6, .int .i64 0, .float .f64 0, .string ⟨#[]⟩, kv, lv] : Array Value)[j]? ∧ W'.frozen? ⟨O, j, none⟩ = false := by
  have hO' := (hg.block O h.lt (fun e => by have := h.ol.lt O e.symm; omega)).trans h.out
  exact ⟨cell_of_heap hO' j, free_of_heap hO' j⟩
theorem WSt.vals (h : WSt w0 W B O ck cl kv lv xk xl) (hg : W.grownBy W' lv.ownBlock) {a' : Option Addr} {n' c' : Nat} {xl' : List Value} (ho : W'.ownsRow (O + 1) 32 6 (.slice a' n' c') n' xl')
    (ha : a' = lv.ownBlock.map (fun g => ⟨g, 0, none⟩) ∨ a' = some ⟨W.heap.size, 0, none⟩) : WSt w0 (W'.setCell ⟨O, 5, none⟩ (.slice a' n' c')) B O ck n' kv (.slice a' n' c') xk xl' := by
  have hlt := h.lt
  have hk := h.ok.lt
  have hl := h.ol.lt
  have hO' : W'.heap[O]? = some (.cells #[.int .i64 6, .int .i64 0, .float .f64 0, .string ⟨#[]⟩, kv, lv] 32) := (hg.block O hlt (fun e => by have := hl O e.symm; omega)).trans h.out
  have hbel : Below B w0 W' := h.below.trans ⟨hg.os, hg.tape, hg.output, hg.size, fun k hk' => hg.block k (by have := h.hO; omega) (fun e => by have := hl k e.symm; have := h.hO; omega)⟩
  refine ⟨hbel.setCell (by simpa using h.hO) _, h.hB, (setCell_heap hO' 5 _).trans (by rfl), h.hO, ?_, ownsRow_setCell_below ho (by simp) _, fun g hg' => ?_⟩
  · refine ownsRow_setCell_below (h.ok.kept hg ?_) (by simp) _
    cases hkv : kv.ownBlock with
    | none => exact .inl rfl
    | some g => exact .inr (fun e => h.apart g hkv e.symm)
  · intro e
    rcases ha with rfl | rfl
    · cases hlv : lv.ownBlock with
      | none => rw [hlv] at e; simp [Value.ownBlock] at e
      | some g0 =>
        rw [hlv] at e; simp [Value.ownBlock] at e
        subst e; exact h.apart g0 hg' hlv
    · simp [Value.ownBlock] at e
      subst e
      have := (hk _ hg').2
      omega
end

theorem withF_rep {S : Nat → Prop} {w WF : World} {kd n : Int} {f : Nat} {s key : ByteArray} {ks : List ByteArray} {l : List GV} {v : GV} {i j O nk nl : Nat} {ok : Bool} {xs cv : List Value} {ak al : Option Addr} {ck cl : Nat}
    (hi : cnt ks key = i) (hok : decide (ks[i]? = some key) = ok) (hlen : ks.length = l.length) (hS : ∀ b, w.heap.size ≤ b → S b) (hkl : ∀ s ∈ ks, s.size ≤ 140737488351232) (hks : key.size ≤ 140737488351232) (hsz : (l.length + 1) * 88 ≤ 140737488351232)
    (hrow : RowGV S w xs l) (hv : RepGV S w v cv) (hE : Ext w WF) (hj : j = if ok then i + 1 else i)
    (hK : WF.ownsRow (O + 1) 9 1 (.slice ak nk ck) nk ((ks.take i).map .string ++ [.string key] ++ ((ks.take ks.length).drop j).map .string))
    (hL : WF.ownsRow (O + 1) 32 6 (.slice al nl cl) nl (xs.take (i * 6) ++ cv ++ (xs.take (l.length * 6)).drop (j * 6))) (hO : w.heap.size ≤ O) :
    RepGV S WF (withF (.mk kd n f s ks l) key v) [.int .i64 6, .int .i64 0, .float .f64 0, .string ⟨#[]⟩, .slice ak nk ck, .slice al nl cl] := by
  have hw : withF (.mk kd n f s ks l) key v = .mk 6 0 0 ByteArray.empty (ks.take i ++ [key] ++ ks.drop j) (l.take i ++ [v] ++ l.drop j) := by
    simp only [withF, GV.keys, GV.l, hi]
    subst hj
    by_cases h : ks[i]? = some key
    · have : ok = true := by rw [← hok]; simpa using h
      simp [h, this]
    · have : ok = false := by rw [← hok]; simpa using h
      simp [h, this]
  rw [hw]
  have hile : i ≤ ks.length := hi ▸ cnt_le ks key
  have hij : i ≤ j ∧ j ≤ i + 1 ∧ j ≤ ks.length := by
    subst hj
    cases ok with
    | false => simpa using hile
    | true =>
      simp only [decide_eq_true_eq] at hok
      have := (List.getElem?_eq_some_iff.1 hok).1
      simp; omega
  have hrow' : RowGV S WF (xs.take (i * 6) ++ cv ++ (xs.take (l.length * 6)).drop (j * 6)) (l.take i ++ [v] ++ l.drop j) := by
    have h1 := hrow.mono (hE.same S) (fun _ h _ => h)
    have h2 := RowGV.one (hv.mono (hE.same S) (fun _ h _ => h))
    have h3 : xs.take (l.length * 6) = xs := List.take_of_length_le (by rw [hrow.1]; omega)
    rw [h3]
    exact ((h1.take i).append h2).append (h1.drop j)
  have hkk : (ks.take i).map Value.string ++ [Value.string key] ++ ((ks.take ks.length).drop j).map Value.string = (ks.take i ++ [key] ++ ks.drop j).map Value.string := by simp
  rw [hkk] at hK
  have hSO : ∀ b, O + 1 ≤ b → S b := fun b hb => hS b (by omega)
  have hlk : (ks.take i ++ [key] ++ ks.drop j).length ≤ ks.length + 1 := by simp; omega
  have hll : (l.take i ++ [v] ++ l.drop j).length ≤ l.length + 1 := by simp; omega
  have hRK := strs_of_row hK hSO (by omega) (by
    intro s hs
    simp only [List.mem_append, List.mem_singleton] at hs
    rcases hs with (hs | rfl) | hs
    · exact hkl s (List.mem_of_mem_take hs)
    · exact hks
    · exact hkl s (List.mem_of_mem_drop hs))
  obtain ⟨hn, hle, lb, ha, hcs, hl'⟩ := vals_of_row hL hrow' hSO
  subst hn
  exact .mk (by decide) (by decide) (by decide) (by decide) hRK hle (by omega) ha hcs hl'

set_option maxRecDepth 100000 in
set_option maxHeartbeats 2000000 in
theorem withField_any (S : Nat → Prop) (m v : GV) (cm cv : List Value) (key : ByteArray) (w : World) (hS : ∀ b, w.heap.size ≤ b → S b) (hm : RepGV S w m cm) (hv : RepGV S w v cv) (hso : SortedK m.keys) (hlen : m.keys.length = m.l.length)
    (hsz : (m.l.length + 1) * 88 ≤ 140737488351232) (hks : key.size ≤ 140737488351232) :
    Calls Try.prog 67 #[.agg cm.toArray, .string key, .agg cv.toArray] w fun e w' => ∃ cs, e = .returned (.agg cs.toArray) ∧ RepGV S w' (withF m key v) cs ∧ Ext w w' := by
  obtain ⟨kv', nv, fv, sv, va1, vb1, vc1, va2, vb2, vc2, rfl⟩ := hv.form
  obtain ⟨is, his, hs0, hs1, hs2⟩ := info_parts info_str
  obtain ⟨iv, hiv, hv0, hv1, hv2⟩ := info_parts info_val
  cases hm with
  | @mk kd n f s ks l kv la lb lo lc hk hn hf hs hks' hle hsz' ha hcs hl =>
    have hks0 := hks'
    obtain ⟨ka, kb, ko, kc, rfl, hkle, hksz, hka, hkc, hkl⟩ := hks'
    simp only [GV.keys, GV.l] at hlen hsz hso
    obtain ⟨i, hi⟩ : ∃ i, cnt ks key = i := ⟨_, rfl⟩
    obtain ⟨ok, hok⟩ : ∃ ok, decide (ks[i]? = some key) = ok := ⟨_, rfl⟩
    have hile : i ≤ ks.length := hi ▸ cnt_le ks key
    have HIDX := hid (fun (w : World) (h : RepStrs S w (.slice ka ks.length kc) ks) => hok ▸ hi ▸ fieldIndex_any kd n f s _ (.slice la l.length lc) ks key w h hso ⟨_, _, _, rfl⟩)
    have HI := hid hi
    have HOK := hid hok
    have HKS := hid hks0
    have HV := hid hv
    have HC := hid hcs
    have HL := hid hl
    have HK := hid hkc
    have HKL := hid hkl
    have HLEN := hid hlen
    have hil : i ≤ l.length := by omega
    have sk1 := fun wx => run_slice_to Try.underlying26 his ka ks.length kc i (by omega) wx
    have sl1 := fun wx => run_slice_to Try.underlying27 hiv la l.length lc i (by omega) wx
    clear hv hcs hl hkc hkl hks0 hk hn hf hso hlen hi hok
    go_enter Try.func67, Try.ntmps67
    go_wp2_with (go_at_call 102; ((with_reducible refine (HIDX.out _ (HKS.out.ext ?_)).mono ?_)); exact (((Ext.refl _).alloc _).alloc _).alloc _; rintro e w1 ⟨rfl, hE1⟩)
    have st0 := WSt.start hE1
    have bx := hid (boxes3 w (.cells #[.int .i64 kd, .int .i64 n, .float .f64 f, .string s, .slice ka ks.length kc, .slice la l.length lc] 32) (.cells #[.int .i64 kv', .int .i64 nv, .float .f64 fv, .string sv, .slice va1 vb1 vc1, .slice va2 vb2 vc2] 32) (.cells #[.int .i64 0, .int .i64 0, .float .f64 0, .string ⟨#[]⟩, .slice none 0 0, .slice none 0 0] 32))
    simp only [World.size_alloc] at st0
    generalize (((w.alloc (.cells #[.int .i64 kd, .int .i64 n, .float .f64 f, .string s, .slice ka ks.length kc, .slice la l.length lc] 32)).alloc (.cells #[.int .i64 kv', .int .i64 nv, .float .f64 fv, .string sv, .slice va1 vb1 vc1, .slice va2 vb2 vc2] 32)).alloc (.cells #[.int .i64 0, .int .i64 0, .float .f64 0, .string ⟨#[]⟩, .slice none 0 0, .slice none 0 0] 32)) = wb at st0 bx hE1
    revert st0
    generalize w1.alloc _ = W0
    intro st0
    obtain ⟨xs, hrow, hxs⟩ := row_of_rep HC.out HL.out
    have HROW := hid hrow
    have his1' := hid hs1
    have hiv1' := hid hv1
    have HXS := hid hxs
    have hlx := HLEN.out
    have hib : (i + 1) * 88 ≤ 140737488351232 := by omega
    have hkb : ks.length * 88 ≤ 140737488351232 := by omega
    clear hlx hrow hxs
    go_upto_region 3 with fail
    go_cut [] from 10 (fun wx => ∃ a c, WSt wb wx (w.heap.size + 3) w1.heap.size i 0 (.slice a i c) (.slice none 0 0) ((ks.take i).map .string) [])
    case first =>
      obtain ⟨b1, b2, b3, hE2⟩ := bx.out _ st0.below
      have mm := (cell_of_heap b1 4).trans rfl
      have oo := st0.cell 4 _ rfl
      clear b1 b2 b3
      have src : SrcAt W0 ka i ((ks.take i).map .string) := by simpa using src_strs (HKS.out.ext hE2) hile (i := 0) (ao := ka) (fun b o h _ => by rw [h]; simp) (by cases ka; exact .inl rfl; exact .inr ⟨_, rfl⟩) (Nat.zero_le _)
      go_region_law (refine step_append_src _ rfl (.tmp 18) (.tmp 22) 26 rfl (w1.heap.size + 1) 9 is (.string ByteArray.empty) 1 16 Try.underlying26 his hs0 hs1 hs2 rfl (by decide) (.slice none 0 0) 0 [] rfl st0.drew.ok ka i kc ((ks.take i).map .string) rfl (by simp; omega) src.drew (strs_oneCell _) (by unfold maxLen; omega) (by omega) st0.base ?_; intro a2 c2 w2 ho2 hg2 hb2; obtain ⟨p2, q2⟩ := st0.drew.afterK hg2 4; replace p2 := p2.trans rfl)
      all_goals
        go_wp2_with fail
        go_meet
        case rel =>
          have st2 := st0.drew.keys hg2 ho2 hb2
          first | exact ⟨_, _, st2⟩ | (simp only [Nat.zero_add, List.nil_append] at st2; exact ⟨_, _, st2⟩) | (rw [show i + 1 + (ks.length - (i + 1)) = ks.length by omega] at st2; exact ⟨_, _, st2⟩) | (rw [show i + 1 + (l.length - (i + 1)) = l.length by omega] at st2; exact ⟨_, _, st2⟩)
    case rest =>
      obtain ⟨ak, ck, st1⟩ := hcut
      go_upto_region 4 with fail
      go_cut [] from 10 (fun wx => ∃ a c, WSt wb wx (w.heap.size + 3) w1.heap.size i i (.slice ak i ck) (.slice a i c) ((ks.take i).map .string) (xs.take (i * 6)))
      case first =>
        obtain ⟨b1, b2, b3, hE2⟩ := bx.out _ st1.below
        have mm := (cell_of_heap b1 5).trans rfl
        have oo := st1.cell 5 _ rfl
        clear b1 b2 b3
        have src : SrcAt wc la i (xs.take (i * 6)) := by simpa using src_row (fun j u hu => hE2.cellS (HXS.out j u hu)) (i := 0) (j := i) (ao := la) (fun h => (ha (by omega)).1) (fun h _ => by rw [h]; simp) (Nat.zero_le _)
        go_region_law (refine step_append_src _ rfl (.tmp 26) (.tmp 30) 27 rfl (w1.heap.size + 1) 32 iv (.agg #[.int .i64 0, .int .i64 0, .float .f64 0, .string ByteArray.empty, .slice none 0 0, .slice none 0 0]) 6 88 Try.underlying27 hiv hv0 hv1 hv2 rfl (by decide) (.slice none 0 0) 0 [] rfl st1.drew.ol la i lc (xs.take (i * 6)) rfl (by have := HROW.out.1; simp; omega) src.drew (by intro u hu; exact HROW.out.oneCell u (List.mem_of_mem_take hu)) (by unfold maxLen; omega) (by omega) st1.base ?_; intro a2 c2 w2 ho2 hg2 hb2; obtain ⟨p2, q2⟩ := st1.drew.afterV hg2 5; replace p2 := p2.trans rfl)
        all_goals
          go_wp2_with fail
          go_meet
          case rel =>
            have st2 := st1.drew.vals hg2 ho2 hb2
            first | exact ⟨_, _, st2⟩ | (simp only [Nat.zero_add, List.nil_append] at st2; exact ⟨_, _, st2⟩) | (rw [show i + 1 + (ks.length - (i + 1)) = ks.length by omega] at st2; exact ⟨_, _, st2⟩) | (rw [show i + 1 + (l.length - (i + 1)) = l.length by omega] at st2; exact ⟨_, _, st2⟩)
      case rest =>
        obtain ⟨al, cl, st2⟩ := hcut
        go_upto_region 5 with fail
        go_cut [] from 10 (fun wx => ∃ a c, WSt wb wx (w.heap.size + 3) w1.heap.size (i + 1) i (.slice a (i + 1) c) (.slice al i cl) (((ks.take i).map .string) ++ [.string key]) (xs.take (i * 6)))
        case first =>
          obtain ⟨b1, b2, b3, hE2⟩ := bx.out _ st2.below
          have oo := st2.cell 4 _ rfl
          clear b1 b2 b3
          go_wp2_with (at_builtin; refine wpList_append_src _ rfl (.tmp 34) (.tmp 36) 26 rfl (w1.heap.size + 1) 9 is (.string ByteArray.empty) 1 16 Try.underlying26 his hs0 hs1 hs2 rfl (by decide) (.slice ak i ck) i ((ks.take i).map .string) rfl (st2.alloc (.cells #[.string key] 9)).ok (some ⟨wc.heap.size, 0, none⟩) 1 1 [.string key] rfl rfl (src_block _ _ _ _) (one_one rfl) (by unfold maxLen; omega) (by omega) (st2.alloc (.cells #[.string key] 9)).base ?_; intro a2 c2 w2 ho2 hg2 hb2; obtain ⟨p2, q2⟩ := (st2.alloc (.cells #[.string key] 9)).afterK hg2 4; replace p2 := p2.trans rfl)
          go_meet
          case rel => exact ⟨_, _, (st2.alloc _).keys hg2 ho2 hb2⟩
        case rest =>
          obtain ⟨ak3, ck3, st3⟩ := hcut
          go_upto_region 6 with fail
          go_cut [] from 10 (fun wx => ∃ a c, WSt wb wx (w.heap.size + 3) w1.heap.size (i + 1) (i + 1) (.slice ak3 (i + 1) ck3) (.slice a (i + 1) c) (((ks.take i).map .string) ++ [.string key]) ((xs.take (i * 6)) ++ [.int .i64 kv', .int .i64 nv, .float .f64 fv, .string sv, .slice va1 vb1 vc1, .slice va2 vb2 vc2]))
          case first =>
            obtain ⟨b1, b2, b3, hE2⟩ := bx.out _ st3.below
            have oo := st3.cell 5 _ rfl
            have vv0 := (cell_of_heap b2 0).trans rfl
            have vv1 := (cell_of_heap b2 1).trans rfl
            have vv2 := (cell_of_heap b2 2).trans rfl
            have vv3 := (cell_of_heap b2 3).trans rfl
            have vv4 := (cell_of_heap b2 4).trans rfl
            have vv5 := (cell_of_heap b2 5).trans rfl
            clear b1 b2 b3
            go_wp2_with (at_builtin; refine wpList_append_src _ rfl (.tmp 40) (.tmp 42) 27 rfl (w1.heap.size + 1) 32 iv (.agg #[.int .i64 0, .int .i64 0, .float .f64 0, .string ByteArray.empty, .slice none 0 0, .slice none 0 0]) 6 88 Try.underlying27 hiv hv0 hv1 hv2 rfl (by decide) (.slice al i cl) i (xs.take (i * 6)) rfl (st3.alloc (.cells #[.int .i64 kv', .int .i64 nv, .float .f64 fv, .string sv, .slice va1 vb1 vc1, .slice va2 vb2 vc2] 32)).ol (some ⟨wc.heap.size, 0, none⟩) 1 1 [.int .i64 kv', .int .i64 nv, .float .f64 fv, .string sv, .slice va1 vb1 vc1, .slice va2 vb2 vc2] rfl rfl (src_block _ _ _ _) (rep_oneCell HV.out) (by unfold maxLen; omega) (by omega) (st3.alloc (.cells #[.int .i64 kv', .int .i64 nv, .float .f64 fv, .string sv, .slice va1 vb1 vc1, .slice va2 vb2 vc2] 32)).base ?_; intro a2 c2 w2 ho2 hg2 hb2; obtain ⟨p2, q2⟩ := (st3.alloc (.cells #[.int .i64 kv', .int .i64 nv, .float .f64 fv, .string sv, .slice va1 vb1 vc1, .slice va2 vb2 vc2] 32)).afterV hg2 5; replace p2 := p2.trans rfl)
            go_meet
            case rel => exact ⟨_, _, (st3.alloc _).vals hg2 ho2 hb2⟩
          case rest =>
            obtain ⟨al4, cl4, st4⟩ := hcut
            cases ok with
            | true =>
              have hji : i + 1 ≤ ks.length := by
                have := HOK.out
                simp only [decide_eq_true_eq] at this
                have := (List.getElem?_eq_some_iff.1 this).1
                omega
              have hjl : i + 1 ≤ l.length := by have := HLEN.out; omega
              obtain ⟨aoK, sk2, hK1, hK2⟩ := run_slice_from Try.underlying26 his ka ks.length kc (i + 1) hji hkle
              obtain ⟨aoL, sl2, hL1, hL2⟩ := run_slice_from Try.underlying27 hiv la l.length lc (i + 1) hjl hle
              rw [show ((i + 1 : Nat) : Int) = (i : Int) + 1 by omega] at sk2 sl2
              have HK1 := hid hK1
              have HL1 := hid hL1
              clear hK1 hK2 hL1 hL2
              go_upto_region 9 with fail
              go_cut [] from 10 (fun wx => ∃ a c, WSt wb wx (w.heap.size + 3) w1.heap.size ks.length (i + 1) (.slice a ks.length c) (.slice al4 (i + 1) cl4) ((((ks.take i).map .string) ++ [.string key]) ++ ((ks.take ks.length).drop (i + 1)).map .string) ((xs.take (i * 6)) ++ [.int .i64 kv', .int .i64 nv, .float .f64 fv, .string sv, .slice va1 vb1 vc1, .slice va2 vb2 vc2]))
              case first =>
                obtain ⟨b1, b2, b3, hE2⟩ := bx.out _ st4.below
                have mm := (cell_of_heap b1 4).trans rfl
                have oo := st4.cell 4 _ rfl
                clear b1 b2 b3
                have src : SrcAt wc aoK (ks.length - (i + 1)) (((ks.take ks.length).drop (i + 1)).map .string) := src_strs (HKS.out.ext hE2) (Nat.le_refl _) (fun b o h hl => by have := HK1.out b o h hl; rw [this, his1'.out]; simp) (by cases aoK; exact .inl rfl; exact .inr ⟨_, rfl⟩) hji
                go_region_law (refine step_append_src _ rfl (.tmp 49) (.tmp 53) 26 rfl (w1.heap.size + 1) 9 is (.string ByteArray.empty) 1 16 Try.underlying26 his hs0 hs1 hs2 rfl (by decide) (.slice ak3 (i + 1) ck3) (i + 1) (((ks.take i).map .string) ++ [.string key]) rfl st4.drew.ok aoK (ks.length - (i + 1)) (kc - (i + 1)) (((ks.take ks.length).drop (i + 1)).map .string) rfl (by simp) src.drew (strs_oneCell _) (by unfold maxLen; omega) (by omega) st4.base ?_; intro a2 c2 w2 ho2 hg2 hb2; obtain ⟨p2, q2⟩ := st4.drew.afterK hg2 4; replace p2 := p2.trans rfl)
                all_goals
                  go_wp2_with fail
                  go_meet
                  case rel =>
                    have st2 := st4.drew.keys hg2 ho2 hb2
                    first | exact ⟨_, _, st2⟩ | (simp only [Nat.zero_add, List.nil_append] at st2; exact ⟨_, _, st2⟩) | (rw [show i + 1 + (ks.length - (i + 1)) = ks.length by omega] at st2; exact ⟨_, _, st2⟩) | (rw [show i + 1 + (l.length - (i + 1)) = l.length by omega] at st2; exact ⟨_, _, st2⟩)
              case rest =>
                obtain ⟨ak5, ck5, st5⟩ := hcut
                go_upto_region 10 with fail
                go_cut [] from 10 (fun wx => ∃ a c, WSt wb wx (w.heap.size + 3) w1.heap.size ks.length l.length (.slice ak5 ks.length ck5) (.slice a l.length c) ((((ks.take i).map .string) ++ [.string key]) ++ ((ks.take ks.length).drop (i + 1)).map .string) (((xs.take (i * 6)) ++ [.int .i64 kv', .int .i64 nv, .float .f64 fv, .string sv, .slice va1 vb1 vc1, .slice va2 vb2 vc2]) ++ (xs.take (l.length * 6)).drop ((i + 1) * 6)))
                case first =>
                  obtain ⟨b1, b2, b3, hE2⟩ := bx.out _ st5.below
                  have mm := (cell_of_heap b1 5).trans rfl
                  have oo := st5.cell 5 _ rfl
                  clear b1 b2 b3
                  have src : SrcAt wc aoL (l.length - (i + 1)) ((xs.take (l.length * 6)).drop ((i + 1) * 6)) := src_row (fun j u hu => hE2.cellS (HXS.out j u hu)) (fun h => (ha (by omega)).1) (fun h hl => by have := HL1.out _ _ h hl; rw [this, hiv1'.out]) hjl
                  go_region_law (refine step_append_src _ rfl (.tmp 57) (.tmp 61) 27 rfl (w1.heap.size + 1) 32 iv (.agg #[.int .i64 0, .int .i64 0, .float .f64 0, .string ByteArray.empty, .slice none 0 0, .slice none 0 0]) 6 88 Try.underlying27 hiv hv0 hv1 hv2 rfl (by decide) (.slice al4 (i + 1) cl4) (i + 1) ((xs.take (i * 6)) ++ [.int .i64 kv', .int .i64 nv, .float .f64 fv, .string sv, .slice va1 vb1 vc1, .slice va2 vb2 vc2]) rfl st5.drew.ol aoL (l.length - (i + 1)) (lc - (i + 1)) ((xs.take (l.length * 6)).drop ((i + 1) * 6)) rfl (by have := HROW.out.1; simp; omega) src.drew (by intro u hu; exact HROW.out.oneCell u (List.mem_of_mem_take (List.mem_of_mem_drop hu))) (by unfold maxLen; omega) (by omega) st5.base ?_; intro a2 c2 w2 ho2 hg2 hb2; obtain ⟨p2, q2⟩ := st5.drew.afterV hg2 5; replace p2 := p2.trans rfl)
                  all_goals
                    go_wp2_with fail
                    go_meet
                    case rel =>
                      have st2 := st5.drew.vals hg2 ho2 hb2
                      first | exact ⟨_, _, st2⟩ | (simp only [Nat.zero_add, List.nil_append] at st2; exact ⟨_, _, st2⟩) | (rw [show i + 1 + (ks.length - (i + 1)) = ks.length by omega] at st2; exact ⟨_, _, st2⟩) | (rw [show i + 1 + (l.length - (i + 1)) = l.length by omega] at st2; exact ⟨_, _, st2⟩)
                case rest =>
                  obtain ⟨al6, cl6, st6⟩ := hcut
                  obtain ⟨b1, b2, b3, hE2⟩ := bx.out _ st6.below
                  have oo0 := st6.cell 0 _ rfl
                  have zz0 : wc.cell? ⟨w.heap.size + 1 + 1, 0, none⟩ = some _ := (cell_of_heap b3 0).trans rfl
                  have ff0 : wc.frozen? ⟨w.heap.size + 1 + 1, 0, none⟩ = false := free_of_heap b3 0
                  have oo1 := st6.cell 1 _ rfl
                  have zz1 : wc.cell? ⟨w.heap.size + 1 + 1, 1, none⟩ = some _ := (cell_of_heap b3 1).trans rfl
                  have ff1 : wc.frozen? ⟨w.heap.size + 1 + 1, 1, none⟩ = false := free_of_heap b3 1
                  have oo2 := st6.cell 2 _ rfl
                  have zz2 : wc.cell? ⟨w.heap.size + 1 + 1, 2, none⟩ = some _ := (cell_of_heap b3 2).trans rfl
                  have ff2 : wc.frozen? ⟨w.heap.size + 1 + 1, 2, none⟩ = false := free_of_heap b3 2
                  have oo3 := st6.cell 3 _ rfl
                  have zz3 : wc.cell? ⟨w.heap.size + 1 + 1, 3, none⟩ = some _ := (cell_of_heap b3 3).trans rfl
                  have ff3 : wc.frozen? ⟨w.heap.size + 1 + 1, 3, none⟩ = false := free_of_heap b3 3
                  have oo4 := st6.cell 4 _ rfl
                  have zz4 : wc.cell? ⟨w.heap.size + 1 + 1, 4, none⟩ = some _ := (cell_of_heap b3 4).trans rfl
                  have ff4 : wc.frozen? ⟨w.heap.size + 1 + 1, 4, none⟩ = false := free_of_heap b3 4
                  have oo5 := st6.cell 5 _ rfl
                  have zz5 : wc.cell? ⟨w.heap.size + 1 + 1, 5, none⟩ = some _ := (cell_of_heap b3 5).trans rfl
                  have ff5 : wc.frozen? ⟨w.heap.size + 1 + 1, 5, none⟩ = false := free_of_heap b3 5
                  have HB3 := hid b3
                  clear b1 b2 b3
                  go_wp2_with fail
                  have e6 := set6_heap HB3.out (.int .i64 6) (.int .i64 0) (.float .f64 0) (.string ⟨#[]⟩) (.slice ak5 ks.length ck5) (.slice al6 l.length cl6)
                  have x6 := set6_below hE2 (b := w.heap.size + 2) (by omega) (.int .i64 6) (.int .i64 0) (.float .f64 0) (.string ⟨#[]⟩) (.slice ak5 ks.length ck5) (.slice al6 l.length cl6)
                  have k6 := set6_own st6.ok (b := w.heap.size + 2) (by have := st6.hO; omega) (.int .i64 6) (.int .i64 0) (.float .f64 0) (.string ⟨#[]⟩) (.slice ak5 ks.length ck5) (.slice al6 l.length cl6)
                  have l6 := set6_own st6.ol (b := w.heap.size + 2) (by have := st6.hO; omega) (.int .i64 6) (.int .i64 0) (.float .f64 0) (.string ⟨#[]⟩) (.slice ak5 ks.length ck5) (.slice al6 l.length cl6)
                  change bodyPost _ _ _ _ _ (set6 wc (w.heap.size + 2) (.int .i64 6) (.int .i64 0) (.float .f64 0) (.string ⟨#[]⟩) (.slice ak5 ks.length ck5) (.slice al6 l.length cl6))
                  generalize set6 wc (w.heap.size + 2) (.int .i64 6) (.int .i64 0) (.float .f64 0) (.string ⟨#[]⟩) (.slice ak5 ks.length ck5) (.slice al6 l.length cl6) = WF at *
                  have y0 := (cell_of_heap e6 0).trans rfl
                  have y1 := (cell_of_heap e6 1).trans rfl
                  have y2 := (cell_of_heap e6 2).trans rfl
                  have y3 := (cell_of_heap e6 3).trans rfl
                  have y4 := (cell_of_heap e6 4).trans rfl
                  have y5 := (cell_of_heap e6 5).trans rfl
                  refine bodyPost_ret (v := .agg #[.int .i64 6, .int .i64 0, .float .f64 0, .string ⟨#[]⟩, .slice ak5 ks.length ck5, .slice al6 l.length cl6]) (by simp [results, Try.results67, go_sem, y0, y1, y2, y3, y4, y5]) rfl ?_
                  exact ⟨[.int .i64 6, .int .i64 0, .float .f64 0, .string ⟨#[]⟩, .slice ak5 ks.length ck5, .slice al6 l.length cl6], rfl, withF_rep HI.out HOK.out HLEN.out hS HKL.out hks hsz HROW.out HV.out x6 (by rfl) k6 l6 (by have := hE1.size; have := st0.hO; omega), x6⟩
            | false =>
              have hji : i ≤ ks.length := hile
              have hjl : i ≤ l.length := by have := HLEN.out; omega
              obtain ⟨aoK, sk2, hK1, hK2⟩ := run_slice_from Try.underlying26 his ka ks.length kc i hji hkle
              obtain ⟨aoL, sl2, hL1, hL2⟩ := run_slice_from Try.underlying27 hiv la l.length lc i hjl hle
              have HK1 := hid hK1
              have HL1 := hid hL1
              clear hK1 hK2 hL1 hL2
              go_upto_region 9 with fail
              go_cut [] from 10 (fun wx => ∃ a c, WSt wb wx (w.heap.size + 3) w1.heap.size (i + 1 + (ks.length - i)) (i + 1) (.slice a (i + 1 + (ks.length - i)) c) (.slice al4 (i + 1) cl4) ((((ks.take i).map .string) ++ [.string key]) ++ ((ks.take ks.length).drop i).map .string) ((xs.take (i * 6)) ++ [.int .i64 kv', .int .i64 nv, .float .f64 fv, .string sv, .slice va1 vb1 vc1, .slice va2 vb2 vc2]))
              case first =>
                obtain ⟨b1, b2, b3, hE2⟩ := bx.out _ st4.below
                have mm := (cell_of_heap b1 4).trans rfl
                have oo := st4.cell 4 _ rfl
                clear b1 b2 b3
                have src : SrcAt wc aoK (ks.length - i) (((ks.take ks.length).drop i).map .string) := src_strs (HKS.out.ext hE2) (Nat.le_refl _) (fun b o h hl => by have := HK1.out b o h hl; rw [this, his1'.out]; simp) (by cases aoK; exact .inl rfl; exact .inr ⟨_, rfl⟩) hji
                go_region_law (refine step_append_src _ rfl (.tmp 49) (.tmp 53) 26 rfl (w1.heap.size + 1) 9 is (.string ByteArray.empty) 1 16 Try.underlying26 his hs0 hs1 hs2 rfl (by decide) (.slice ak3 (i + 1) ck3) (i + 1) (((ks.take i).map .string) ++ [.string key]) rfl st4.drew.ok aoK (ks.length - i) (kc - i) (((ks.take ks.length).drop i).map .string) rfl (by simp) src.drew (strs_oneCell _) (by unfold maxLen; omega) (by omega) st4.base ?_; intro a2 c2 w2 ho2 hg2 hb2; obtain ⟨p2, q2⟩ := st4.drew.afterK hg2 4; replace p2 := p2.trans rfl)
                all_goals
                  go_wp2_with fail
                  go_meet
                  case rel =>
                    have st2 := st4.drew.keys hg2 ho2 hb2
                    first | exact ⟨_, _, st2⟩ | (simp only [Nat.zero_add, List.nil_append] at st2; exact ⟨_, _, st2⟩) | (rw [show i + 1 + (ks.length - (i + 1)) = ks.length by omega] at st2; exact ⟨_, _, st2⟩) | (rw [show i + 1 + (l.length - (i + 1)) = l.length by omega] at st2; exact ⟨_, _, st2⟩)
              case rest =>
                obtain ⟨ak5, ck5, st5⟩ := hcut
                go_upto_region 10 with fail
                go_cut [] from 10 (fun wx => ∃ a c, WSt wb wx (w.heap.size + 3) w1.heap.size (i + 1 + (ks.length - i)) (i + 1 + (l.length - i)) (.slice ak5 (i + 1 + (ks.length - i)) ck5) (.slice a (i + 1 + (l.length - i)) c) ((((ks.take i).map .string) ++ [.string key]) ++ ((ks.take ks.length).drop i).map .string) (((xs.take (i * 6)) ++ [.int .i64 kv', .int .i64 nv, .float .f64 fv, .string sv, .slice va1 vb1 vc1, .slice va2 vb2 vc2]) ++ (xs.take (l.length * 6)).drop (i * 6)))
                case first =>
                  obtain ⟨b1, b2, b3, hE2⟩ := bx.out _ st5.below
                  have mm := (cell_of_heap b1 5).trans rfl
                  have oo := st5.cell 5 _ rfl
                  clear b1 b2 b3
                  have src : SrcAt wc aoL (l.length - i) ((xs.take (l.length * 6)).drop (i * 6)) := src_row (fun j u hu => hE2.cellS (HXS.out j u hu)) (fun h => (ha (by omega)).1) (fun h hl => by have := HL1.out _ _ h hl; rw [this, hiv1'.out]) hjl
                  go_region_law (refine step_append_src _ rfl (.tmp 57) (.tmp 61) 27 rfl (w1.heap.size + 1) 32 iv (.agg #[.int .i64 0, .int .i64 0, .float .f64 0, .string ByteArray.empty, .slice none 0 0, .slice none 0 0]) 6 88 Try.underlying27 hiv hv0 hv1 hv2 rfl (by decide) (.slice al4 (i + 1) cl4) (i + 1) ((xs.take (i * 6)) ++ [.int .i64 kv', .int .i64 nv, .float .f64 fv, .string sv, .slice va1 vb1 vc1, .slice va2 vb2 vc2]) rfl st5.drew.ol aoL (l.length - i) (lc - i) ((xs.take (l.length * 6)).drop (i * 6)) rfl (by have := HROW.out.1; simp; omega) src.drew (by intro u hu; exact HROW.out.oneCell u (List.mem_of_mem_take (List.mem_of_mem_drop hu))) (by unfold maxLen; omega) (by omega) st5.base ?_; intro a2 c2 w2 ho2 hg2 hb2; obtain ⟨p2, q2⟩ := st5.drew.afterV hg2 5; replace p2 := p2.trans rfl)
                  all_goals
                    go_wp2_with fail
                    go_meet
                    case rel =>
                      have st2 := st5.drew.vals hg2 ho2 hb2
                      first | exact ⟨_, _, st2⟩ | (simp only [Nat.zero_add, List.nil_append] at st2; exact ⟨_, _, st2⟩) | (rw [show i + 1 + (ks.length - (i + 1)) = ks.length by omega] at st2; exact ⟨_, _, st2⟩) | (rw [show i + 1 + (l.length - (i + 1)) = l.length by omega] at st2; exact ⟨_, _, st2⟩)
                case rest =>
                  obtain ⟨al6, cl6, st6⟩ := hcut
                  obtain ⟨b1, b2, b3, hE2⟩ := bx.out _ st6.below
                  have oo0 := st6.cell 0 _ rfl
                  have zz0 : wc.cell? ⟨w.heap.size + 1 + 1, 0, none⟩ = some _ := (cell_of_heap b3 0).trans rfl
                  have ff0 : wc.frozen? ⟨w.heap.size + 1 + 1, 0, none⟩ = false := free_of_heap b3 0
                  have oo1 := st6.cell 1 _ rfl
                  have zz1 : wc.cell? ⟨w.heap.size + 1 + 1, 1, none⟩ = some _ := (cell_of_heap b3 1).trans rfl
                  have ff1 : wc.frozen? ⟨w.heap.size + 1 + 1, 1, none⟩ = false := free_of_heap b3 1
                  have oo2 := st6.cell 2 _ rfl
                  have zz2 : wc.cell? ⟨w.heap.size + 1 + 1, 2, none⟩ = some _ := (cell_of_heap b3 2).trans rfl
                  have ff2 : wc.frozen? ⟨w.heap.size + 1 + 1, 2, none⟩ = false := free_of_heap b3 2
                  have oo3 := st6.cell 3 _ rfl
                  have zz3 : wc.cell? ⟨w.heap.size + 1 + 1, 3, none⟩ = some _ := (cell_of_heap b3 3).trans rfl
                  have ff3 : wc.frozen? ⟨w.heap.size + 1 + 1, 3, none⟩ = false := free_of_heap b3 3
                  have oo4 := st6.cell 4 _ rfl
                  have zz4 : wc.cell? ⟨w.heap.size + 1 + 1, 4, none⟩ = some _ := (cell_of_heap b3 4).trans rfl
                  have ff4 : wc.frozen? ⟨w.heap.size + 1 + 1, 4, none⟩ = false := free_of_heap b3 4
                  have oo5 := st6.cell 5 _ rfl
                  have zz5 : wc.cell? ⟨w.heap.size + 1 + 1, 5, none⟩ = some _ := (cell_of_heap b3 5).trans rfl
                  have ff5 : wc.frozen? ⟨w.heap.size + 1 + 1, 5, none⟩ = false := free_of_heap b3 5
                  have HB3 := hid b3
                  clear b1 b2 b3
                  go_wp2_with fail
                  have e6 := set6_heap HB3.out (.int .i64 6) (.int .i64 0) (.float .f64 0) (.string ⟨#[]⟩) (.slice ak5 (i + 1 + (ks.length - i)) ck5) (.slice al6 (i + 1 + (l.length - i)) cl6)
                  have x6 := set6_below hE2 (b := w.heap.size + 2) (by omega) (.int .i64 6) (.int .i64 0) (.float .f64 0) (.string ⟨#[]⟩) (.slice ak5 (i + 1 + (ks.length - i)) ck5) (.slice al6 (i + 1 + (l.length - i)) cl6)
                  have k6 := set6_own st6.ok (b := w.heap.size + 2) (by have := st6.hO; omega) (.int .i64 6) (.int .i64 0) (.float .f64 0) (.string ⟨#[]⟩) (.slice ak5 (i + 1 + (ks.length - i)) ck5) (.slice al6 (i + 1 + (l.length - i)) cl6)
                  have l6 := set6_own st6.ol (b := w.heap.size + 2) (by have := st6.hO; omega) (.int .i64 6) (.int .i64 0) (.float .f64 0) (.string ⟨#[]⟩) (.slice ak5 (i + 1 + (ks.length - i)) ck5) (.slice al6 (i + 1 + (l.length - i)) cl6)
                  change bodyPost _ _ _ _ _ (set6 wc (w.heap.size + 2) (.int .i64 6) (.int .i64 0) (.float .f64 0) (.string ⟨#[]⟩) (.slice ak5 (i + 1 + (ks.length - i)) ck5) (.slice al6 (i + 1 + (l.length - i)) cl6))
                  generalize set6 wc (w.heap.size + 2) (.int .i64 6) (.int .i64 0) (.float .f64 0) (.string ⟨#[]⟩) (.slice ak5 (i + 1 + (ks.length - i)) ck5) (.slice al6 (i + 1 + (l.length - i)) cl6) = WF at *
                  have y0 := (cell_of_heap e6 0).trans rfl
                  have y1 := (cell_of_heap e6 1).trans rfl
                  have y2 := (cell_of_heap e6 2).trans rfl
                  have y3 := (cell_of_heap e6 3).trans rfl
                  have y4 := (cell_of_heap e6 4).trans rfl
                  have y5 := (cell_of_heap e6 5).trans rfl
                  refine bodyPost_ret (v := .agg #[.int .i64 6, .int .i64 0, .float .f64 0, .string ⟨#[]⟩, .slice ak5 (i + 1 + (ks.length - i)) ck5, .slice al6 (i + 1 + (l.length - i)) cl6]) (by simp [results, Try.results67, go_sem, y0, y1, y2, y3, y4, y5]) rfl ?_
                  exact ⟨[.int .i64 6, .int .i64 0, .float .f64 0, .string ⟨#[]⟩, .slice ak5 (i + 1 + (ks.length - i)) ck5, .slice al6 (i + 1 + (l.length - i)) cl6], rfl, withF_rep HI.out HOK.out HLEN.out hS HKL.out hks hsz HROW.out HV.out x6 (by rfl) k6 l6 (by have := hE1.size; have := st0.hO; omega), x6⟩
end Go.Proofs.Ytempfaefopfobaa
