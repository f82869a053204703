/- Plain: impl.plain, plainMap, toValue: what came in becomes a tree of the package's. -/
import Derived.Test.YtempfaefopfobaaTree

namespace Go.Proofs.Ytempfaefopfobaa
open Go.ChangeShapes Go.WideShapes Go.ChangeAt Go.RowKit
set_option linter.unusedVariables false
set_option linter.unusedSimpArgs false

theorem info_any : (Try.prog.info? 20).map (fun i => (i.zero, i.size, i.bytes)) = some (some .nilIface, 1, 16) := by kernel_rfl

def PlainOK (g : GV) : Prop := ∀ w cs, RepGV Any w g cs → Calls Try.prog 51 #[.agg cs.toArray] w fun e w' => ∃ x, e = .returned x ∧ RepT (fun b => w.heap.size ≤ b) w' (plainT g) x ∧ Ext w w'
def PlainMapOK (g : GV) : Prop := ∀ w cs, RepGV Any w g cs → Calls Try.prog 93 #[.agg cs.toArray] w fun e w' => ∃ r, e = .returned (.map (some r)) ∧ w.heap.size ≤ r ∧ RepM (fun b => r < b) w' (plainMapT g) r ∧ Ext w w'

theorem one_one {x : Value} (h : x.oneCell' = true) : ∀ u ∈ [x], u.oneCell' = true := by
  intro u hu
  simp at hu; subst hu; exact h
theorem listX_step {S : Nat → Prop} {w0 w3 : World} {l : List GV} {xs : List Value} {k : Nat} {x : Value} {g : GV} (hk : xs.length = k) (hg : l[k]? = some g)
    (hX : ∀ (j : Nat) (g : GV) (x : Value), l[j]? = some g → xs[j]? = some x → RepT S w0 (plainT g) x) (hs : Same S w0 w3) (hx : RepT S w3 (plainT g) x) :
    ∀ (j : Nat) (g : GV) (y : Value), l[j]? = some g → (xs ++ [x])[j]? = some y → RepT S w3 (plainT g) y := by
  intro j g' y hg' hy
  by_cases hj : j < k
  · rw [List.getElem?_append_left (by omega)] at hy
    exact (hX j g' y hg' hy).mono hs (fun _ h _ => h)
  · have hj2 := (List.getElem?_eq_some_iff.1 hy).1
    simp at hj2
    obtain rfl : j = k := by omega
    rw [hg] at hg'; cases hg'
    rw [List.getElem?_append_right (by omega), hk] at hy
    simp at hy; subst hy
    exact hx

set_option maxRecDepth 100000 in
theorem plain_1 (n : Int) (f : Nat) (s : ByteArray) (kv lv : Value) (w : World) : Calls Try.prog 51 #[.agg #[.int .i64 1, .int .i64 n, .float .f64 f, .string s, kv, lv]] w fun e w' => e = .returned (.iface 4 (.bool (n != 0))) ∧ Ext w w' := by
  go_enter Try.func51, Try.ntmps51
  go_wp2
  go_ret
  exact ⟨rfl, (Ext.refl _).alloc _⟩
set_option maxRecDepth 100000 in
theorem plain_2 (n : Int) (f : Nat) (s : ByteArray) (kv lv : Value) (w : World) : Calls Try.prog 51 #[.agg #[.int .i64 2, .int .i64 n, .float .f64 f, .string s, kv, lv]] w fun e w' => e = .returned (.iface 2 (.int .i64 n)) ∧ Ext w w' := by
  go_enter Try.func51, Try.ntmps51
  go_wp2
  go_ret
  exact ⟨rfl, (Ext.refl _).alloc _⟩
set_option maxRecDepth 100000 in
theorem plain_3 (n : Int) (f : Nat) (s : ByteArray) (kv lv : Value) (w : World) : Calls Try.prog 51 #[.agg #[.int .i64 3, .int .i64 n, .float .f64 f, .string s, kv, lv]] w fun e w' => e = .returned (.iface 30 (.float .f64 f)) ∧ Ext w w' := by
  go_enter Try.func51, Try.ntmps51
  go_wp2
  go_ret
  exact ⟨rfl, (Ext.refl _).alloc _⟩
set_option maxRecDepth 100000 in
theorem plain_4 (n : Int) (f : Nat) (s : ByteArray) (kv lv : Value) (w : World) : Calls Try.prog 51 #[.agg #[.int .i64 4, .int .i64 n, .float .f64 f, .string s, kv, lv]] w fun e w' => e = .returned (.iface 9 (.string s)) ∧ Ext w w' := by
  go_enter Try.func51, Try.ntmps51
  go_wp2
  go_ret
  exact ⟨rfl, (Ext.refl _).alloc _⟩
set_option maxRecDepth 100000 in
theorem plain_none (k n : Int) (f : Nat) (s : ByteArray) (kv lv : Value) (w : World) (h1 : k ≠ 1) (h2 : k ≠ 2) (h3 : k ≠ 3) (h4 : k ≠ 4) (h5 : k ≠ 5) (h6 : k ≠ 6) : Calls Try.prog 51 #[.agg #[.int .i64 k, .int .i64 n, .float .f64 f, .string s, kv, lv]] w fun e w' => e = .returned .nilIface ∧ Ext w w' := by
  go_enter Try.func51, Try.ntmps51
  go_wp2
  go_ret
  exact ⟨rfl, (Ext.refl _).alloc _⟩

set_option maxRecDepth 100000 in
set_option maxHeartbeats 1000000 in
theorem plain_list (n : Int) (f : Nat) (s : ByteArray) (kv : Value) (la : Option Addr) (lb lo lc : Nat) (l : List GV) (w : World)
    (hle : l.length ≤ lc) (hsz : l.length * 88 ≤ 140737488351232) (ha : 0 < l.length → la = some ⟨lb, lo, none⟩ ∧ Any lb)
    (hcs : ∀ i, i < l.length → ∃ cs, cs.length = 6 ∧ cellsAt w lb (lo + i * 6) cs)
    (hl : ∀ i g cs, l[i]? = some g → cs.length = 6 → cellsAt w lb (lo + i * 6) cs → RepGV Any w g cs) (ih : ∀ (i : Nat) (g : GV), l[i]? = some g → PlainOK g) :
    Calls Try.prog 51 #[.agg #[.int .i64 5, .int .i64 n, .float .f64 f, .string s, kv, .slice la l.length lc]] w fun e w' => ∃ x, e = .returned x ∧ RepT (fun b => w.heap.size ≤ b) w' (.list (plainTs l)) x ∧ Ext w w' := by
  obtain ⟨i0, hi, hz0, hz1, hz2⟩ := info_parts info_any
  have HC := hid hcs
  have HL := hid hl
  have HI := hid ih
  clear hcs hl ih
  go_enter Try.func51, Try.ntmps51
  go_wp2_with (at_make; refine wpList_make_own _ rfl _ _ 82 rfl (w.heap.size) 20 i0 .nilIface 1 Try.underlying82 hi hz0 hz1 _ _ _ l.length rfl rfl rfl ?c1 ?c2 ?c3 ?c4)
  case c1 => rw [hz2]; omega
  case c2 => unfold maxLen; omega
  case c3 => simp
  intro w1 hown1 hg1
  have hbox : w1.cell? ⟨w.heap.size, 5, none⟩ = some (.slice la l.length lc) := hg1.cell (by simp) (by simp)
  have hB1 : Below (w.heap.size + 1) (w.alloc (.cells #[.int .i64 5, .int .i64 n, .float .f64 f, .string s, kv, .slice la l.length lc] 32)) w1 := (ext_grownBy hg1).mono (by simp)
  have hs1 : w.heap.size + 1 < w1.heap.size := by have := (hown1.lt (w.heap.size + 1) rfl).2; omega
  go_wp2_with fail
  go_loopw [3, 38] (fun v i wr => ∃ (k : Nat) (xs : List Value), i = .int .i64 k ∧ k ≤ l.length ∧ v = .slice (some ⟨w.heap.size + 1, 0, none⟩) k l.length ∧ wr.ownsRow w.heap.size 20 1 (.slice (some ⟨w.heap.size + 1, 0, none⟩) k l.length) k xs ∧
    Hid (∀ (j : Nat) (g : GV) (x : Value), l[j]? = some g → xs[j]? = some x → RepT (fun b => w.heap.size + 1 < b) wr (plainT g) x) ∧ Below (w.heap.size + 1) (w.alloc (.cells #[.int .i64 5, .int .i64 n, .float .f64 f, .string s, kv, .slice la l.length lc] 32)) wr ∧ w.heap.size + 1 < wr.heap.size) (fun _ i _ => l.length - (intOf i).toNat)
  case atStart => exact ⟨0, [], rfl, Nat.zero_le _, rfl, hown1, fun j g x _ h => by simp at h, hB1, hs1⟩
  case round =>
    obtain ⟨k, xs, rfl, hk, rfl, hown, hX, hB, hs⟩ := hrel
    by_cases hlt : k < l.length
    · have ha2 := (ha (by omega)).1
      subst ha2
      obtain ⟨cs, hcl, hca⟩ := HC.out k hlt
      obtain ⟨g, hg⟩ : ∃ g, l[k]? = some g := ⟨_, List.getElem?_eq_getElem hlt⟩
      have hR := (HL.out k g cs hg hcl hca).ext (ext_of_below hB)
      have hca' := cellsAt_ext (ext_of_below hB) hca
      obtain ⟨k', n', f', s', a1, b1, c1, a2, b2, c2, rfl⟩ := hR.form
      obtain ⟨e0, e1, e2, e3, e4, e5⟩ := cells6 hca'
      have HP := hid (HI.out k g hg)
      have HR := hid hR
      have HG := hid hg
      clear hR hca hca' hcl hg
      go_wp2_with (first | (go_at_call 51; refine (HP.out _ _ (HR.out.ext ?_)).mono ?_; exact (Ext.refl _).alloc _; rintro e w2 ⟨x, rfl, hT, hE⟩; have HT := hid hT; rcases hT.form with rfl | ⟨ty, vv, rfl⟩) | (at_builtin; refine wpList_append_fits _ rfl (.tmp 42) (.tmp 45) 82 rfl w.heap.size 20 i0 1 Try.underlying82 hi hz1 (w.heap.size + 1) k l.length xs rfl ((ownsRow_ext (hown.alloc _) hE).alloc _) ⟨w2.heap.size, 0, none⟩ 1 1 [.iface ty vv] rfl rfl (cell_one_new _ _ _) (one_one rfl) (by omega) ?_; intro w3 hown3 hg3) | (at_builtin; refine wpList_append_fits _ rfl (.tmp 42) (.tmp 45) 82 rfl w.heap.size 20 i0 1 Try.underlying82 hi hz1 (w.heap.size + 1) k l.length xs rfl ((ownsRow_ext (hown.alloc _) hE).alloc _) ⟨w2.heap.size, 0, none⟩ 1 1 [.nilIface] rfl rfl (cell_one_new _ _ _) (one_one rfl) (by omega) ?_; intro w3 hown3 hg3))
      all_goals
        go_roundw
        case rel =>
          refine ⟨k + 1, _, by go_num, by omega, rfl, hown3, hid (listX_step (by have := hown.1; omega) HG.out hX.out ?_ ?_), ?_, ?_⟩
          · exact (((Ext.refl wr).alloc _).trans (hE.trans ((Ext.refl w2).alloc _))).same _ |>.trans (same_grownBy hg3 (fun b hb => by simp; omega))
          · refine HT.out.mono ((((Ext.refl w2).alloc _).same _).trans (same_grownBy hg3 (fun b hb => by simp at hb ⊢; omega))) (fun b hb _ => by simp at hb; omega)
          · exact ((hB.alloc (by omega) _).trans ((hE.trans ((Ext.refl w2).alloc _)).mono (by simp; omega))).trans ⟨hg3.os, hg3.tape, hg3.output, hg3.size, fun i hi => hg3.block i (by have := hE.size; simp at this ⊢; omega) (by simp; omega)⟩
          · have := hE.size; have := hg3.size; simp at *; omega
        case measure => simp [intOf]; omega
    · obtain rfl : k = l.length := by omega
      go_wp2_with fail
      go_ret
      refine ⟨_, rfl, ?_, ext_of_below hB⟩
      refine RepT.list_row (S' := fun b => w.heap.size + 1 < b) hown (by rw [plainTs_length]) (fun j t x ht hx => ?_) (fun b hb _ => by omega) (by omega) hsz
      obtain ⟨g, hg, rfl⟩ := plainTs_get ht
      exact hX.out j g x hg hx

set_option maxRecDepth 100000 in
theorem plain_map (n : Int) (f : Nat) (s : ByteArray) (ka : Option Addr) (kl kc : Nat) (la : Option Addr) (ll lc : Nat) (ks : List ByteArray) (l : List GV) (w : World)
    (hm : PlainMapOK (.mk 6 n f s ks l)) (hR : RepGV Any w (.mk 6 n f s ks l) [.int .i64 6, .int .i64 n, .float .f64 f, .string s, .slice ka kl kc, .slice la ll lc]) :
    Calls Try.prog 51 #[.agg #[.int .i64 6, .int .i64 n, .float .f64 f, .string s, .slice ka kl kc, .slice la ll lc]] w fun e w' => ∃ x, e = .returned x ∧ RepT (fun b => w.heap.size ≤ b) w' (.map (plainMapT (.mk 6 n f s ks l))) x ∧ Ext w w' := by
  have HM := hid hm
  have HR := hid hR
  clear hm hR
  go_enter Try.func51, Try.ntmps51
  go_wp2_with (go_at_call 93; refine (HM.out _ _ (HR.out.ext ?_)).mono ?_; exact (Ext.refl _).alloc _; rintro e w2 ⟨r, rfl, hr, hT, hE⟩)
  go_ret
  refine ⟨_, rfl, (RepM.toT (S := fun b => r < b ∨ b = r) ?_ (.inr rfl)).weak (fun b hb _ => ?_), ((Ext.refl _).alloc _).trans hE⟩
  · exact hT.mono (Same.refl _ _) (fun b hb _ => .inl hb) rfl
  · simp at hr; rcases hb with hb | rfl <;> omega

theorem plain_of (g : GV) (ih : ∀ (i : Nat) (x : GV), g.l[i]? = some x → PlainOK x) (hm : PlainMapOK g) : PlainOK g := by
  intro w cs hR
  have hR0 := hR
  cases hR with
  | @mk k n f s keys l kv la lb lo lc hk hn hf hs hks hle hsz ha hcs hl =>
    have hks0 := hks
    obtain ⟨ka, kb, ko, kc, rfl, _⟩ := hks0
    show Calls _ _ #[.agg #[.int .i64 k, .int .i64 n, .float .f64 f, .string s, .slice ka keys.length kc, .slice la l.length lc]] w _
    by_cases h1 : k = 1
    · subst h1
      exact (plain_1 n f s _ _ w).mono fun e w' ⟨he, hE⟩ => ⟨_, he, by rw [plainT]; exact .bool _, hE⟩
    by_cases h2 : k = 2
    · subst h2
      exact (plain_2 n f s _ _ w).mono fun e w' ⟨he, hE⟩ => ⟨_, he, by rw [plainT]; exact .int _ hn, hE⟩
    by_cases h3 : k = 3
    · subst h3
      exact (plain_3 n f s _ _ w).mono fun e w' ⟨he, hE⟩ => ⟨_, he, by rw [plainT]; exact .flt _ hf, hE⟩
    by_cases h4 : k = 4
    · subst h4
      exact (plain_4 n f s _ _ w).mono fun e w' ⟨he, hE⟩ => ⟨_, he, by rw [plainT]; exact .str _ hs, hE⟩
    by_cases h5 : k = 5
    · subst h5
      refine (plain_list n f s _ la lb lo lc l w hle hsz ha hcs hl ih).mono fun e w' ⟨x, he, hT, hE⟩ => ⟨x, he, ?_, hE⟩
      rw [plainT]; exact hT
    by_cases h6 : k = 6
    · subst h6
      refine (plain_map n f s _ _ _ _ _ _ keys l w hm hR0).mono fun e w' ⟨x, he, hT, hE⟩ => ⟨x, he, ?_, hE⟩
      rw [plainT]; exact hT
    · exact (plain_none k n f s _ _ w h1 h2 h3 h4 h5 h6).mono fun e w' ⟨he, hE⟩ => ⟨_, he, by rw [show plainT (.mk k n f s keys l) = .null by simp [plainT, h1, h2, h3, h4, h5, h6]]; exact .null, hE⟩

theorem map_room {ks : List ByteArray} {l : List GV} {k : Nat} (h : k < l.length) (hsz : l.length * 88 ≤ 140737488351232) : ((foldKV (List.take k (ks.zip (plainTs l))) []).length + 1) * 88 ≤ 140737488351232 := by
  have h1 := foldKV_length (List.take k (ks.zip (plainTs l))) []
  have h2 : (List.take k (ks.zip (plainTs l))).length ≤ k := List.length_take_le _ _
  simp only [List.length_nil] at h1
  omega
theorem zip_take_both {ks : List ByteArray} {ts : List Tree} {k : Nat} {s : ByteArray} {t : Tree} (h1 : ks[k]? = some s) (h2 : ts[k]? = some t) : (ks.zip ts).take (k + 1) = (ks.zip ts).take k ++ [(s, t)] := by
  rw [List.take_add_one, show (ks.zip ts)[k]? = some (s, t) from List.getElem?_zip_eq_some.2 ⟨h1, h2⟩]
  rfl
theorem zip_take_one {ks : List ByteArray} {ts : List Tree} {k : Nat} (h : ts.length ≤ k) : (ks.zip ts).take (k + 1) = (ks.zip ts).take k := by
  rw [List.take_of_length_le (by simp; omega), List.take_of_length_le (by simp; omega)]

set_option maxRecDepth 100000 in
set_option maxHeartbeats 1000000 in
theorem plainMap_of (g : GV) (ih : ∀ (i : Nat) (x : GV), g.l[i]? = some x → PlainOK x) : PlainMapOK g := by
  intro w cs hR
  cases hR with
  | @mk kd n f s ks l kv la lb lo lc hk hn hf hs hks hle hsz ha hcs hl =>
    obtain ⟨ka, kb, ko, kc, rfl, hkle, hksz, hka, hkc, hkl⟩ := hks
    have HC := hid hcs
    have HL := hid hl
    have HI := hid ih
    have HK := hid hkc
    have HKL := hid hkl
    clear hcs hl ih hkc hkl hk hn hf
    have hmm := @run_makeMap Try.prog
    go_enter Try.func93, Try.ntmps93
    go_wp2_with fail
    go_loopw [10] (fun i wr => ∃ (k : Nat), i = .int .i64 k ∧ k ≤ ks.length ∧ RepM (fun b => w.heap.size + 1 < b) wr (foldKV ((ks.zip (plainTs l)).take k) []) (w.heap.size + 1) ∧
      Below (w.heap.size + 1) (w.alloc (.cells #[.int .i64 kd, .int .i64 n, .float .f64 f, .string s, .slice ka ks.length kc, .slice la l.length lc] 32)) wr ∧ w.heap.size + 1 < wr.heap.size) (fun i _ => ks.length - (intOf i).toNat)
    case atStart =>
      refine ⟨0, rfl, Nat.zero_le _, ?_, (Ext.refl _).alloc _ |>.mono (by simp), by simp⟩
      have := RepM.new (fun b => w.heap.size + 1 < b) (w.alloc (.cells #[.int .i64 kd, .int .i64 n, .float .f64 f, .string s, .slice ka ks.length kc, .slice la l.length lc] 32))
      simpa [foldKV] using this
    case round =>
      obtain ⟨k, rfl, hk, hM, hB, hsz1⟩ := hrel
      by_cases hlt : k < ks.length
      · have ha2 := (hka (by omega)).1
        subst ha2
        obtain ⟨key, hkey⟩ : ∃ key, ks[k]? = some key := ⟨_, List.getElem?_eq_getElem hlt⟩
        have hkcell := (ext_of_below hB).cellS (HK.out k key hkey)
        have hbox : wr.cell? ⟨w.heap.size, 5, none⟩ = some (.slice la l.length lc) := below_cell hB (by simp) (by simp)
        have HKEY := hid hkey
        clear hkey
        by_cases hll : k < l.length
        · have hb2 := (ha (by omega)).1
          subst hb2
          obtain ⟨cs, hcl, hca⟩ := HC.out k hll
          obtain ⟨g, hg⟩ : ∃ g, l[k]? = some g := ⟨_, List.getElem?_eq_getElem hll⟩
          have hR := (HL.out k g cs hg hcl hca).ext (ext_of_below hB)
          have hca' := cellsAt_ext (ext_of_below hB) hca
          obtain ⟨k', n', f', s', a1, b1, c1, a2, b2, c2, rfl⟩ := hR.form
          obtain ⟨e0, e1, e2, e3, e4, e5⟩ := cells6 hca'
          have HP := hid (HI.out k g hg)
          have HR := hid hR
          have HG := hid hg
          have HM := hid hM
          clear hR hca hca' hcl hg hM
          go_wp2_with (first | (go_at_call 51; refine (HP.out _ _ HR.out).mono ?_; rintro e w2 ⟨x, rfl, hT, hE⟩; have HT := hid hT; clear hT) | (at_mapUpdate; refine wpList_mapUpdate_M rfl (.tmp 20) (.tmp 21) (.tmp 27) rfl Try.underlying159 Try.underlying9 rfl rfl rfl (HM.out.ext hE) (by simp) (HT.out.weak (fun b hb _ => by omega)) (map_room hll hsz) (HKL.out key (List.mem_of_getElem? HKEY.out)) ?_; intro w3 hM3 hg3))
          go_roundw
          case rel =>
            refine ⟨k + 1, by go_num, by omega, ?_, ?_, ?_⟩
            · rw [zip_take_both HKEY.out (by rw [plainTs_eq, List.getElem?_map, HG.out]; rfl), foldKV_append]
              exact hM3
            · exact (below_ext hB hE (by omega)).trans ⟨hg3.os, hg3.tape, hg3.output, hg3.size, fun i hi => hg3.block i (by have := hE.size; omega) (by simp; omega)⟩
            · have := hE.size; have := hg3.size; simp at *; omega
          case measure => simp [intOf]; omega
        · go_wp2_with fail
          go_roundw
          case rel =>
            refine ⟨k + 1, by go_num, by omega, ?_, hB, hsz1⟩
            rw [zip_take_one (by rw [plainTs_length]; omega)]
            exact hM
          case measure => simp [intOf]; omega
      · obtain rfl : k = ks.length := by omega
        go_wp2_with fail
        go_ret
        refine ⟨_, rfl, by simp, ?_, ext_of_below hB⟩
        rw [List.take_of_length_le (by simp; omega)] at hM
        exact hM

theorem plain_ok : ∀ (N : Nat) (g : GV), SizeOf.sizeOf g ≤ N → PlainOK g ∧ PlainMapOK g := by
  intro N
  induction N with
  | zero => intro g h; cases g; simp at h
  | succ N ih =>
    intro g h
    have hl : ∀ (i : Nat) (x : GV), g.l[i]? = some x → PlainOK x := by
      intro i x hx
      refine (ih x ?_).1
      have := GV.size_l hx
      omega
    have hm := plainMap_of g hl
    exact ⟨plain_of g hl hm, hm⟩
theorem plain_any (g : GV) : PlainOK g := (plain_ok _ g (Nat.le_refl _)).1
theorem plainMap_any (g : GV) : PlainMapOK g := (plain_ok _ g (Nat.le_refl _)).2

end Go.Proofs.Ytempfaefopfobaa
