/- Same: spec.identical of two values that read alike; spec.SameValue. -/
import Derived.Test.YtempfaefopfobaaCleanMap
import Derived.Test.YtempfaefopfobaaStep
import Derived.StillTailTactics

namespace Go.Proofs.Ytempfaefopfobaa
open Go.ChangeShapes Go.WideShapes Go.ChangeAt Go.RowKit
set_option linter.unusedVariables false
set_option linter.unusedSimpArgs false

@[go_sem] theorem call_bits (b : Nat) (w : World) : (callFunc 95 #[.float .f64 b]).run Try.prog w = .ok (.value (.int .u64 b)) w := by kernel_rfl

def IdOK (g : GV) : Prop := ∀ w cs cs', RepGV Any w g cs → RepGV Any w g cs' → Calls Try.prog 55 #[.agg cs.toArray, .agg cs'.toArray] w fun e w' => e = .returned (.bool true) ∧ Ext w w'

set_option maxRecDepth 100000 in
set_option maxHeartbeats 2000000 in
theorem id_of (g : GV) (ih : ∀ (i : Nat) (x : GV), g.l[i]? = some x → IdOK x) : IdOK g := by
  intro w cs cs' hR hR'
  cases hR with
  | @mk k n f s ks l kv la lb lo lc hk hn hf hs hks hle hsz ha hcs hl =>
    obtain ⟨ka, kb, ko, kc, rfl, hkle, hksz, hka, hkc, hkl⟩ := hks
    cases hR' with
    | @mk _ _ _ _ _ _ kv' la' lb' lo' lc' hk' hn' hf' hs' hks' hle' hsz' ha' hcs' hl' =>
      obtain ⟨ka', kb', ko', kc', rfl, hkle', hksz', hka', hkc', hkl'⟩ := hks'
      have HK := hid hkc
      have HK' := hid hkc'
      have HC := hid hcs
      have HC' := hid hcs'
      have HL := hid hl
      have HL' := hid hl'
      have HI := hid ih
      clear hkc hkc' hcs hcs' hl hl' ih hkl hkl' hk hn hf hk' hn' hf' hs hs'
      have bx := hid (boxes2 w (.cells #[.int .i64 k, .int .i64 n, .float .f64 f, .string s, .slice ka ks.length kc, .slice la l.length lc] 32) (.cells #[.int .i64 k, .int .i64 n, .float .f64 f, .string s, .slice ka' ks.length kc', .slice la' l.length lc'] 32))
      go_enter Try.func55, Try.ntmps55
      go_wp2_with fail
      go_quiet (fail)
      go_wp2_with fail
      go_loopw [54] (fun i wr => ∃ j : Nat, i = .int .i64 j ∧ j ≤ ks.length ∧ Below (w.heap.size + 2) ((w.alloc (.cells #[.int .i64 k, .int .i64 n, .float .f64 f, .string s, .slice ka ks.length kc, .slice la l.length lc] 32)).alloc (.cells #[.int .i64 k, .int .i64 n, .float .f64 f, .string s, .slice ka' ks.length kc', .slice la' l.length lc'] 32)) wr) (fun i _ => ks.length - (intOf i).toNat)
      case atStart => exact ⟨0, rfl, Nat.zero_le _, below_drewN (Below.refl _ _) _⟩
      case round =>
        obtain ⟨j, rfl, hj, hB⟩ := hrel
        obtain ⟨x1, x2, hE0⟩ := bx.out _ hB
        obtain ⟨⟨q0, q1, q2, q3, q4, q5⟩, _⟩ := slot6 x1
        obtain ⟨⟨o0, o1, o2, o3, o4, o5⟩, _⟩ := slot6 x2
        by_cases hlt : j < ks.length
        · have ha1 := (hka (by omega)).1
          have ha2 := (hka' (by omega)).1
          subst ha1 ha2
          obtain ⟨key, hkey⟩ : ∃ key, ks[j]? = some key := ⟨_, List.getElem?_eq_getElem hlt⟩
          have hkcell := hE0.cellS (HK.out j key hkey)
          have hkcell' := hE0.cellS (HK'.out j key hkey)
          have hi0 : (0 : Int) ≤ (j : Int) := by omega
          have hi1 : (j : Int) < (ks.length : Int) := by omega
          clear hkey x1 x2
          go_wp2_with fail
          go_quiet (fail)
          go_wp2_with fail
          go_roundw
          case rel => exact ⟨j + 1, by go_num, by omega, below_drewN hB _⟩
          case measure => simp [intOf]; omega
        · obtain rfl : j = ks.length := by omega
          clear x1 x2
          go_wp2_with fail
          go_loopw [72] (fun i wr => ∃ j : Nat, i = .int .i64 j ∧ j ≤ l.length ∧ Below (w.heap.size + 2) ((w.alloc (.cells #[.int .i64 k, .int .i64 n, .float .f64 f, .string s, .slice ka ks.length kc, .slice la l.length lc] 32)).alloc (.cells #[.int .i64 k, .int .i64 n, .float .f64 f, .string s, .slice ka' ks.length kc', .slice la' l.length lc'] 32)) wr) (fun i _ => l.length - (intOf i).toNat)
          case atStart => exact ⟨0, rfl, Nat.zero_le _, hB⟩
          case round =>
            clear hB hE0 q0 q1 q2 q3 q4 q5 o0 o1 o2 o3 o4 o5
            obtain ⟨j, rfl, hj, hB⟩ := hrel
            obtain ⟨x1, x2, hE0⟩ := bx.out _ hB
            obtain ⟨⟨q0, q1, q2, q3, q4, q5⟩, _⟩ := slot6 x1
            obtain ⟨⟨o0, o1, o2, o3, o4, o5⟩, _⟩ := slot6 x2
            by_cases hlt : j < l.length
            · have ha1 := (ha (by omega)).1
              have ha2 := (ha' (by omega)).1
              subst ha1 ha2
              obtain ⟨cs, hcl, hca⟩ := HC.out j hlt
              obtain ⟨cs', hcl', hca'⟩ := HC'.out j hlt
              obtain ⟨g, hg⟩ : ∃ g, l[j]? = some g := ⟨_, List.getElem?_eq_getElem hlt⟩
              have hR := (HL.out j g cs hg hcl hca).ext hE0
              have hR' := (HL'.out j g cs' hg hcl' hca').ext hE0
              have hca2 := cellsAt_ext hE0 hca
              have hca2' := cellsAt_ext hE0 hca'
              obtain ⟨k2, n2, f2, s2, a3, b3, c3, a4, b4, c4, rfl⟩ := hR.form
              obtain ⟨k2', n2', f2', s2', a3', b3', c3', a4', b4', c4', rfl⟩ := hR'.form
              obtain ⟨e0, e1, e2, e3, e4, e5⟩ := cells6 hca2
              obtain ⟨e0', e1', e2', e3', e4', e5'⟩ := cells6 hca2'
              have HP := hid (HI.out j g hg)
              have HR := hid hR
              have HR' := hid hR'
              have hi0 : (0 : Int) ≤ (j : Int) := by omega
              have hi1 : (j : Int) < (l.length : Int) := by omega
              clear hR hR' hca hca' hca2 hca2' hcl hcl' hg x1 x2
              go_wp2_with fail
              go_still_tail 10, (by kernel_rfl)
              change wpList _ _ _ _ _ wr.drew
              have HB := hid (below_ext hB ((Ext.refl wr).drew) (by have := hB.size; simpa using this))
              have HR2 := hid (HR.out.ext ((Ext.refl wr).drew))
              have HR2' := hid (HR'.out.ext ((Ext.refl wr).drew))
              go_wp2_with (go_at_call 55; refine (HP.out _ _ _ HR2.out HR2'.out).mono ?_; rintro e w2 ⟨rfl, hE⟩)
              exact ⟨⟨j + 1, by go_num, by omega, below_ext HB.out hE (by have := HB.out.size; simpa using this)⟩, by simp [intOf]; omega⟩
            · obtain rfl : j = l.length := by omega
              clear x1 x2
              go_wp2_with fail
              go_ret
              exact ⟨rfl, hE0⟩
theorem id_ok : ∀ (N : Nat) (g : GV), SizeOf.sizeOf g ≤ N → IdOK g := by
  intro N
  induction N with
  | zero => intro g h; cases g; simp at h
  | succ N ih => exact fun g h => id_of g fun i x hx => ih x (by have := GV.size_l hx; omega)
theorem id_any (g : GV) : IdOK g := id_ok _ g (Nat.le_refl _)

set_option maxRecDepth 100000 in
set_option maxHeartbeats 2000000 in
/-- two values of one plain form are the same -/
theorem same_any (w : World) (ga gb : GV) (h : cleanG ga = cleanG gb) (ca cb : List Value) (hA : RepGV Any w ga ca) (hB : RepGV Any w gb cb) :
    Calls Try.prog 31 #[.agg ca.toArray, .agg cb.toArray] w fun e w' => e = .returned (.bool true) ∧ Ext w w' := by
  have HE := hid h
  have HA := hid hA
  have HB := hid hB
  obtain ⟨k, n, f, s, a1, b1, c1, a2, b2, c2, rfl⟩ := hA.form
  obtain ⟨k', n', f', s', a1', b1', c1', a2', b2', c2', rfl⟩ := hB.form
  have bx := hid (boxes2 w (.cells #[.int .i64 k, .int .i64 n, .float .f64 f, .string s, .slice a1 b1 c1, .slice a2 b2 c2] 32) (.cells #[.int .i64 k', .int .i64 n', .float .f64 f', .string s', .slice a1' b1' c1', .slice a2' b2' c2'] 32))
  clear h hA hB
  have W0 := hid (((Ext.refl w).alloc (.cells #[.int .i64 k, .int .i64 n, .float .f64 f, .string s, .slice a1 b1 c1, .slice a2 b2 c2] 32)).alloc (.cells #[.int .i64 k', .int .i64 n', .float .f64 f', .string s', .slice a1' b1' c1', .slice a2' b2' c2'] 32))
  go_enter Try.func31, Try.ntmps31
  go_wp2_with fail
  have x1 := (bx.out _ (Below.refl _ _).drew).1
  have x2 := (bx.out _ (Below.refl _ _).drew).2.1
  have HX1 := hid x1
  have HX2 := hid x2
  obtain ⟨⟨q0, q1, q2, q3, q4, q5⟩, _⟩ := slot6 x1
  obtain ⟨⟨o0, o1, o2, o3, o4, o5⟩, _⟩ := slot6 x2
  clear x1 x2
  go_region_with (first
    | (go_at_call_of 32 k; refine (clean_any ga _ _ (HA.out.ext W0.out.drew)).mono ?_; rintro e w2 ⟨cs1, rfl, hT, hE⟩; obtain ⟨k2, n2, f2, s2, a3, b3, c3, a4, b4, c4, rfl⟩ := hT.form; have HT1 := hid hT; have HE1 := hid hE; obtain ⟨⟨u0, u1, u2, u3, u4, u5⟩, _⟩ := slot6 (hE.block HX2.out); clear hT hE)
    | (go_at_call_of 32 k'; refine (clean_any gb _ _ ((HB.out.ext W0.out.drew).ext HE1.out)).mono ?_; rintro e w3 ⟨cs2, rfl, hT, hE⟩; obtain ⟨k3, n3, f3, s3, a5, b5, c5, a6, b6, c6, rfl⟩ := hT.form; have HT2 := hid hT; have HE2 := hid hE; clear hT hE)
    | (go_at_call 55; refine (id_any (cleanG ga) _ _ _ ((HT1.out.weak (fun _ _ _ => trivial)).ext HE2.out) (by rw [HE.out]; exact HT2.out.weak (fun _ _ _ => trivial))).mono ?_; rintro e w4 ⟨rfl, hE⟩; have HE3 := hid hE; clear hE))
  all_goals
    go_wp2_with fail
    go_ret
    exact ⟨rfl, ((W0.out.drew.trans HE1.out).trans HE2.out).trans HE3.out⟩
end Go.Proofs.Ytempfaefopfobaa
