/- Same: spec.identical of two values that read alike; spec.SameValue. -/
import Derived.Test.YtempfaefopfobaaDoorCleanMap
import Derived.Test.YtempfaefopfobaaDoorStep
import Derived.StillTailTactics

namespace Go.Proofs.YtempfaefopfobaaDoor
open Go.ChangeShapes Go.WideShapes Go.ChangeAt Go.RowKit
set_option linter.unusedVariables false
set_option linter.unusedSimpArgs false

@[go_sem] theorem call_bits (b : Nat) (w : World) : (callFunc 25 #[.float .f64 b]).run Tryd.prog w = .ok (.value (.int .u64 b)) w := by kernel_rfl

def IdOK (g : GV) : Prop := ∀ w cs cs', RepGV Any w g cs → RepGV Any w g cs' → Calls Tryd.prog 15 #[.agg cs.toArray, .agg cs'.toArray] w fun e w' => e = .returned (.bool true) ∧ Ext w w'

set_option maxRecDepth 100000 in
set_option maxHeartbeats 2000000 in
theorem id_of (g : GV) (ih : ∀ (i : Nat) (x : GV), g.l[i]? = some x → IdOK x) : IdOK g := by
  intro w cs cs' hR hR'
  cases hR with
  | @mk k n f s ks l kv la lb lo lc hk hn hf hs hks hle hsz ha hcs hl =>
    obtain ⟨ka, kb, ko, kc, rfl, hkle, hksz, hka, hkc, hkl⟩ := hks
    cases hR' with
    | @mk _ _ _ _ _ _ kv' la' lb' lo' lc' hk' hn' hf' hs' hks' hle' hsz' ha' hcs' hl' =>
      obtain ⟨ka', kb', ko', kc', rfl, hkle', hksz', hka', hkc', hkl'⟩ := hks'
      have HK := hid hkc
      have HK' := hid hkc'
      have HC := hid hcs
      have HC' := hid hcs'
      have HL := hid hl
      have HL' := hid hl'
      have HI := hid ih
      clear hkc hkc' hcs hcs' hl hl' ih hkl hkl' hk hn hf hk' hn' hf' hs hs'
      have bx := hid (boxes2 w (.cells #[.int .i64 k, .int .i64 n, .float .f64 f, .string s, .slice ka ks.length kc, .slice la l.length lc] 26) (.cells #[.int .i64 k, .int .i64 n, .float .f64 f, .string s, .slice ka' ks.length kc', .slice la' l.length lc'] 26))
      go_enter Tryd.func15, Tryd.ntmps15
      go_wp2_with fail
      go_quiet (fail)
      go_wp2_with fail
      go_loopw [54] (fun i wr => ∃ j : Nat, i = .int .i64 j ∧ j ≤ ks.length ∧ Below (w.heap.size + 2) ((w.alloc (.cells #[.int .i64 k, .int .i64 n, .float .f64 f, .string s, .slice ka ks.length kc, .slice la l.length lc] 26)).alloc (.cells #[.int .i64 k, .int .i64 n, .float .f64 f, .string s, .slice ka' ks.length kc', .slice la' l.length lc'] 26)) wr) (fun i _ => ks.length - (intOf i).toNat)
      case atStart => exact ⟨0, rfl, Nat.zero_le _, below_drewN (Below.refl _ _) _⟩
      case round =>
        obtain ⟨j, rfl, hj, hB⟩ := hrel
        obtain ⟨x1, x2, hE0⟩ := bx.out _ hB
        obtain ⟨⟨q0, q1, q2, q3, q4, q5⟩, _⟩ := slot6 x1
        obtain ⟨⟨o0, o1, o2, o3, o4, o5⟩, _⟩ := slot6 x2
        by_cases hlt : j < ks.length
        · have ha1 := (hka (by omega)).1
          have ha2 := (hka' (by omega)).1
          subst ha1 ha2
          obtain ⟨key, hkey⟩ : ∃ key, ks[j]? = some key := ⟨_, List.getElem?_eq_getElem hlt⟩
          have hkcell := hE0.cellS (HK.out j key hkey)
          have hkcell' := hE0.cellS (HK'.out j key hkey)
          have hi0 : (0 : Int) ≤ (j : Int) := by omega
          have hi1 : (j : Int) < (ks.length : Int) := by omega
          clear hkey x1 x2
          go_wp2_with fail
          go_quiet (fail)
          go_wp2_with fail
          go_roundw
          case rel => exact ⟨j + 1, by go_num, by omega, below_drewN hB _⟩
          case measure => simp [intOf]; omega
        · obtain rfl : j = ks.length := by omega
          clear x1 x2
          go_wp2_with fail
          go_loopw [72] (fun i wr => ∃ j : Nat, i = .int .i64 j ∧ j ≤ l.length ∧ Below (w.heap.size + 2) ((w.alloc (.cells #[.int .i64 k, .int .i64 n, .float .f64 f, .string s, .slice ka ks.length kc, .slice la l.length lc] 26)).alloc (.cells #[.int .i64 k, .int .i64 n, .float .f64 f, .string s, .slice ka' ks.length kc', .slice la' l.length lc'] 26)) wr) (fun i _ => l.length - (intOf i).toNat)
          case atStart => exact ⟨0, rfl, Nat.zero_le _, hB⟩
          case round =>
            clear hB hE0 q0 q1 q2 q3 q4 q5 o0 o1 o2 o3 o4 o5
            obtain ⟨j, rfl, hj, hB⟩ := hrel
            obtain ⟨x1, x2, hE0⟩ := bx.out _ hB
            obtain ⟨⟨q0, q1, q2, q3, q4, q5⟩, _⟩ := slot6 x1
            obtain ⟨⟨o0, o1, o2, o3, o4, o5⟩, _⟩ := slot6 x2
            by_cases hlt : j < l.length
            · have ha1 := (ha (by omega)).1
              have ha2 := (ha' (by omega)).1
              subst ha1 ha2
              obtain ⟨cs, hcl, hca⟩ := HC.out j hlt
              obtain ⟨cs', hcl', hca'⟩ := HC'.out j hlt
              obtain ⟨g, hg⟩ : ∃ g, l[j]? = some g := ⟨_, List.getElem?_eq_getElem hlt⟩
              have hR := (HL.out j g cs hg hcl hca).ext hE0
              have hR' := (HL'.out j g cs' hg hcl' hca').ext hE0
              have hca2 := cellsAt_ext hE0 hca
              have hca2' := cellsAt_ext hE0 hca'
              obtain ⟨k2, n2, f2, s2, a3, b3, c3, a4, b4, c4, rfl⟩ := hR.form
              obtain ⟨k2', n2', f2', s2', a3', b3', c3', a4', b4', c4', rfl⟩ := hR'.form
              obtain ⟨e0, e1, e2, e3, e4, e5⟩ := cells6 hca2
              obtain ⟨e0', e1', e2', e3', e4', e5'⟩ := cells6 hca2'
              have HP := hid (HI.out j g hg)
              have HR := hid hR
              have HR' := hid hR'
              have hi0 : (0 : Int) ≤ (j : Int) := by omega
              have hi1 : (j : Int) < (l.length : Int) := by omega
              clear hR hR' hca hca' hca2 hca2' hcl hcl' hg x1 x2
              go_wp2_with fail
              go_still_tail 10, (by kernel_rfl)
              change wpList _ _ _ _ _ wr.drew
              have HB := hid (below_ext hB ((Ext.refl wr).drew) (by have := hB.size; simpa using this))
              have HR2 := hid (HR.out.ext ((Ext.refl wr).drew))
              have HR2' := hid (HR'.out.ext ((Ext.refl wr).drew))
              go_wp2_with (go_at_call 15; refine (HP.out _ _ _ HR2.out HR2'.out).mono ?_; rintro e w2 ⟨rfl, hE⟩)
              exact ⟨⟨j + 1, by go_num, by omega, below_ext HB.out hE (by have := HB.out.size; simpa using this)⟩, by simp [intOf]; omega⟩
            · obtain rfl : j = l.length := by omega
              clear x1 x2
              go_wp2_with fail
              go_ret
              exact ⟨rfl, hE0⟩
theorem id_ok : ∀ (N : Nat) (g : GV), SizeOf.sizeOf g ≤ N → IdOK g := by
  intro N
  induction N with
  | zero => intro g h; cases g; simp at h
  | succ N ih => exact fun g h => id_of g fun i x hx => ih x (by have := GV.size_l hx; omega)
theorem id_any (g : GV) : IdOK g := id_ok _ g (Nat.le_refl _)

end Go.Proofs.YtempfaefopfobaaDoor
