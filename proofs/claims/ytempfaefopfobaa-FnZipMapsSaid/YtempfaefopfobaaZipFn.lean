/- ZipFn: impl.ZipMaps and the function that it hands over. -/
import Derived.Test.YtempfaefopfobaaZipRow
import Derived.Test.YtempfaefopfobaaLate

set_option maxRecDepth 100000
namespace Go.Proofs.Ytempfaefopfobaa
open Go.ChangeShapes Go.WideShapes Go.ChangeAt Go.RowKit
set_option linter.unusedVariables false
set_option linter.unusedSimpArgs false
set_option maxHeartbeats 1000000 in
theorem zf_nn (key : ByteArray) (bo base k : Nat) (zs : List (ByteArray × List GV × List GV)) (v : Value) (xs : List Value) (W : World) (hI : ZI base bo k zs v xs W) (hk : key.size ≤ 140737488351232) (hn : k ≤ 4294967296) :
    Calls Try.prog 64 #[.string key, .nilIface, .nilIface, .pointer (some ⟨bo, 0, none⟩)] W fun e W' => e = .returned (.bool true) ∧ ∃ v' xs', ZI base bo (k + 1) (zs ++ [(key, [], [])]) v' xs' W' ∧ Mine (ZM base bo) W W' := by
  obtain ⟨i0, hi, hz0, hz1, hz2⟩ := info_parts info_z
  obtain ⟨va, vc, rfl⟩ := own_form hI.row
  have HI := hid hI
  have HK := hid hk
  have hbo : bo < W.heap.size := by have := hI.hb; have := hI.hs; omega
  clear hI hk
  go_enter Try.func64, Try.ntmps64
  go_upto_region 2 with fail
  have HE1 := hid ((Ext.refl W).alloc (.cells #[.string key, .slice none 0 0, .slice none 0 0] 45))
  have HB1 := hid (heap_alloc_new W (.cells #[.string key, .slice none 0 0, .slice none 0 0] 45))
  have HS1 := hid (show (W.alloc (.cells #[.string key, .slice none 0 0, .slice none 0 0] 45)).heap.size = W.heap.size + 1 by simp)
  generalize W.alloc (.cells #[.string key, .slice none 0 0, .slice none 0 0] 45) = w1 at *
  have tok : True := trivial
  obtain ⟨b0, b1, b2⟩ : w1.cell? ⟨W.heap.size, 0, none⟩ = some (.string key) ∧ w1.cell? ⟨W.heap.size, 1, none⟩ = some (.slice none 0 0) ∧ w1.cell? ⟨W.heap.size, 2, none⟩ = some (.slice none 0 0) := ⟨(cell_of_heap HB1.out 0).trans rfl, (cell_of_heap HB1.out 1).trans rfl, (cell_of_heap HB1.out 2).trans rfl⟩
  have HI2 := hid (HI.out.ext HE1.out)
  have b3 := (cell_of_heap HI2.out.var 0).trans rfl
  have b4 := free_of_heap HI2.out.var 0
  have HNV := hid (show some bo ≠ (Value.slice va k vc).ownBlock from fun e => by have := own_ge HI.out.row bo e.symm; have := HI.out.hb; omega)
  go_wp2_with (at_builtin; refine wpList_append_lies _ rfl (.tmp 23) (.tmp 25) 42 rfl base 45 i0 _ 3 64 Try.underlying42 hi hz0 hz1 hz2 rfl (by decide) _ k xs rfl ((HI2.out.row).alloc _) ⟨w1.heap.size, 0, none⟩ 1 1 [.string key, .slice none 0 0, .slice none 0 0] rfl rfl (cells_new w1 [.string key, .slice none 0 0, .slice none 0 0] _) (by simp [Value.oneCell']) (by decide) (by unfold maxLen; omega) (by omega) (by have := HI2.out.hs; simp; omega) (w1.heap.size + 1) (by simp) ?_; intro g6 cap6 w6 hown6 hg6 hat6 hlt6; have HMO := hid (And.intro hown6 (And.intro hg6 hat6)); have hv6 := (hg6.block bo (by have := HE1.out.size; simp; omega) HNV.out).trans (((Ext.refl w1).alloc _).block HI2.out.var); have z6 := (cell_of_heap hv6 0).trans rfl; have y6 := free_of_heap hv6 0; clear hown6 hg6 hat6 hlt6 hv6)
  go_ret
  obtain ⟨m1, m2⟩ := HI.out.more HE1.out HMO.out.1 HMO.out.2.1 HMO.out.2.2 HK.out (vals_none _ _) (vals_none _ _)
  exact ⟨rfl, _, _, m1, m2⟩
set_option maxHeartbeats 1000000 in
theorem zf_sn (key : ByteArray) (bo base k : Nat) (zs : List (ByteArray × List GV × List GV)) (v : Value) (xs : List Value) (W : World) (hI : ZI base bo k zs v xs W) (hk : key.size ≤ 140737488351232) (hn : k ≤ 4294967296) (tx : Tree) (px : Nat) (hx : RepVal Any W tx (.iface 203 (.pointer (some ⟨px, 0, none⟩)))) :
    Calls Try.prog 64 #[.string key, .iface 203 (.pointer (some ⟨px, 0, none⟩)), .nilIface, .pointer (some ⟨bo, 0, none⟩)] W fun e W' => e = .returned (.bool true) ∧ ∃ v' xs', ZI base bo (k + 1) (zs ++ [(key, [fromT tx], [])]) v' xs' W' ∧ Mine (ZM base bo) W W' := by
  obtain ⟨i0, hi, hz0, hz1, hz2⟩ := info_parts info_z
  obtain ⟨va, vc, rfl⟩ := own_form hI.row
  have HI := hid hI
  have HK := hid hk
  have hbo : bo < W.heap.size := by have := hI.hb; have := hI.hs; omega
  clear hI hk
  have HX := hid hx
  clear hx
  go_enter Try.func64, Try.ntmps64
  go_upto_region 2 with fail
  have HE1 := hid ((Ext.refl W).alloc (.cells #[.string key, .slice none 0 0, .slice none 0 0] 45))
  have HB1 := hid (heap_alloc_new W (.cells #[.string key, .slice none 0 0, .slice none 0 0] 45))
  have HS1 := hid (show (W.alloc (.cells #[.string key, .slice none 0 0, .slice none 0 0] 45)).heap.size = W.heap.size + 1 by simp)
  generalize W.alloc (.cells #[.string key, .slice none 0 0, .slice none 0 0] 45) = w1 at *
  go_upto_region 4 with (go_at_call 65; refine (fromValue_any Any tx _ _ (HX.out.ext HE1.out)).mono ?_; rintro e w2 ⟨cs, rfl, hT, hE⟩; obtain ⟨r1, r2, r3, r4, r5, r6, r7, r8, r9, r10, rfl⟩ := hT.form; have HT1 := hid (hT.weak (S' := fun b => w1.heap.size ≤ b ∧ b < w2.heap.size) (fun b h1 h2 => ⟨h1, h2⟩)); have HE1a := hid hE; have HB1a := hid (hE.block HB1.out); clear hT hE; have b1 := fun o => (cell_of_heap (((Ext.refl w2).alloc o).block HB1a.out) 1).trans rfl; have b2 := fun o => free_of_heap (((Ext.refl w2).alloc o).block HB1a.out) 1)
  clear b1 b2
  have HSZ1 := hid HE1a.out.size
  have HBw3 : Hid (((w2.alloc (.cells #[.int .i64 r1, .int .i64 r2, .float .f64 r3, .string r4, .slice r5 r6 r7, .slice r8 r9 r10] 32)).setCell ⟨W.heap.size, 1, none⟩ (.slice (some ⟨w2.heap.size, 0, none⟩) 1 1)).heap[W.heap.size]? = some (.cells #[.string key, .slice (some ⟨w2.heap.size, 0, none⟩) 1 1, .slice none 0 0] 45)) := hid ((setCell_heap (((Ext.refl w2).alloc (.cells #[.int .i64 r1, .int .i64 r2, .float .f64 r3, .string r4, .slice r5 r6 r7, .slice r8 r9 r10] 32)).block HB1a.out) 1 _).trans rfl)
  have hoth : ∀ b, b ≠ W.heap.size → ((w2.alloc (.cells #[.int .i64 r1, .int .i64 r2, .float .f64 r3, .string r4, .slice r5 r6 r7, .slice r8 r9 r10] 32)).setCell ⟨W.heap.size, 1, none⟩ (.slice (some ⟨w2.heap.size, 0, none⟩) 1 1)).heap[b]? = (w2.alloc (.cells #[.int .i64 r1, .int .i64 r2, .float .f64 r3, .string r4, .slice r5 r6 r7, .slice r8 r9 r10] 32)).heap[b]? := fun b hb => Below.heap_setCell _ _ _ _ hb
  have HCw3 : Hid (((w2.alloc (.cells #[.int .i64 r1, .int .i64 r2, .float .f64 r3, .string r4, .slice r5 r6 r7, .slice r8 r9 r10] 32)).setCell ⟨W.heap.size, 1, none⟩ (.slice (some ⟨w2.heap.size, 0, none⟩) 1 1)).heap[w2.heap.size]? = some (.cells #[.int .i64 r1, .int .i64 r2, .float .f64 r3, .string r4, .slice r5 r6 r7, .slice r8 r9 r10] 32)) := hid ((hoth _ (by have := HS1.out; have := HSZ1.out; omega)).trans (heap_alloc_new w2 _))
  have HSW1 := hid (show ((w2.alloc (.cells #[.int .i64 r1, .int .i64 r2, .float .f64 r3, .string r4, .slice r5 r6 r7, .slice r8 r9 r10] 32)).setCell ⟨W.heap.size, 1, none⟩ (.slice (some ⟨w2.heap.size, 0, none⟩) 1 1)).heap.size = w2.heap.size + 1 by simp)
  have HEw3 : Hid (Ext W ((w2.alloc (.cells #[.int .i64 r1, .int .i64 r2, .float .f64 r3, .string r4, .slice r5 r6 r7, .slice r8 r9 r10] 32)).setCell ⟨W.heap.size, 1, none⟩ (.slice (some ⟨w2.heap.size, 0, none⟩) 1 1))) := hid (Below.setCell ((HE1.out.trans HE1a.out).alloc _) (Nat.le_refl _) _)
  have HSM1 : Hid (Same (fun b => b ≠ W.heap.size) w2 ((w2.alloc (.cells #[.int .i64 r1, .int .i64 r2, .float .f64 r3, .string r4, .slice r5 r6 r7, .slice r8 r9 r10] 32)).setCell ⟨W.heap.size, 1, none⟩ (.slice (some ⟨w2.heap.size, 0, none⟩) 1 1))) := hid (fun b o hb hob => (hoth b hb).trans (((Ext.refl w2).alloc _).block hob))
  clear hoth
  generalize ((w2.alloc (.cells #[.int .i64 r1, .int .i64 r2, .float .f64 r3, .string r4, .slice r5 r6 r7, .slice r8 r9 r10] 32)).setCell ⟨W.heap.size, 1, none⟩ (.slice (some ⟨w2.heap.size, 0, none⟩) 1 1)) = w3 at *
  have HT1c := hid (HT1.out.mono (S' := fun b => W.heap.size < b ∧ b < w3.heap.size) (fun b o hb hob => HSM1.out b o (by have := HS1.out; have := hb.1; omega) hob) (fun b hb hlt => by have := HS1.out; have := HSW1.out; have := hb.1; have := hb.2; omega))
  have HV1_w3 := hid (vals_one (S := fun b => W.heap.size < b ∧ b < w3.heap.size) HCw3.out rfl (by have := HS1.out; have := HSZ1.out; have := HSW1.out; omega) HT1c.out)
  obtain ⟨b0, b1, b2⟩ : w3.cell? ⟨W.heap.size, 0, none⟩ = some (.string key) ∧ w3.cell? ⟨W.heap.size, 1, none⟩ = some (.slice (some ⟨w2.heap.size, 0, none⟩) 1 1) ∧ w3.cell? ⟨W.heap.size, 2, none⟩ = some (.slice none 0 0) := ⟨(cell_of_heap HBw3.out 0).trans rfl, (cell_of_heap HBw3.out 1).trans rfl, (cell_of_heap HBw3.out 2).trans rfl⟩
  have HI2 := hid (HI.out.ext HEw3.out)
  have b3 := (cell_of_heap HI2.out.var 0).trans rfl
  have b4 := free_of_heap HI2.out.var 0
  have HNV := hid (show some bo ≠ (Value.slice va k vc).ownBlock from fun e => by have := own_ge HI.out.row bo e.symm; have := HI.out.hb; omega)
  go_wp2_with (at_builtin; refine wpList_append_lies _ rfl (.tmp 23) (.tmp 25) 42 rfl base 45 i0 _ 3 64 Try.underlying42 hi hz0 hz1 hz2 rfl (by decide) _ k xs rfl ((HI2.out.row).alloc _) ⟨w3.heap.size, 0, none⟩ 1 1 [.string key, .slice (some ⟨w2.heap.size, 0, none⟩) 1 1, .slice none 0 0] rfl rfl (cells_new w3 [.string key, .slice (some ⟨w2.heap.size, 0, none⟩) 1 1, .slice none 0 0] _) (by simp [Value.oneCell']) (by decide) (by unfold maxLen; omega) (by omega) (by have := HI2.out.hs; simp; omega) (w3.heap.size + 1) (by simp) ?_; intro g6 cap6 w6 hown6 hg6 hat6 hlt6; have HMO := hid (And.intro hown6 (And.intro hg6 hat6)); have hv6 := (hg6.block bo (by have := HEw3.out.size; simp; omega) HNV.out).trans (((Ext.refl w3).alloc _).block HI2.out.var); have z6 := (cell_of_heap hv6 0).trans rfl; have y6 := free_of_heap hv6 0; clear hown6 hg6 hat6 hlt6 hv6)
  go_ret
  obtain ⟨m1, m2⟩ := HI.out.more HEw3.out HMO.out.1 HMO.out.2.1 HMO.out.2.2 HK.out (HV1_w3.out.mono (Same.refl _ _) (fun b hb _ => ⟨Nat.le_of_lt hb.1, hb.2⟩)) (vals_none _ _)
  exact ⟨rfl, _, _, m1, m2⟩
set_option maxHeartbeats 1000000 in
theorem zf_ns (key : ByteArray) (bo base k : Nat) (zs : List (ByteArray × List GV × List GV)) (v : Value) (xs : List Value) (W : World) (hI : ZI base bo k zs v xs W) (hk : key.size ≤ 140737488351232) (hn : k ≤ 4294967296) (ty : Tree) (py : Nat) (hy : RepVal Any W ty (.iface 203 (.pointer (some ⟨py, 0, none⟩)))) :
    Calls Try.prog 64 #[.string key, .nilIface, .iface 203 (.pointer (some ⟨py, 0, none⟩)), .pointer (some ⟨bo, 0, none⟩)] W fun e W' => e = .returned (.bool true) ∧ ∃ v' xs', ZI base bo (k + 1) (zs ++ [(key, [], [fromT ty])]) v' xs' W' ∧ Mine (ZM base bo) W W' := by
  obtain ⟨i0, hi, hz0, hz1, hz2⟩ := info_parts info_z
  obtain ⟨va, vc, rfl⟩ := own_form hI.row
  have HI := hid hI
  have HK := hid hk
  have hbo : bo < W.heap.size := by have := hI.hb; have := hI.hs; omega
  clear hI hk
  have HY := hid hy
  clear hy
  go_enter Try.func64, Try.ntmps64
  go_upto_region 2 with fail
  have HE1 := hid ((Ext.refl W).alloc (.cells #[.string key, .slice none 0 0, .slice none 0 0] 45))
  have HB1 := hid (heap_alloc_new W (.cells #[.string key, .slice none 0 0, .slice none 0 0] 45))
  have HS1 := hid (show (W.alloc (.cells #[.string key, .slice none 0 0, .slice none 0 0] 45)).heap.size = W.heap.size + 1 by simp)
  generalize W.alloc (.cells #[.string key, .slice none 0 0, .slice none 0 0] 45) = w1 at *
  have tok : True := trivial
  go_upto_region 6 with (go_at_call 65; refine (fromValue_any Any ty _ _ (HY.out.ext HE1.out)).mono ?_; rintro e w4 ⟨cs, rfl, hT, hE⟩; obtain ⟨m1, m2, m3, m4, m5, m6, m7, m8, m9, m10, rfl⟩ := hT.form; have HT2 := hid (hT.weak (S' := fun b => w1.heap.size ≤ b ∧ b < w4.heap.size) (fun b h1 h2 => ⟨h1, h2⟩)); have HE2a := hid hE; have HB2a := hid (hE.block HB1.out); clear hT hE; have b1 := fun o => (cell_of_heap (((Ext.refl w4).alloc o).block HB2a.out) 2).trans rfl; have b2 := fun o => free_of_heap (((Ext.refl w4).alloc o).block HB2a.out) 2)
  clear b1 b2
  have HSZ2 := hid HE2a.out.size
  have HBw5 : Hid (((w4.alloc (.cells #[.int .i64 m1, .int .i64 m2, .float .f64 m3, .string m4, .slice m5 m6 m7, .slice m8 m9 m10] 32)).setCell ⟨W.heap.size, 2, none⟩ (.slice (some ⟨w4.heap.size, 0, none⟩) 1 1)).heap[W.heap.size]? = some (.cells #[.string key, .slice none 0 0, .slice (some ⟨w4.heap.size, 0, none⟩) 1 1] 45)) := hid ((setCell_heap (((Ext.refl w4).alloc (.cells #[.int .i64 m1, .int .i64 m2, .float .f64 m3, .string m4, .slice m5 m6 m7, .slice m8 m9 m10] 32)).block HB2a.out) 2 _).trans rfl)
  have hoth : ∀ b, b ≠ W.heap.size → ((w4.alloc (.cells #[.int .i64 m1, .int .i64 m2, .float .f64 m3, .string m4, .slice m5 m6 m7, .slice m8 m9 m10] 32)).setCell ⟨W.heap.size, 2, none⟩ (.slice (some ⟨w4.heap.size, 0, none⟩) 1 1)).heap[b]? = (w4.alloc (.cells #[.int .i64 m1, .int .i64 m2, .float .f64 m3, .string m4, .slice m5 m6 m7, .slice m8 m9 m10] 32)).heap[b]? := fun b hb => Below.heap_setCell _ _ _ _ hb
  have HCw5 : Hid (((w4.alloc (.cells #[.int .i64 m1, .int .i64 m2, .float .f64 m3, .string m4, .slice m5 m6 m7, .slice m8 m9 m10] 32)).setCell ⟨W.heap.size, 2, none⟩ (.slice (some ⟨w4.heap.size, 0, none⟩) 1 1)).heap[w4.heap.size]? = some (.cells #[.int .i64 m1, .int .i64 m2, .float .f64 m3, .string m4, .slice m5 m6 m7, .slice m8 m9 m10] 32)) := hid ((hoth _ (by have := HS1.out; have := HSZ2.out; omega)).trans (heap_alloc_new w4 _))
  have HSW2 := hid (show ((w4.alloc (.cells #[.int .i64 m1, .int .i64 m2, .float .f64 m3, .string m4, .slice m5 m6 m7, .slice m8 m9 m10] 32)).setCell ⟨W.heap.size, 2, none⟩ (.slice (some ⟨w4.heap.size, 0, none⟩) 1 1)).heap.size = w4.heap.size + 1 by simp)
  have HEw5 : Hid (Ext W ((w4.alloc (.cells #[.int .i64 m1, .int .i64 m2, .float .f64 m3, .string m4, .slice m5 m6 m7, .slice m8 m9 m10] 32)).setCell ⟨W.heap.size, 2, none⟩ (.slice (some ⟨w4.heap.size, 0, none⟩) 1 1))) := hid (Below.setCell ((HE1.out.trans HE2a.out).alloc _) (Nat.le_refl _) _)
  have HSM2 : Hid (Same (fun b => b ≠ W.heap.size) w4 ((w4.alloc (.cells #[.int .i64 m1, .int .i64 m2, .float .f64 m3, .string m4, .slice m5 m6 m7, .slice m8 m9 m10] 32)).setCell ⟨W.heap.size, 2, none⟩ (.slice (some ⟨w4.heap.size, 0, none⟩) 1 1))) := hid (fun b o hb hob => (hoth b hb).trans (((Ext.refl w4).alloc _).block hob))
  clear hoth
  generalize ((w4.alloc (.cells #[.int .i64 m1, .int .i64 m2, .float .f64 m3, .string m4, .slice m5 m6 m7, .slice m8 m9 m10] 32)).setCell ⟨W.heap.size, 2, none⟩ (.slice (some ⟨w4.heap.size, 0, none⟩) 1 1)) = w5 at *
  have HT2c := hid (HT2.out.mono (S' := fun b => W.heap.size < b ∧ b < w5.heap.size) (fun b o hb hob => HSM2.out b o (by have := HS1.out; have := hb.1; omega) hob) (fun b hb hlt => by have := HS1.out; have := HSW2.out; have := hb.1; have := hb.2; omega))
  have HV2_w5 := hid (vals_one (S := fun b => W.heap.size < b ∧ b < w5.heap.size) HCw5.out rfl (by have := HS1.out; have := HSZ2.out; have := HSW2.out; omega) HT2c.out)
  obtain ⟨b0, b1, b2⟩ : w5.cell? ⟨W.heap.size, 0, none⟩ = some (.string key) ∧ w5.cell? ⟨W.heap.size, 1, none⟩ = some (.slice none 0 0) ∧ w5.cell? ⟨W.heap.size, 2, none⟩ = some (.slice (some ⟨w4.heap.size, 0, none⟩) 1 1) := ⟨(cell_of_heap HBw5.out 0).trans rfl, (cell_of_heap HBw5.out 1).trans rfl, (cell_of_heap HBw5.out 2).trans rfl⟩
  have HI2 := hid (HI.out.ext HEw5.out)
  have b3 := (cell_of_heap HI2.out.var 0).trans rfl
  have b4 := free_of_heap HI2.out.var 0
  have HNV := hid (show some bo ≠ (Value.slice va k vc).ownBlock from fun e => by have := own_ge HI.out.row bo e.symm; have := HI.out.hb; omega)
  go_wp2_with (at_builtin; refine wpList_append_lies _ rfl (.tmp 23) (.tmp 25) 42 rfl base 45 i0 _ 3 64 Try.underlying42 hi hz0 hz1 hz2 rfl (by decide) _ k xs rfl ((HI2.out.row).alloc _) ⟨w5.heap.size, 0, none⟩ 1 1 [.string key, .slice none 0 0, .slice (some ⟨w4.heap.size, 0, none⟩) 1 1] rfl rfl (cells_new w5 [.string key, .slice none 0 0, .slice (some ⟨w4.heap.size, 0, none⟩) 1 1] _) (by simp [Value.oneCell']) (by decide) (by unfold maxLen; omega) (by omega) (by have := HI2.out.hs; simp; omega) (w5.heap.size + 1) (by simp) ?_; intro g6 cap6 w6 hown6 hg6 hat6 hlt6; have HMO := hid (And.intro hown6 (And.intro hg6 hat6)); have hv6 := (hg6.block bo (by have := HEw5.out.size; simp; omega) HNV.out).trans (((Ext.refl w5).alloc _).block HI2.out.var); have z6 := (cell_of_heap hv6 0).trans rfl; have y6 := free_of_heap hv6 0; clear hown6 hg6 hat6 hlt6 hv6)
  go_ret
  obtain ⟨m1, m2⟩ := HI.out.more HEw5.out HMO.out.1 HMO.out.2.1 HMO.out.2.2 HK.out (vals_none _ _) (HV2_w5.out.mono (Same.refl _ _) (fun b hb _ => ⟨Nat.le_of_lt hb.1, hb.2⟩))
  exact ⟨rfl, _, _, m1, m2⟩
set_option maxHeartbeats 1000000 in
theorem zf_ss (key : ByteArray) (bo base k : Nat) (zs : List (ByteArray × List GV × List GV)) (v : Value) (xs : List Value) (W : World) (hI : ZI base bo k zs v xs W) (hk : key.size ≤ 140737488351232) (hn : k ≤ 4294967296) (tx : Tree) (px : Nat) (hx : RepVal Any W tx (.iface 203 (.pointer (some ⟨px, 0, none⟩)))) (ty : Tree) (py : Nat) (hy : RepVal Any W ty (.iface 203 (.pointer (some ⟨py, 0, none⟩)))) :
    Calls Try.prog 64 #[.string key, .iface 203 (.pointer (some ⟨px, 0, none⟩)), .iface 203 (.pointer (some ⟨py, 0, none⟩)), .pointer (some ⟨bo, 0, none⟩)] W fun e W' => e = .returned (.bool true) ∧ ∃ v' xs', ZI base bo (k + 1) (zs ++ [(key, [fromT tx], [fromT ty])]) v' xs' W' ∧ Mine (ZM base bo) W W' := by
  obtain ⟨i0, hi, hz0, hz1, hz2⟩ := info_parts info_z
  obtain ⟨va, vc, rfl⟩ := own_form hI.row
  have HI := hid hI
  have HK := hid hk
  have hbo : bo < W.heap.size := by have := hI.hb; have := hI.hs; omega
  clear hI hk
  have HX := hid hx
  clear hx
  have HY := hid hy
  clear hy
  go_enter Try.func64, Try.ntmps64
  go_upto_region 2 with fail
  have HE1 := hid ((Ext.refl W).alloc (.cells #[.string key, .slice none 0 0, .slice none 0 0] 45))
  have HB1 := hid (heap_alloc_new W (.cells #[.string key, .slice none 0 0, .slice none 0 0] 45))
  have HS1 := hid (show (W.alloc (.cells #[.string key, .slice none 0 0, .slice none 0 0] 45)).heap.size = W.heap.size + 1 by simp)
  generalize W.alloc (.cells #[.string key, .slice none 0 0, .slice none 0 0] 45) = w1 at *
  go_upto_region 4 with (go_at_call 65; refine (fromValue_any Any tx _ _ (HX.out.ext HE1.out)).mono ?_; rintro e w2 ⟨cs, rfl, hT, hE⟩; obtain ⟨r1, r2, r3, r4, r5, r6, r7, r8, r9, r10, rfl⟩ := hT.form; have HT1 := hid (hT.weak (S' := fun b => w1.heap.size ≤ b ∧ b < w2.heap.size) (fun b h1 h2 => ⟨h1, h2⟩)); have HE1a := hid hE; have HB1a := hid (hE.block HB1.out); clear hT hE; have b1 := fun o => (cell_of_heap (((Ext.refl w2).alloc o).block HB1a.out) 1).trans rfl; have b2 := fun o => free_of_heap (((Ext.refl w2).alloc o).block HB1a.out) 1)
  clear b1 b2
  have HSZ1 := hid HE1a.out.size
  have HBw3 : Hid (((w2.alloc (.cells #[.int .i64 r1, .int .i64 r2, .float .f64 r3, .string r4, .slice r5 r6 r7, .slice r8 r9 r10] 32)).setCell ⟨W.heap.size, 1, none⟩ (.slice (some ⟨w2.heap.size, 0, none⟩) 1 1)).heap[W.heap.size]? = some (.cells #[.string key, .slice (some ⟨w2.heap.size, 0, none⟩) 1 1, .slice none 0 0] 45)) := hid ((setCell_heap (((Ext.refl w2).alloc (.cells #[.int .i64 r1, .int .i64 r2, .float .f64 r3, .string r4, .slice r5 r6 r7, .slice r8 r9 r10] 32)).block HB1a.out) 1 _).trans rfl)
  have hoth : ∀ b, b ≠ W.heap.size → ((w2.alloc (.cells #[.int .i64 r1, .int .i64 r2, .float .f64 r3, .string r4, .slice r5 r6 r7, .slice r8 r9 r10] 32)).setCell ⟨W.heap.size, 1, none⟩ (.slice (some ⟨w2.heap.size, 0, none⟩) 1 1)).heap[b]? = (w2.alloc (.cells #[.int .i64 r1, .int .i64 r2, .float .f64 r3, .string r4, .slice r5 r6 r7, .slice r8 r9 r10] 32)).heap[b]? := fun b hb => Below.heap_setCell _ _ _ _ hb
  have HCw3 : Hid (((w2.alloc (.cells #[.int .i64 r1, .int .i64 r2, .float .f64 r3, .string r4, .slice r5 r6 r7, .slice r8 r9 r10] 32)).setCell ⟨W.heap.size, 1, none⟩ (.slice (some ⟨w2.heap.size, 0, none⟩) 1 1)).heap[w2.heap.size]? = some (.cells #[.int .i64 r1, .int .i64 r2, .float .f64 r3, .string r4, .slice r5 r6 r7, .slice r8 r9 r10] 32)) := hid ((hoth _ (by have := HS1.out; have := HSZ1.out; omega)).trans (heap_alloc_new w2 _))
  have HSW1 := hid (show ((w2.alloc (.cells #[.int .i64 r1, .int .i64 r2, .float .f64 r3, .string r4, .slice r5 r6 r7, .slice r8 r9 r10] 32)).setCell ⟨W.heap.size, 1, none⟩ (.slice (some ⟨w2.heap.size, 0, none⟩) 1 1)).heap.size = w2.heap.size + 1 by simp)
  have HEw3 : Hid (Ext W ((w2.alloc (.cells #[.int .i64 r1, .int .i64 r2, .float .f64 r3, .string r4, .slice r5 r6 r7, .slice r8 r9 r10] 32)).setCell ⟨W.heap.size, 1, none⟩ (.slice (some ⟨w2.heap.size, 0, none⟩) 1 1))) := hid (Below.setCell ((HE1.out.trans HE1a.out).alloc _) (Nat.le_refl _) _)
  have HSM1 : Hid (Same (fun b => b ≠ W.heap.size) w2 ((w2.alloc (.cells #[.int .i64 r1, .int .i64 r2, .float .f64 r3, .string r4, .slice r5 r6 r7, .slice r8 r9 r10] 32)).setCell ⟨W.heap.size, 1, none⟩ (.slice (some ⟨w2.heap.size, 0, none⟩) 1 1))) := hid (fun b o hb hob => (hoth b hb).trans (((Ext.refl w2).alloc _).block hob))
  clear hoth
  generalize ((w2.alloc (.cells #[.int .i64 r1, .int .i64 r2, .float .f64 r3, .string r4, .slice r5 r6 r7, .slice r8 r9 r10] 32)).setCell ⟨W.heap.size, 1, none⟩ (.slice (some ⟨w2.heap.size, 0, none⟩) 1 1)) = w3 at *
  have HT1c := hid (HT1.out.mono (S' := fun b => W.heap.size < b ∧ b < w3.heap.size) (fun b o hb hob => HSM1.out b o (by have := HS1.out; have := hb.1; omega) hob) (fun b hb hlt => by have := HS1.out; have := HSW1.out; have := hb.1; have := hb.2; omega))
  have HV1_w3 := hid (vals_one (S := fun b => W.heap.size < b ∧ b < w3.heap.size) HCw3.out rfl (by have := HS1.out; have := HSZ1.out; have := HSW1.out; omega) HT1c.out)
  go_upto_region 6 with (go_at_call 65; refine (fromValue_any Any ty _ _ (HY.out.ext HEw3.out)).mono ?_; rintro e w4 ⟨cs, rfl, hT, hE⟩; obtain ⟨m1, m2, m3, m4, m5, m6, m7, m8, m9, m10, rfl⟩ := hT.form; have HT2 := hid (hT.weak (S' := fun b => w3.heap.size ≤ b ∧ b < w4.heap.size) (fun b h1 h2 => ⟨h1, h2⟩)); have HE2a := hid hE; have HB2a := hid (hE.block HBw3.out); clear hT hE; have b1 := fun o => (cell_of_heap (((Ext.refl w4).alloc o).block HB2a.out) 2).trans rfl; have b2 := fun o => free_of_heap (((Ext.refl w4).alloc o).block HB2a.out) 2)
  clear b1 b2
  have HSZ2 := hid HE2a.out.size
  have HBw5 : Hid (((w4.alloc (.cells #[.int .i64 m1, .int .i64 m2, .float .f64 m3, .string m4, .slice m5 m6 m7, .slice m8 m9 m10] 32)).setCell ⟨W.heap.size, 2, none⟩ (.slice (some ⟨w4.heap.size, 0, none⟩) 1 1)).heap[W.heap.size]? = some (.cells #[.string key, .slice (some ⟨w2.heap.size, 0, none⟩) 1 1, .slice (some ⟨w4.heap.size, 0, none⟩) 1 1] 45)) := hid ((setCell_heap (((Ext.refl w4).alloc (.cells #[.int .i64 m1, .int .i64 m2, .float .f64 m3, .string m4, .slice m5 m6 m7, .slice m8 m9 m10] 32)).block HB2a.out) 2 _).trans rfl)
  have hoth : ∀ b, b ≠ W.heap.size → ((w4.alloc (.cells #[.int .i64 m1, .int .i64 m2, .float .f64 m3, .string m4, .slice m5 m6 m7, .slice m8 m9 m10] 32)).setCell ⟨W.heap.size, 2, none⟩ (.slice (some ⟨w4.heap.size, 0, none⟩) 1 1)).heap[b]? = (w4.alloc (.cells #[.int .i64 m1, .int .i64 m2, .float .f64 m3, .string m4, .slice m5 m6 m7, .slice m8 m9 m10] 32)).heap[b]? := fun b hb => Below.heap_setCell _ _ _ _ hb
  have HCw5 : Hid (((w4.alloc (.cells #[.int .i64 m1, .int .i64 m2, .float .f64 m3, .string m4, .slice m5 m6 m7, .slice m8 m9 m10] 32)).setCell ⟨W.heap.size, 2, none⟩ (.slice (some ⟨w4.heap.size, 0, none⟩) 1 1)).heap[w4.heap.size]? = some (.cells #[.int .i64 m1, .int .i64 m2, .float .f64 m3, .string m4, .slice m5 m6 m7, .slice m8 m9 m10] 32)) := hid ((hoth _ (by have := HS1.out; have := HSZ1.out; have := HSW1.out; have := HSZ2.out; omega)).trans (heap_alloc_new w4 _))
  have HSW2 := hid (show ((w4.alloc (.cells #[.int .i64 m1, .int .i64 m2, .float .f64 m3, .string m4, .slice m5 m6 m7, .slice m8 m9 m10] 32)).setCell ⟨W.heap.size, 2, none⟩ (.slice (some ⟨w4.heap.size, 0, none⟩) 1 1)).heap.size = w4.heap.size + 1 by simp)
  have HEw5 : Hid (Ext W ((w4.alloc (.cells #[.int .i64 m1, .int .i64 m2, .float .f64 m3, .string m4, .slice m5 m6 m7, .slice m8 m9 m10] 32)).setCell ⟨W.heap.size, 2, none⟩ (.slice (some ⟨w4.heap.size, 0, none⟩) 1 1))) := hid (Below.setCell ((HEw3.out.trans HE2a.out).alloc _) (Nat.le_refl _) _)
  have HSM2 : Hid (Same (fun b => b ≠ W.heap.size) w4 ((w4.alloc (.cells #[.int .i64 m1, .int .i64 m2, .float .f64 m3, .string m4, .slice m5 m6 m7, .slice m8 m9 m10] 32)).setCell ⟨W.heap.size, 2, none⟩ (.slice (some ⟨w4.heap.size, 0, none⟩) 1 1))) := hid (fun b o hb hob => (hoth b hb).trans (((Ext.refl w4).alloc _).block hob))
  clear hoth
  generalize ((w4.alloc (.cells #[.int .i64 m1, .int .i64 m2, .float .f64 m3, .string m4, .slice m5 m6 m7, .slice m8 m9 m10] 32)).setCell ⟨W.heap.size, 2, none⟩ (.slice (some ⟨w4.heap.size, 0, none⟩) 1 1)) = w5 at *
  have HT2c := hid (HT2.out.mono (S' := fun b => W.heap.size < b ∧ b < w5.heap.size) (fun b o hb hob => HSM2.out b o (by have := HS1.out; have := HSZ1.out; have := HSW1.out; have := hb.1; omega) hob) (fun b hb hlt => by have := HS1.out; have := HSZ1.out; have := HSW1.out; have := HSW2.out; have := hb.1; have := hb.2; omega))
  have HV2_w5 := hid (vals_one (S := fun b => W.heap.size < b ∧ b < w5.heap.size) HCw5.out rfl (by have := HS1.out; have := HSZ1.out; have := HSW1.out; have := HSZ2.out; have := HSW2.out; omega) HT2c.out)
  have HV1_w5 := hid (((HV1_w3.out.ext HE2a.out).mono (S' := fun b => W.heap.size < b ∧ b < w5.heap.size) (fun b o hb hob => HSM2.out b o (by have := hb.1; omega) hob) (fun b hb hlt => by have := HSZ2.out; have := HSW2.out; have := hb.1; have := hb.2; omega)))
  obtain ⟨b0, b1, b2⟩ : w5.cell? ⟨W.heap.size, 0, none⟩ = some (.string key) ∧ w5.cell? ⟨W.heap.size, 1, none⟩ = some (.slice (some ⟨w2.heap.size, 0, none⟩) 1 1) ∧ w5.cell? ⟨W.heap.size, 2, none⟩ = some (.slice (some ⟨w4.heap.size, 0, none⟩) 1 1) := ⟨(cell_of_heap HBw5.out 0).trans rfl, (cell_of_heap HBw5.out 1).trans rfl, (cell_of_heap HBw5.out 2).trans rfl⟩
  have HI2 := hid (HI.out.ext HEw5.out)
  have b3 := (cell_of_heap HI2.out.var 0).trans rfl
  have b4 := free_of_heap HI2.out.var 0
  have HNV := hid (show some bo ≠ (Value.slice va k vc).ownBlock from fun e => by have := own_ge HI.out.row bo e.symm; have := HI.out.hb; omega)
  go_wp2_with (at_builtin; refine wpList_append_lies _ rfl (.tmp 23) (.tmp 25) 42 rfl base 45 i0 _ 3 64 Try.underlying42 hi hz0 hz1 hz2 rfl (by decide) _ k xs rfl ((HI2.out.row).alloc _) ⟨w5.heap.size, 0, none⟩ 1 1 [.string key, .slice (some ⟨w2.heap.size, 0, none⟩) 1 1, .slice (some ⟨w4.heap.size, 0, none⟩) 1 1] rfl rfl (cells_new w5 [.string key, .slice (some ⟨w2.heap.size, 0, none⟩) 1 1, .slice (some ⟨w4.heap.size, 0, none⟩) 1 1] _) (by simp [Value.oneCell']) (by decide) (by unfold maxLen; omega) (by omega) (by have := HI2.out.hs; simp; omega) (w5.heap.size + 1) (by simp) ?_; intro g6 cap6 w6 hown6 hg6 hat6 hlt6; have HMO := hid (And.intro hown6 (And.intro hg6 hat6)); have hv6 := (hg6.block bo (by have := HEw5.out.size; simp; omega) HNV.out).trans (((Ext.refl w5).alloc _).block HI2.out.var); have z6 := (cell_of_heap hv6 0).trans rfl; have y6 := free_of_heap hv6 0; clear hown6 hg6 hat6 hlt6 hv6)
  go_ret
  obtain ⟨m1, m2⟩ := HI.out.more HEw5.out HMO.out.1 HMO.out.2.1 HMO.out.2.2 HK.out (HV1_w5.out.mono (Same.refl _ _) (fun b hb _ => ⟨Nat.le_of_lt hb.1, hb.2⟩)) (HV2_w5.out.mono (Same.refl _ _) (fun b hb _ => ⟨Nat.le_of_lt hb.1, hb.2⟩))
  exact ⟨rfl, _, _, m1, m2⟩
theorem zipFn_any (key : ByteArray) (o1 o2 : Option Tree) (x y : Value) (bo base k : Nat) (zs : List (ByteArray × List GV × List GV)) (v : Value) (xs : List Value) (W : World) (hI : ZI base bo k zs v xs W) (hk : key.size ≤ 140737488351232) (hn : k ≤ 4294967296) (hx : OptV W o1 x) (hy : OptV W o2 y) :
    Calls Try.prog 64 #[.string key, x, y, .pointer (some ⟨bo, 0, none⟩)] W fun e W' => e = .returned (.bool true) ∧ ∃ v' xs', ZI base bo (k + 1) (zs ++ [(key, optG o1, optG o2)]) v' xs' W' ∧ Mine (ZM base bo) W W' := by
  cases o1 with
  | none =>
    obtain rfl : x = .nilIface := hx
    cases o2 with
    | none =>
      obtain rfl : y = .nilIface := hy
      exact zf_nn key bo base k zs v xs W hI hk hn
    | some ty =>
      have hy' : RepVal Any W ty y := hy
      obtain ⟨py, rfl⟩ := repVal_form hy'
      exact zf_ns key bo base k zs v xs W hI hk hn ty py hy'
  | some tx =>
    have hx' : RepVal Any W tx x := hx
    obtain ⟨px, rfl⟩ := repVal_form hx'
    cases o2 with
    | none =>
      obtain rfl : y = .nilIface := hy
      exact zf_sn key bo base k zs v xs W hI hk hn tx px hx'
    | some ty =>
      have hy' : RepVal Any W ty y := hy
      obtain ⟨py, rfl⟩ := repVal_form hy'
      exact zf_ss key bo base k zs v xs W hI hk hn tx px hx' ty py hy'
/-- what is told of each of the keys of two maps -/
def toldT (m1 m2 : List (ByteArray × Tree)) : List (ByteArray × List GV × List GV) := (zipKeys m1 m2).map fun k => (k, optG (lookKV m1 k), optG (lookKV m2 k))
def ZIk (m1 m2 : List (ByteArray × Tree)) (base bo : Nat) (w : World) (k : Nat) (W : World) : Prop := (∃ v xs, ZI base bo k ((toldT m1 m2).take k) v xs W) ∧ Ext w W
theorem key_size {S : Nat → Prop} {w : World} {m1 m2 : List (ByteArray × Tree)} {r1 r2 : Nat} (h1 : RepM S w m1 r1) (h2 : RepM S w m2 r2) {k : Nat} {key : ByteArray} (hk : (zipKeys m1 m2)[k]? = some key) : key.size ≤ 140737488351232 := by
  have hm : key ∈ m1.map (·.1) ++ (m2.map (·.1)).filter fun k => !(m1.map (·.1)).contains k := (sortN_perm _).mem_iff.1 (List.mem_of_getElem? hk)
  obtain ⟨_, _, _, _, _, b1, -⟩ := h1
  obtain ⟨_, _, _, _, _, b2, -⟩ := h2
  rcases List.mem_append.1 hm with h | h
  · obtain ⟨p, hp, rfl⟩ := List.mem_map.1 h
    exact b1 p hp
  · obtain ⟨p, hp, rfl⟩ := List.mem_map.1 (List.mem_filter.1 h).1
    exact b2 p hp
theorem zip_hyp (m1 m2 : List (ByteArray × Tree)) (r1 r2 bo : Nat) (w W : World) (hE : Ext w W) (hbo : w.heap.size ≤ bo) (hvar : W.heap[bo]? = some (.cells #[.slice none 0 0] 42)) (h1 : RepM (fun b => b < W.heap.size ∧ b ≠ bo) W m1 r1) (h2 : RepM (fun b => b < W.heap.size ∧ b ≠ bo) W m2 r2)
    (hr1 : r1 ≠ bo) (hr2 : r2 ≠ bo) (hl : m1.length ≤ 2147483647 ∧ m2.length ≤ 2147483647) : ZipHyp (fun b => b < W.heap.size ∧ b ≠ bo) 64 #[.pointer (some ⟨bo, 0, none⟩)] m1 m2 r1 r2 (ZM W.heap.size bo) (ZIk m1 m2 W.heap.size bo w) (fun _ => true) W := by
  have hlt : bo < W.heap.size := (Array.getElem?_eq_some_iff.1 hvar).1
  have hK : ∀ b o, b < W.heap.size → b ≠ bo → ¬ ZM W.heap.size bo b o := by
    rintro b o h1 h2 (⟨h, _⟩ | ⟨h, _⟩)
    · exact h2 h
    · omega
  have hlt1 := h1.lt
  have hlt2 := h2.lt
  refine ⟨enters_of Try.func64 (by kernel_rfl) rfl, h1, h2, ?_, ?_, ?_, ?_, ?_, fun o => hK r1 o hlt1 hr1, fun o => hK r2 o hlt2 hr2, fun b o h => hK b o h.1 h.2⟩
  · rintro k key x y W1 hk ⟨⟨v, xs, hI⟩, hE1⟩ hs hx hy
    have hkl := (List.getElem?_eq_some_iff.1 hk).1
    have hkl2 := zipKeys_length (m1 := m1) (m2 := m2)
    refine (zipFn_any key _ _ x y bo W.heap.size k _ v xs W1 hI (key_size h1 h2 hk) (by omega) hx hy).mono ?_
    rintro e W2 ⟨he, v', xs', hI2, hm⟩
    refine ⟨he, ⟨⟨v', xs', ?_⟩, ext_mine hE1 (fun b o hb => hK b o (by have := hE.size; omega) (by omega)) hm⟩, hm⟩
    rw [take_snoc' (l := toldT m1 m2) (k := k) (p := (key, optG (lookKV m1 key), optG (lookKV m2 key))) (by unfold toldT; rw [List.getElem?_map, hk]; rfl)]
    exact hI2
  · rintro W1 W2 ⟨⟨v, xs, hI⟩, hE1⟩ hs
    have hx : xs = [] := List.eq_nil_of_length_eq_zero (by have := hI.rep.1; simpa using this)
    subst hx
    refine ⟨⟨v, [], hs.keep _ _ hI.var (.inl hlt), ownsRow_keep hI.row fun b cs hb hc => hs.keep _ _ hc (.inr (.inr ⟨hb, _, _, rfl⟩)), RowZ.nil _ _, hI.hb, Nat.le_trans hI.hs hs.size⟩, ext_still hE1 hE.size hs⟩
  · rintro k W1 W2 ⟨⟨v, xs, hI⟩, hE1⟩ hs
    exact ⟨⟨v, xs, hI.ext hs⟩, hE1.trans hs⟩
  · exact ⟨⟨_, [], hvar, World.ownsRow_nil _ _ _ _, RowZ.nil _ _, hlt, Nat.le_refl _⟩, hE⟩
  · rintro b c t fr _ ht (⟨_, c', fr', e⟩ | ⟨_, c', fr', e⟩)
    all_goals
      simp only [Obj.cells.injEq] at e
      rcases ht with rfl | rfl | rfl | rfl <;> simp at e
theorem mapZip_any {S : Nat → Prop} {F : FuncId} {caps : Array Value} {m1 m2 : List (ByteArray × Tree)} {r1 r2 : Nat} {M : Nat → Obj → Prop} {I : Nat → World → Prop} {cont : Nat → Bool} {w : World} (hZ : ZipHyp S F caps m1 m2 r1 r2 M I cont w) :
    Calls Try.prog 62 #[.iface 316 (.map (some r1)), .iface 316 (.map (some r2)), .int .i64 1, .func (.func F) #[] caps] w (Zipped I cont (zipKeys m1 m2).length) := by
  have HZ := hid hZ
  clear hZ
  go_enter Try.func62, Try.ntmps62
  go_wp2_with (go_at_call 100; refine (mzu_any _ _ _ _ _ _ _ _ _ _ _ _ (HZ.out.ext ((Ext.refl w).alloc _))).mono ?_; rintro e w2 ⟨k, b, rfl, hs, hI⟩; have HS := hid hs; have HI := hid hI; clear hs hI)
  go_ret
  exact ⟨k, b, rfl, HS.out, HI.out⟩
set_option maxHeartbeats 4000000 in
theorem zipMaps_any (ga gb : GV) (w : World) (ca cb : List Value) (hA : RepGV Any w ga ca) (hB : RepGV Any w gb cb) (hl : (plainMapT ga).length ≤ 2147483647 ∧ (plainMapT gb).length ≤ 2147483647) :
    Calls Try.prog 24 #[.agg ca.toArray, .agg cb.toArray] w fun en w' => ∃ v, en = .returned v ∧ RepZs w' v (toldT (plainMapT ga) (plainMapT gb)) ∧ Ext w w' := by
  have HA := hid hA
  have HB := hid hB
  have HLL := hid hl
  obtain ⟨p1, p2, p3, p4, p5, p6, p7, p8, p9, p10, rfl⟩ := hA.form
  obtain ⟨q1, q2, q3, q4, q5, q6, q7, q8, q9, q10, rfl⟩ := hB.form
  clear hA hB hl
  go_enter Try.func24, Try.ntmps24
  go_upto_region 2 with fail
  have HEd := hid (show Ext w (((w.alloc (.cells #[.int .i64 p1, .int .i64 p2, .float .f64 p3, .string p4, .slice p5 p6 p7, .slice p8 p9 p10] 32)).alloc (.cells #[.int .i64 q1, .int .i64 q2, .float .f64 q3, .string q4, .slice q5 q6 q7, .slice q8 q9 q10] 32)).alloc (.cells #[.slice none 0 0] 42)).drew from ((((Ext.refl w).alloc _).alloc _).alloc _).drew)
  have HXd := hid (show (((w.alloc (.cells #[.int .i64 p1, .int .i64 p2, .float .f64 p3, .string p4, .slice p5 p6 p7, .slice p8 p9 p10] 32)).alloc (.cells #[.int .i64 q1, .int .i64 q2, .float .f64 q3, .string q4, .slice q5 q6 q7, .slice q8 q9 q10] 32)).alloc (.cells #[.slice none 0 0] 42)).drew.heap[w.heap.size]? = some (.cells #[.int .i64 p1, .int .i64 p2, .float .f64 p3, .string p4, .slice p5 p6 p7, .slice p8 p9 p10] 32) ∧ (((w.alloc (.cells #[.int .i64 p1, .int .i64 p2, .float .f64 p3, .string p4, .slice p5 p6 p7, .slice p8 p9 p10] 32)).alloc (.cells #[.int .i64 q1, .int .i64 q2, .float .f64 q3, .string q4, .slice q5 q6 q7, .slice q8 q9 q10] 32)).alloc (.cells #[.slice none 0 0] 42)).drew.heap[w.heap.size + 1]? = some (.cells #[.int .i64 q1, .int .i64 q2, .float .f64 q3, .string q4, .slice q5 q6 q7, .slice q8 q9 q10] 32) ∧ (((w.alloc (.cells #[.int .i64 p1, .int .i64 p2, .float .f64 p3, .string p4, .slice p5 p6 p7, .slice p8 p9 p10] 32)).alloc (.cells #[.int .i64 q1, .int .i64 q2, .float .f64 q3, .string q4, .slice q5 q6 q7, .slice q8 q9 q10] 32)).alloc (.cells #[.slice none 0 0] 42)).drew.heap[w.heap.size + 2]? = some (.cells #[.slice none 0 0] 42) from ⟨((Ext.refl _).alloc _).block (first_heap w _ _), ((Ext.refl _).alloc _).block (second_heap w _ _), third_heap w _ _ _⟩)
  have HSd := hid (show (((w.alloc (.cells #[.int .i64 p1, .int .i64 p2, .float .f64 p3, .string p4, .slice p5 p6 p7, .slice p8 p9 p10] 32)).alloc (.cells #[.int .i64 q1, .int .i64 q2, .float .f64 q3, .string q4, .slice q5 q6 q7, .slice q8 q9 q10] 32)).alloc (.cells #[.slice none 0 0] 42)).drew.heap.size = w.heap.size + 3 by simp)
  generalize (((w.alloc (.cells #[.int .i64 p1, .int .i64 p2, .float .f64 p3, .string p4, .slice p5 p6 p7, .slice p8 p9 p10] 32)).alloc (.cells #[.int .i64 q1, .int .i64 q2, .float .f64 q3, .string q4, .slice q5 q6 q7, .slice q8 q9 q10] 32)).alloc (.cells #[.slice none 0 0] 42)) = w3 at *
  refine wp_region_late (fun w' : World => w'.cell? ⟨w.heap.size, 0, none⟩ = some (.int .i64 p1) ∧ w'.cell? ⟨w.heap.size, 1, none⟩ = some (.int .i64 p2) ∧ w'.cell? ⟨w.heap.size, 2, none⟩ = some (.float .f64 p3) ∧ w'.cell? ⟨w.heap.size, 3, none⟩ = some (.string p4) ∧ w'.cell? ⟨w.heap.size, 4, none⟩ = some (.slice p5 p6 p7) ∧ w'.cell? ⟨w.heap.size, 5, none⟩ = some (.slice p8 p9 p10) ∧ w'.cell? ⟨w.heap.size + 1, 0, none⟩ = some (.int .i64 q1) ∧ w'.cell? ⟨w.heap.size + 1, 1, none⟩ = some (.int .i64 q2) ∧ w'.cell? ⟨w.heap.size + 1, 2, none⟩ = some (.float .f64 q3) ∧ w'.cell? ⟨w.heap.size + 1, 3, none⟩ = some (.string q4) ∧ w'.cell? ⟨w.heap.size + 1, 4, none⟩ = some (.slice q5 q6 q7) ∧ w'.cell? ⟨w.heap.size + 1, 5, none⟩ = some (.slice q8 q9 q10)) [5] (by kernel_rfl) ?hS1 (fun hHeld => ?_)
  case hS1 => (obtain ⟨⟨z0, z1, z2, z3, z4, z5⟩, -⟩ := slot6 HXd.out.1; obtain ⟨⟨y0, y1, y2, y3, y4, y5⟩, -⟩ := slot6 HXd.out.2.1; exact ⟨z0, z1, z2, z3, z4, z5, y0, y1, y2, y3, y4, y5⟩)
  generalize w3.drew = wd at *
  change wpAnyM _ _ _ _ _ _ 6 #[false, false, false, false, false, false] _ _
  refine wpAnyM_take (i := 0) (oi := { dst := some 6, op := Go.Op.load 32 (Go.Operand.tmp 2), type := 32, pos := "values.go:73", after := #[], guard := none }) (v := ?v2) rfl (by kernel_rfl) (fun _ _ _ h => h) (Or.inl ⟨by rfl, ?hy2⟩) (by assumption) ?rest2
  case hy2 => (intro wz hSw; (try dsimp only at hSw); go_simp; try with_reducible rfl)
  (try simp only [Act.put, List.setIfInBounds_toArray, List.set_cons_zero, List.set_cons_succ])
  refine wpAnyM_take (i := 2) (oi := { dst := some 8, op := Go.Op.load 32 (Go.Operand.tmp 3), type := 32, pos := "values.go:73", after := #[], guard := none }) (v := ?v3) rfl (by kernel_rfl) (fun _ _ _ h => h) (Or.inl ⟨by rfl, ?hy3⟩) (by assumption) ?rest3
  case hy3 => (intro wz hSw; (try dsimp only at hSw); go_simp; try with_reducible rfl)
  (try simp only [Act.put, List.setIfInBounds_toArray, List.set_cons_zero, List.set_cons_succ])
  refine wpAnyM_take (i := 4) (oi := { dst := some 10, op := Go.Op.makeFunc (Go.Fn.func 64) #[] #[Go.Operand.tmp 5], type := 109, pos := "values.go:73", after := #[], guard := none }) (v := ?v4) rfl (by kernel_rfl) (fun _ _ _ h => h) (Or.inl ⟨by rfl, ?hy4⟩) (by assumption) ?rest4
  case hy4 => (intro wz hSw; (try dsimp only at hSw); go_simp; try with_reducible rfl)
  (try simp only [Act.put, List.setIfInBounds_toArray, List.set_cons_zero, List.set_cons_succ])
  refine wpAnyM_ready (rs := [1]) (by kernel_rfl) (by simp) ?_
  refine AllReadyM.cons (o := { dst := some 7, op := Go.Op.call { callee := Go.Callee.value (Go.Operand.func 63), args := #[Go.Operand.tmp 6], argTypes := #[32] }, type := 103, pos := "values.go:73", after := #[{ on := 0, ground := Go.Ground.data }], guard := none }) rfl (fun K hK => ?_) AllReadyM.nil
  refine step_call _ rfl 63 [.tmp 6] #[32] rfl (by kernel_rfl) [_] rfl (toMapping_any ga _ _ (HA.out.ext HEd.out)) ?_
  rintro en w4 ⟨r1, rfl, hr1, hM, hE⟩
  refine ⟨_, rfl, ?_⟩
  have HM1 := hid (And.intro hr1 hM)
  have HE4 := hid (HEd.out.trans hE)
  have HX4 := hid (And.intro (hE.block HXd.out.1) (And.intro (hE.block HXd.out.2.1) (hE.block HXd.out.2.2)))
  have HS4 := hid hE.size
  clear hr1 hM hE
  refine hK.out _ _ ?hS5 (fun hHeld => ?_)
  case hS5 => (obtain ⟨⟨z0, z1, z2, z3, z4, z5⟩, -⟩ := slot6 HX4.out.1; obtain ⟨⟨y0, y1, y2, y3, y4, y5⟩, -⟩ := slot6 HX4.out.2.1; exact ⟨z0, z1, z2, z3, z4, z5, y0, y1, y2, y3, y4, y5⟩)
  clear hK K
  (try simp only [Act.put, List.setIfInBounds_toArray, List.set_cons_zero, List.set_cons_succ])
  refine wpAnyM_ready (rs := [3]) (by kernel_rfl) (by simp) ?_
  refine AllReadyM.cons (o := { dst := some 9, op := Go.Op.call { callee := Go.Callee.value (Go.Operand.func 63), args := #[Go.Operand.tmp 8], argTypes := #[32] }, type := 103, pos := "values.go:73", after := #[{ on := 2, ground := Go.Ground.data }, { on := 1, ground := Go.Ground.chain }], guard := none }) rfl (fun K hK => ?_) AllReadyM.nil
  refine step_call _ rfl 63 [.tmp 8] #[32] rfl (by kernel_rfl) [_] rfl (toMapping_any gb _ _ (HB.out.ext HE4.out)) ?_
  rintro en w5 ⟨r2, rfl, hr2, hM, hE⟩
  refine ⟨_, rfl, ?_⟩
  have HM2 := hid (And.intro hr2 hM)
  have HM1' := hid (HM1.out.2.ext hE)
  have HE5 := hid (HE4.out.trans hE)
  have HX5 := hid (And.intro (hE.block HX4.out.1) (And.intro (hE.block HX4.out.2.1) (hE.block HX4.out.2.2)))
  have HS5 := hid hE.size
  clear hr2 hM hE
  refine hK.out _ _ ?hS6 (fun hHeld => ?_)
  case hS6 => (obtain ⟨⟨z0, z1, z2, z3, z4, z5⟩, -⟩ := slot6 HX5.out.1; obtain ⟨⟨y0, y1, y2, y3, y4, y5⟩, -⟩ := slot6 HX5.out.2.1; exact ⟨z0, z1, z2, z3, z4, z5, y0, y1, y2, y3, y4, y5⟩)
  clear hK K
  (try simp only [Act.put, List.setIfInBounds_toArray, List.set_cons_zero, List.set_cons_succ])
  refine wpAnyM_ready (rs := [5]) (by kernel_rfl) (by simp) ?_
  refine AllReadyM.behind (o := { dst := some 11, op := Go.Op.call { callee := Go.Callee.value (Go.Operand.func 62), args := #[Go.Operand.tmp 7, Go.Operand.tmp 9, Go.Operand.const (Go.Value.int Go.IntKind.i64 1), Go.Operand.tmp 10], argTypes := #[103, 103, 105, 109] }, type := 4, pos := "values.go:73", after := #[{ on := 1, ground := Go.Ground.data }, { on := 3, ground := Go.Ground.data }, { on := 4, ground := Go.Ground.data }, { on := 3, ground := Go.Ground.chain }], guard := none }) rfl (by kernel_rfl) (fun K hK => ?_) AllReadyM.nil
  refine step_call _ rfl 62 [.tmp 7, .tmp 9, .const (.int .i64 1), .tmp 10] #[103, 103, 105, 109] rfl (by kernel_rfl) [_, _, _, _] rfl (mapZip_any (zip_hyp (plainMapT ga) (plainMapT gb) r1 r2 (w.heap.size + 2) w w5 HE5.out (by omega) HX5.out.2.2 (HM1'.out.mono (S' := fun b => b < w5.heap.size ∧ b ≠ w.heap.size + 2) (Same.refl _ _) (fun b h1 h2 => ⟨h2, by have := HM1.out.1; have := HSd.out; omega⟩) rfl) (HM2.out.2.mono (S' := fun b => b < w5.heap.size ∧ b ≠ w.heap.size + 2) (Same.refl _ _) (fun b h1 h2 => ⟨h2, by have := HM2.out.1; have := HS4.out; have := HSd.out; omega⟩) rfl) (by have := HM1.out.1; have := HSd.out; omega) (by have := HM2.out.1; have := HS4.out; have := HSd.out; omega) HLL.out)) ?_
  rintro en w6 ⟨k, b, rfl, hs, hI⟩
  refine ⟨_, rfl, ?_⟩
  have HST := hid hs
  have HI := hid hI
  clear hs hI
  refine hK.out _ _ ?_
  clear hK K
  (try simp only [Act.put, List.setIfInBounds_toArray, List.set_cons_zero, List.set_cons_succ])
  refine wpAnyM_done (by kernel_rfl) ?_ _
  have hk : k = (zipKeys (plainMapT ga) (plainMapT gb)).length := by
    obtain ⟨h1, -, h3⟩ := HST.out
    rcases Nat.lt_or_ge k (zipKeys (plainMapT ga) (plainMapT gb)).length with h | h
    · obtain ⟨j, -, h4⟩ := h3 h
      cases h4
    · omega
  obtain ⟨⟨v, xs, hI⟩, hE6⟩ := HI.out
  rw [List.take_of_length_le (by unfold toldT; rw [List.length_map]; omega)] at hI
  have HZS := hid (zs_of_row hI.row hI.rep)
  have HE6 := hid hE6
  have b3 := (cell_of_heap hI.var 0).trans rfl
  clear hk hI hE6
  go_wp2_with fail
  go_ret
  exact ⟨v, rfl, HZS.out, HE6.out⟩
end Go.Proofs.Ytempfaefopfobaa
