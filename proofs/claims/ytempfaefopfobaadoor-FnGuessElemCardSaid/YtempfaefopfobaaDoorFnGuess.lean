/- FnGuessElem: the path element of an item of a list of which no type is known is, of a map, the key of those of the fields id, key and name that it has with a number, a string or a bool; and if there is none of these, or it is no map, its index; for every input. The card's condition alone: the package's list of names reads as the program's text lays it. -/
import Derived.Test.YtempfaefopfobaaDoorGuessD
import Derived.Test.YtempfaefopfobaaDoorItemA
import Derived.Test.YtempfaefopfobaaDoorFits
import Derived.Test.YtempfaefopfobaaDoorLate
import Derived.Test.YtempfaefopfobaaDoorCards
import Derived.Test.YtempfaefopfobaaDoorTie
import Derived.ProofKit
import Derived.LaidMore
import Derived.OpenShut
import Derived.Stop.Joined
import Derived.SevenTiedAt

namespace Go.Proofs.YtempfaefopfobaaDoor.fnGuess
open Go.ChangeShapes Go.WideShapes Go.ChangeAt Go.RowKit
set_option linter.unusedSimpArgs false
set_option linter.unusedVariables false
set_option maxRecDepth 100000

set_option maxHeartbeats 8000000 in
theorem walk (g : GV) (cs : List Value) (n : Int) (hn : (Lit.int .i64 n).wf = true) (gb go gc : Nat) (w : World) (hG : CandAt w gb go gc) (hR : RepGV Any w g cs) :
    Calls Tryd.prog 3 #[.int .i64 n, .agg cs.toArray] w fun e w' => e = .returned (.bool true) ∧ Ext w w' := by
  obtain ⟨c1, c2, c3, c4, c5, c6, c7, c8, c9, c10, rfl⟩ := hR.form
  have HR := hid hR
  have HGE0 := hid (fun W (hW : Ext w W) => guessE_any g _ n hn gb go gc W (hG.ext hW) (hR.ext hW))
  have HIE := hid (fun W (hW : Ext w W) => itemElem_any g _ n hn W (hR.ext hW))
  have HGE := hid (fun W (hW : Ext w W) => by have h := HGE0.out W hW; rw [guess_item] at h; exact h)
  generalize fromEl (itemEl n (plainT g)) = G at *
  clear HGE0 hR hG hn
  go_enter Tryd.func3, Tryd.ntmps3
  have HE0 := hid ((Ext.refl w).alloc (.cells #[.int .i64 c1, .int .i64 c2, .float .f64 c3, .string c4, .slice c5 c6 c7, .slice c8 c9 c10] 26))
  have X0 := hid (heap_alloc_new w (.cells #[.int .i64 c1, .int .i64 c2, .float .f64 c3, .string c4, .slice c5 c6 c7, .slice c8 c9 c10] 26))
  go_upto_region 3 with (go_at_call 4; refine (fits5_any g _ _ (HR.out.ext HE0.out)).mono ?_; rintro e w2 ⟨b, rfl, hE⟩; have HE2 := hid (HE0.out.trans hE); have X2 := hid (hE.block X0.out); cases b <;> clear hE)
  · go_ret
    exact ⟨rfl, HE2.out⟩
  · have HEd := hid (HE2.out.trans (Ext.refl w2).drew)
    have XD := hid ((Ext.refl w2).drew.block X2.out)
    refine wp_region_late (fun w' : World => w'.cell? ⟨w.heap.size, 0, none⟩ = some (.int .i64 c1) ∧ w'.cell? ⟨w.heap.size, 1, none⟩ = some (.int .i64 c2) ∧ w'.cell? ⟨w.heap.size, 2, none⟩ = some (.float .f64 c3) ∧ w'.cell? ⟨w.heap.size, 3, none⟩ = some (.string c4) ∧ w'.cell? ⟨w.heap.size, 4, none⟩ = some (.slice c5 c6 c7) ∧ w'.cell? ⟨w.heap.size, 5, none⟩ = some (.slice c8 c9 c10)) [8, 9] (by kernel_rfl) ?hS1 (fun hHeld => ?_)
    case hS1 => (obtain ⟨⟨k0, k1, k2, k3, k4, k5⟩, -⟩ := slot6 XD.out; exact ⟨k0, k1, k2, k3, k4, k5⟩)
    generalize w2.drew = wd at *
    change wpAnyM _ _ _ _ _ _ 10 #[false, false, false, false, false, false, false, false, false, false] _ _
    refine wpAnyM_take (i := 0) (oi := { dst := some 10, op := Go.Op.move (Go.Operand.tmp 0), type := 3, pos := "doors.go:154", after := #[], guard := none }) (v := ?v2) rfl (by kernel_rfl) (fun _ _ _ h => h) (Or.inl ⟨by rfl, ?hy2⟩) (by assumption) ?rest2
    case hy2 => (intro wz hSw; (try dsimp only at hSw); go_simp; try with_reducible rfl)
    (try simp only [Act.put, List.setIfInBounds_toArray, List.set_cons_zero, List.set_cons_succ])
    refine wpAnyM_take (i := 1) (oi := { dst := some 11, op := Go.Op.load 26 (Go.Operand.tmp 3), type := 26, pos := "doors.go:154", after := #[], guard := none }) (v := ?v3) rfl (by kernel_rfl) (fun _ _ _ h => h) (Or.inl ⟨by rfl, ?hy3⟩) (by assumption) ?rest3
    case hy3 => (intro wz hSw; (try dsimp only at hSw); go_simp; try with_reducible rfl)
    (try simp only [Act.put, List.setIfInBounds_toArray, List.set_cons_zero, List.set_cons_succ])
    refine wpAnyM_take (i := 3) (oi := { dst := some 13, op := Go.Op.move (Go.Operand.tmp 0), type := 3, pos := "doors.go:154", after := #[], guard := none }) (v := ?v4) rfl (by kernel_rfl) (fun _ _ _ h => h) (Or.inl ⟨by rfl, ?hy4⟩) (by assumption) ?rest4
    case hy4 => (intro wz hSw; (try dsimp only at hSw); go_simp; try with_reducible rfl)
    (try simp only [Act.put, List.setIfInBounds_toArray, List.set_cons_zero, List.set_cons_succ])
    refine wpAnyM_take (i := 4) (oi := { dst := some 14, op := Go.Op.load 26 (Go.Operand.tmp 3), type := 26, pos := "doors.go:154", after := #[], guard := none }) (v := ?v5) rfl (by kernel_rfl) (fun _ _ _ h => h) (Or.inl ⟨by rfl, ?hy5⟩) (by assumption) ?rest5
    case hy5 => (intro wz hSw; (try dsimp only at hSw); go_simp; try with_reducible rfl)
    (try simp only [Act.put, List.setIfInBounds_toArray, List.set_cons_zero, List.set_cons_succ])
    refine wpAnyM_ready (rs := [2, 6, 7]) (by kernel_rfl) (by simp) ?_
    refine AllReadyM.cons (o := { dst := some 12, op := Go.Op.call { callee := Go.Callee.value (Go.Operand.func 5), args := #[Go.Operand.tmp 10, Go.Operand.tmp 11], argTypes := #[3, 26] }, type := 29, pos := "doors.go:154", after := #[{ on := 0, ground := Go.Ground.data }, { on := 1, ground := Go.Ground.data }], guard := none }) rfl (fun K hK => ?_) ?more6
    · have tkn : True := trivial
      refine step_call _ rfl 5 [.tmp 10, .tmp 11] #[3, 26] rfl (by kernel_rfl) [_, _] rfl (HGE.out wd (HEd.out.trans (Ext.refl wd))) ?_
      rintro en x1 ⟨cs_, rfl, hT, hE⟩
      obtain ⟨a2, a3, a4, a5, au1, au2, au3, au4, au5, au6, au7, au8, au9, au10, rfl⟩ := hT.form8
      refine ⟨_, rfl, ?_⟩
      have HRa := hid (hT.weak (S' := fun b => wd.heap.size ≤ b ∧ b < x1.heap.size) (fun b h1 h2 => ⟨h1, h2⟩))
      have F1 := hid hE
      clear hT hE
      refine hK.out _ _ ?hS7 (fun hHeld => ?_)
      case hS7 => (obtain ⟨⟨k0, k1, k2, k3, k4, k5⟩, -⟩ := slot6 (F1.out.block XD.out); exact ⟨k0, k1, k2, k3, k4, k5⟩)
      clear hK K
      (try simp only [Act.put, List.setIfInBounds_toArray, List.set_cons_zero, List.set_cons_succ])
      refine wpAnyM_ready (rs := [5, 6, 7]) (by kernel_rfl) (by simp) ?_
      refine AllReadyM.cons (o := { dst := some 15, op := Go.Op.call { callee := Go.Callee.value (Go.Operand.func 6), args := #[Go.Operand.tmp 13, Go.Operand.tmp 14], argTypes := #[3, 26] }, type := 29, pos := "doors.go:154", after := #[{ on := 3, ground := Go.Ground.data }, { on := 4, ground := Go.Ground.data }, { on := 2, ground := Go.Ground.chain }], guard := none }) rfl (fun K hK => ?_) ?more8
      · have tkn : True := trivial
        refine step_call _ rfl 6 [.tmp 13, .tmp 14] #[3, 26] rfl (by kernel_rfl) [_, _] rfl (HIE.out x1 (HEd.out.trans F1.out)) ?_
        rintro en x2 ⟨cs_, rfl, hT, hE⟩
        obtain ⟨b2, b3, b4, b5, bu1, bu2, bu3, bu4, bu5, bu6, bu7, bu8, bu9, bu10, rfl⟩ := hT.form8
        refine ⟨_, rfl, ?_⟩
        have HRb := hid (hT.weak (S' := fun b => x1.heap.size ≤ b ∧ b < x2.heap.size) (fun b h1 h2 => ⟨h1, h2⟩))
        have F2 := hid hE
        clear hT hE
        refine hK.out _ _ ?hS9 (fun hHeld => ?_)
        case hS9 => (obtain ⟨⟨k0, k1, k2, k3, k4, k5⟩, -⟩ := slot6 ((F1.out.trans F2.out).block XD.out); exact ⟨k0, k1, k2, k3, k4, k5⟩)
        clear hK K
        (try simp only [Act.put, List.setIfInBounds_toArray, List.set_cons_zero, List.set_cons_succ])
        refine wpAnyM_ready (rs := [6, 7]) (by kernel_rfl) (by simp) ?_
        refine AllReadyM.cons (o := { dst := some 5, op := Go.Op.alloc 29, type := 0, pos := "doors.go:154", after := #[], guard := none }) rfl (fun K hK => ?_) ?more10
        · have tkn : True := trivial
          go_simp
          have Xa := hid (heap_alloc_new x2 (.cells #[.int .i64 0, .string ⟨#[]⟩, .slice none 0 0, .slice none 0 0, .int .i64 0, .int .i64 0, .float .f64 0, .string ⟨#[]⟩, .slice none 0 0, .slice none 0 0, .int .i64 0] 29))
          have F3 := hid ((Ext.refl x2).alloc (.cells #[.int .i64 0, .string ⟨#[]⟩, .slice none 0 0, .slice none 0 0, .int .i64 0, .int .i64 0, .float .f64 0, .string ⟨#[]⟩, .slice none 0 0, .slice none 0 0, .int .i64 0] 29))
          have La := hid (show x2.heap.size < (x2.alloc (.cells #[.int .i64 0, .string ⟨#[]⟩, .slice none 0 0, .slice none 0 0, .int .i64 0, .int .i64 0, .float .f64 0, .string ⟨#[]⟩, .slice none 0 0, .slice none 0 0, .int .i64 0] 29)).heap.size by simp)
          generalize x2.alloc (.cells #[.int .i64 0, .string ⟨#[]⟩, .slice none 0 0, .slice none 0 0, .int .i64 0, .int .i64 0, .float .f64 0, .string ⟨#[]⟩, .slice none 0 0, .slice none 0 0, .int .i64 0] 29) = x3 at *
          refine hK.out _ _ ?hS11 (fun hHeld => ?_)
          case hS11 => (obtain ⟨⟨k0, k1, k2, k3, k4, k5⟩, -⟩ := slot6 (((F1.out.trans F2.out).trans F3.out).block XD.out); exact ⟨k0, k1, k2, k3, k4, k5⟩)
          clear hK K
          (try simp only [Act.put, List.setIfInBounds_toArray, List.set_cons_zero, List.set_cons_succ])
          refine wpAnyM_ready (rs := [7]) (by kernel_rfl) (by simp) ?_
          refine AllReadyM.cons (o := { dst := some 6, op := Go.Op.alloc 29, type := 0, pos := "doors.go:154", after := #[], guard := none }) rfl (fun K hK => ?_) AllReadyM.nil
          go_simp
          have Xb := hid (heap_alloc_new x3 (.cells #[.int .i64 0, .string ⟨#[]⟩, .slice none 0 0, .slice none 0 0, .int .i64 0, .int .i64 0, .float .f64 0, .string ⟨#[]⟩, .slice none 0 0, .slice none 0 0, .int .i64 0] 29))
          have F4 := hid ((Ext.refl x3).alloc (.cells #[.int .i64 0, .string ⟨#[]⟩, .slice none 0 0, .slice none 0 0, .int .i64 0, .int .i64 0, .float .f64 0, .string ⟨#[]⟩, .slice none 0 0, .slice none 0 0, .int .i64 0] 29))
          have Lb := hid (show x3.heap.size < (x3.alloc (.cells #[.int .i64 0, .string ⟨#[]⟩, .slice none 0 0, .slice none 0 0, .int .i64 0, .int .i64 0, .float .f64 0, .string ⟨#[]⟩, .slice none 0 0, .slice none 0 0, .int .i64 0] 29)).heap.size by simp)
          generalize x3.alloc (.cells #[.int .i64 0, .string ⟨#[]⟩, .slice none 0 0, .slice none 0 0, .int .i64 0, .int .i64 0, .float .f64 0, .string ⟨#[]⟩, .slice none 0 0, .slice none 0 0, .int .i64 0] 29) = x4 at *
          refine hK.out _ _ ?hS12 (fun hHeld => ?_)
          case hS12 => (obtain ⟨⟨k0, k1, k2, k3, k4, k5⟩, -⟩ := slot6 ((((F1.out.trans F2.out).trans F3.out).trans F4.out).block XD.out); exact ⟨k0, k1, k2, k3, k4, k5⟩)
          clear hK K
          (try simp only [Act.put, List.setIfInBounds_toArray, List.set_cons_zero, List.set_cons_succ])
          refine wpAnyM_ready (rs := [8]) (by kernel_rfl) (by simp) ?_
          refine AllReadyM.behind (o := { dst := none, op := Go.Op.store 29 (Go.Operand.tmp 5) (Go.Operand.tmp 12), type := 0, pos := "doors.go:154", after := #[{ on := 6, ground := Go.Ground.data }, { on := 2, ground := Go.Ground.data }, { on := 5, ground := Go.Ground.chain }, { on := 0, ground := Go.Ground.phase }, { on := 1, ground := Go.Ground.phase }, { on := 2, ground := Go.Ground.phase }, { on := 3, ground := Go.Ground.textOnly Go.Departure.lateStores }, { on := 4, ground := Go.Ground.textOnly Go.Departure.lateStores }, { on := 5, ground := Go.Ground.textOnly Go.Departure.lateStoresUnsure }, { on := 6, ground := Go.Ground.phase }, { on := 7, ground := Go.Ground.phase }], guard := none }) rfl (by kernel_rfl) (fun K hK => ?_) AllReadyM.nil
          have s1 := F1.out.size
          have s2 := F2.out.size
          have s3 := F3.out.size
          have s4 := F4.out.size
          have la := La.out
          have lb := Lb.out
          have hne : x2.heap.size ≠ x3.heap.size := by omega
          have Ra4 := (HRa.out.ext ((F2.out.trans F3.out).trans F4.out)).weak (S' := fun b => b ≠ x2.heap.size ∧ b ≠ x3.heap.size) (fun b hb _ => by obtain ⟨hb1, hb2⟩ := hb; exact ⟨by omega, by omega⟩)
          have Rb4 := (HRb.out.ext (F3.out.trans F4.out)).weak (S' := fun b => b ≠ x2.heap.size ∧ b ≠ x3.heap.size) (fun b hb _ => by obtain ⟨hb1, hb2⟩ := hb; exact ⟨by omega, by omega⟩)
          have Xa4 := F4.out.block Xa.out
          have Xb4 := (Ext.refl x4).block Xb.out
          obtain ⟨⟨y0, y1, y2, y3, y4, y5, y6, y7, y8, y9, y10⟩, f0, f1, f2, f3, f4, f5, f6, f7, f8, f9, f10⟩ := slot11 Xa4
          go_simp
          obtain ⟨x5, hx5⟩ : ∃ x, x = setL x4 x2.heap.size 0 [.int .i64 G.kind, .string G.s, .slice a2 G.keys.length a3, .slice a4 G.l.length a5, .int .i64 au1, .int .i64 au2, .float .f64 au3, .string au4, .slice au5 au6 au7, .slice au8 au9 au10, .int .i64 G.n] := ⟨_, rfl⟩
          change K _ (setL x4 x2.heap.size 0 [.int .i64 G.kind, .string G.s, .slice a2 G.keys.length a3, .slice a4 G.l.length a5, .int .i64 au1, .int .i64 au2, .float .f64 au3, .string au4, .slice au5 au6 au7, .slice au8 au9 au10, .int .i64 G.n])
          rw [← hx5]
          have XA5 := hid (show x5.heap[x2.heap.size]? = some (.cells #[.int .i64 G.kind, .string G.s, .slice a2 G.keys.length a3, .slice a4 G.l.length a5, .int .i64 au1, .int .i64 au2, .float .f64 au3, .string au4, .slice au5 au6 au7, .slice au8 au9 au10, .int .i64 G.n] 29) by rw [hx5]; exact setL_all Xa4 [.int .i64 G.kind, .string G.s, .slice a2 G.keys.length a3, .slice a4 G.l.length a5, .int .i64 au1, .int .i64 au2, .float .f64 au3, .string au4, .slice au5 au6 au7, .slice au8 au9 au10, .int .i64 G.n] rfl)
          have XB5 := hid (show x5.heap[x3.heap.size]? = some (.cells #[.int .i64 0, .string ⟨#[]⟩, .slice none 0 0, .slice none 0 0, .int .i64 0, .int .i64 0, .float .f64 0, .string ⟨#[]⟩, .slice none 0 0, .slice none 0 0, .int .i64 0] 29) by rw [hx5]; exact (setL_other (Ne.symm hne) _).trans Xb4)
          have Q5 : Same (fun b => b ≠ x2.heap.size ∧ b ≠ x3.heap.size) x4 x5 := fun b o hb ho => by rw [hx5]; exact (setL_other hb.1 _).trans ho
          have RA5 := hid (Ra4.mono Q5 (fun _ h _ => h))
          have RB5 := hid (Rb4.mono Q5 (fun _ h _ => h))
          have E5 := hid (show Ext w x5 by rw [hx5]; exact setL_below (HEd.out.trans (((F1.out.trans F2.out).trans F3.out).trans F4.out)) (by have := HEd.out.size; omega) _ _)
          have NE := hid hne
          have LE := hid (show w.heap.size ≤ x3.heap.size by have := HEd.out.size; omega)
          clear hx5 Q5 Ra4 Rb4 Xa4 Xb4 hne s1 s2 s3 s4 la lb y0 y1 y2 y3 y4 y5 y6 y7 y8 y9 y10 f0 f1 f2 f3 f4 f5 f6 f7 f8 f9 f10
          obtain ⟨⟨y0, y1, y2, y3, y4, y5, y6, y7, y8, y9, y10⟩, f0, f1, f2, f3, f4, f5, f6, f7, f8, f9, f10⟩ := slot11 XB5.out
          refine hK.out _ _ ?_
          clear hK K
          (try simp only [Act.put, List.setIfInBounds_toArray, List.set_cons_zero, List.set_cons_succ])
          refine wpAnyM_ready (rs := [9]) (by kernel_rfl) (by simp) ?_
          refine AllReadyM.behind (o := { dst := none, op := Go.Op.store 29 (Go.Operand.tmp 6) (Go.Operand.tmp 15), type := 0, pos := "doors.go:154", after := #[{ on := 7, ground := Go.Ground.data }, { on := 5, ground := Go.Ground.data }, { on := 8, ground := Go.Ground.chain }, { on := 0, ground := Go.Ground.phase }, { on := 1, ground := Go.Ground.phase }, { on := 2, ground := Go.Ground.phase }, { on := 3, ground := Go.Ground.phase }, { on := 4, ground := Go.Ground.phase }, { on := 5, ground := Go.Ground.phase }, { on := 6, ground := Go.Ground.phase }, { on := 7, ground := Go.Ground.phase }, { on := 8, ground := Go.Ground.phase }], guard := none }) rfl (by kernel_rfl) (fun K hK => ?_) AllReadyM.nil
          go_simp
          obtain ⟨x6, hx6⟩ : ∃ x, x = setL x5 x3.heap.size 0 [.int .i64 G.kind, .string G.s, .slice b2 G.keys.length b3, .slice b4 G.l.length b5, .int .i64 bu1, .int .i64 bu2, .float .f64 bu3, .string bu4, .slice bu5 bu6 bu7, .slice bu8 bu9 bu10, .int .i64 G.n] := ⟨_, rfl⟩
          change K _ (setL x5 x3.heap.size 0 [.int .i64 G.kind, .string G.s, .slice b2 G.keys.length b3, .slice b4 G.l.length b5, .int .i64 bu1, .int .i64 bu2, .float .f64 bu3, .string bu4, .slice bu5 bu6 bu7, .slice bu8 bu9 bu10, .int .i64 G.n])
          rw [← hx6]
          have XB6 := hid (show x6.heap[x3.heap.size]? = some (.cells #[.int .i64 G.kind, .string G.s, .slice b2 G.keys.length b3, .slice b4 G.l.length b5, .int .i64 bu1, .int .i64 bu2, .float .f64 bu3, .string bu4, .slice bu5 bu6 bu7, .slice bu8 bu9 bu10, .int .i64 G.n] 29) by rw [hx6]; exact setL_all XB5.out [.int .i64 G.kind, .string G.s, .slice b2 G.keys.length b3, .slice b4 G.l.length b5, .int .i64 bu1, .int .i64 bu2, .float .f64 bu3, .string bu4, .slice bu5 bu6 bu7, .slice bu8 bu9 bu10, .int .i64 G.n] rfl)
          have XA6 := hid (show x6.heap[x2.heap.size]? = some (.cells #[.int .i64 G.kind, .string G.s, .slice a2 G.keys.length a3, .slice a4 G.l.length a5, .int .i64 au1, .int .i64 au2, .float .f64 au3, .string au4, .slice au5 au6 au7, .slice au8 au9 au10, .int .i64 G.n] 29) by rw [hx6]; exact (setL_other NE.out _).trans XA5.out)
          have Q6 : Same (fun b => b ≠ x2.heap.size ∧ b ≠ x3.heap.size) x5 x6 := fun b o hb ho => by rw [hx6]; exact (setL_other hb.2 _).trans ho
          have RA6 := hid (RA5.out.mono Q6 (S' := Any) (fun _ _ _ => trivial))
          have RB6 := hid (RB5.out.mono Q6 (S' := Any) (fun _ _ _ => trivial))
          have E6 := hid (show Ext w x6 by rw [hx6]; exact setL_below E5.out LE.out _ _)
          clear hx6 Q6 XA5 XB5 RA5 RB5 E5 y0 y1 y2 y3 y4 y5 y6 y7 y8 y9 y10 f0 f1 f2 f3 f4 f5 f6 f7 f8 f9 f10
          refine hK.out _ _ ?_
          clear hK K
          (try simp only [Act.put, List.setIfInBounds_toArray, List.set_cons_zero, List.set_cons_succ])
          refine wpAnyM_done (by kernel_rfl) ?_ _
          obtain ⟨⟨y0, y1, y2, y3, y4, y5, y6, y7, y8, y9, y10⟩, f0, f1, f2, f3, f4, f5, f6, f7, f8, f9, f10⟩ := slot11 XA6.out
          obtain ⟨⟨z0, z1, z2, z3, z4, z5, z6, z7, z8, z9, z10⟩, g0, g1, g2, g3, g4, g5, g6, g7, g8, g9, g10⟩ := slot11 XB6.out
          go_wp2_with (go_at_call 7; refine (sameElem_true G G rfl _ _ _ RA6.out RB6.out).mono ?_; rintro e x7 ⟨rfl, hE⟩; have E7 := hid (E6.out.trans hE); clear hE)
          go_ret
          exact ⟨rfl, E7.out⟩
        refine AllReadyM.cons (o := { dst := some 6, op := Go.Op.alloc 29, type := 0, pos := "doors.go:154", after := #[], guard := none }) rfl (fun K hK => ?_) AllReadyM.nil
        go_simp
        have Xb := hid (heap_alloc_new x2 (.cells #[.int .i64 0, .string ⟨#[]⟩, .slice none 0 0, .slice none 0 0, .int .i64 0, .int .i64 0, .float .f64 0, .string ⟨#[]⟩, .slice none 0 0, .slice none 0 0, .int .i64 0] 29))
        have F3 := hid ((Ext.refl x2).alloc (.cells #[.int .i64 0, .string ⟨#[]⟩, .slice none 0 0, .slice none 0 0, .int .i64 0, .int .i64 0, .float .f64 0, .string ⟨#[]⟩, .slice none 0 0, .slice none 0 0, .int .i64 0] 29))
        have Lb := hid (show x2.heap.size < (x2.alloc (.cells #[.int .i64 0, .string ⟨#[]⟩, .slice none 0 0, .slice none 0 0, .int .i64 0, .int .i64 0, .float .f64 0, .string ⟨#[]⟩, .slice none 0 0, .slice none 0 0, .int .i64 0] 29)).heap.size by simp)
        generalize x2.alloc (.cells #[.int .i64 0, .string ⟨#[]⟩, .slice none 0 0, .slice none 0 0, .int .i64 0, .int .i64 0, .float .f64 0, .string ⟨#[]⟩, .slice none 0 0, .slice none 0 0, .int .i64 0] 29) = x3 at *
        refine hK.out _ _ ?hS13 (fun hHeld => ?_)
        case hS13 => (obtain ⟨⟨k0, k1, k2, k3, k4, k5⟩, -⟩ := slot6 (((F1.out.trans F2.out).trans F3.out).block XD.out); exact ⟨k0, k1, k2, k3, k4, k5⟩)
        clear hK K
        (try simp only [Act.put, List.setIfInBounds_toArray, List.set_cons_zero, List.set_cons_succ])
        refine wpAnyM_ready (rs := [6]) (by kernel_rfl) (by simp) ?_
        refine AllReadyM.cons (o := { dst := some 5, op := Go.Op.alloc 29, type := 0, pos := "doors.go:154", after := #[], guard := none }) rfl (fun K hK => ?_) AllReadyM.nil
        go_simp
        have Xa := hid (heap_alloc_new x3 (.cells #[.int .i64 0, .string ⟨#[]⟩, .slice none 0 0, .slice none 0 0, .int .i64 0, .int .i64 0, .float .f64 0, .string ⟨#[]⟩, .slice none 0 0, .slice none 0 0, .int .i64 0] 29))
        have F4 := hid ((Ext.refl x3).alloc (.cells #[.int .i64 0, .string ⟨#[]⟩, .slice none 0 0, .slice none 0 0, .int .i64 0, .int .i64 0, .float .f64 0, .string ⟨#[]⟩, .slice none 0 0, .slice none 0 0, .int .i64 0] 29))
        have La := hid (show x3.heap.size < (x3.alloc (.cells #[.int .i64 0, .string ⟨#[]⟩, .slice none 0 0, .slice none 0 0, .int .i64 0, .int .i64 0, .float .f64 0, .string ⟨#[]⟩, .slice none 0 0, .slice none 0 0, .int .i64 0] 29)).heap.size by simp)
        generalize x3.alloc (.cells #[.int .i64 0, .string ⟨#[]⟩, .slice none 0 0, .slice none 0 0, .int .i64 0, .int .i64 0, .float .f64 0, .string ⟨#[]⟩, .slice none 0 0, .slice none 0 0, .int .i64 0] 29) = x4 at *
        refine hK.out _ _ ?hS14 (fun hHeld => ?_)
        case hS14 => (obtain ⟨⟨k0, k1, k2, k3, k4, k5⟩, -⟩ := slot6 ((((F1.out.trans F2.out).trans F3.out).trans F4.out).block XD.out); exact ⟨k0, k1, k2, k3, k4, k5⟩)
        clear hK K
        (try simp only [Act.put, List.setIfInBounds_toArray, List.set_cons_zero, List.set_cons_succ])
        refine wpAnyM_ready (rs := [8]) (by kernel_rfl) (by simp) ?_
        refine AllReadyM.behind (o := { dst := none, op := Go.Op.store 29 (Go.Operand.tmp 5) (Go.Operand.tmp 12), type := 0, pos := "doors.go:154", after := #[{ on := 6, ground := Go.Ground.data }, { on := 2, ground := Go.Ground.data }, { on := 5, ground := Go.Ground.chain }, { on := 0, ground := Go.Ground.phase }, { on := 1, ground := Go.Ground.phase }, { on := 2, ground := Go.Ground.phase }, { on := 3, ground := Go.Ground.textOnly Go.Departure.lateStores }, { on := 4, ground := Go.Ground.textOnly Go.Departure.lateStores }, { on := 5, ground := Go.Ground.textOnly Go.Departure.lateStoresUnsure }, { on := 6, ground := Go.Ground.phase }, { on := 7, ground := Go.Ground.phase }], guard := none }) rfl (by kernel_rfl) (fun K hK => ?_) AllReadyM.nil
        have s1 := F1.out.size
        have s2 := F2.out.size
        have s3 := F3.out.size
        have s4 := F4.out.size
        have la := La.out
        have lb := Lb.out
        have hne : x3.heap.size ≠ x2.heap.size := by omega
        have Ra4 := (HRa.out.ext ((F2.out.trans F3.out).trans F4.out)).weak (S' := fun b => b ≠ x3.heap.size ∧ b ≠ x2.heap.size) (fun b hb _ => by obtain ⟨hb1, hb2⟩ := hb; exact ⟨by omega, by omega⟩)
        have Rb4 := (HRb.out.ext (F3.out.trans F4.out)).weak (S' := fun b => b ≠ x3.heap.size ∧ b ≠ x2.heap.size) (fun b hb _ => by obtain ⟨hb1, hb2⟩ := hb; exact ⟨by omega, by omega⟩)
        have Xa4 := (Ext.refl x4).block Xa.out
        have Xb4 := F4.out.block Xb.out
        obtain ⟨⟨y0, y1, y2, y3, y4, y5, y6, y7, y8, y9, y10⟩, f0, f1, f2, f3, f4, f5, f6, f7, f8, f9, f10⟩ := slot11 Xa4
        go_simp
        obtain ⟨x5, hx5⟩ : ∃ x, x = setL x4 x3.heap.size 0 [.int .i64 G.kind, .string G.s, .slice a2 G.keys.length a3, .slice a4 G.l.length a5, .int .i64 au1, .int .i64 au2, .float .f64 au3, .string au4, .slice au5 au6 au7, .slice au8 au9 au10, .int .i64 G.n] := ⟨_, rfl⟩
        change K _ (setL x4 x3.heap.size 0 [.int .i64 G.kind, .string G.s, .slice a2 G.keys.length a3, .slice a4 G.l.length a5, .int .i64 au1, .int .i64 au2, .float .f64 au3, .string au4, .slice au5 au6 au7, .slice au8 au9 au10, .int .i64 G.n])
        rw [← hx5]
        have XA5 := hid (show x5.heap[x3.heap.size]? = some (.cells #[.int .i64 G.kind, .string G.s, .slice a2 G.keys.length a3, .slice a4 G.l.length a5, .int .i64 au1, .int .i64 au2, .float .f64 au3, .string au4, .slice au5 au6 au7, .slice au8 au9 au10, .int .i64 G.n] 29) by rw [hx5]; exact setL_all Xa4 [.int .i64 G.kind, .string G.s, .slice a2 G.keys.length a3, .slice a4 G.l.length a5, .int .i64 au1, .int .i64 au2, .float .f64 au3, .string au4, .slice au5 au6 au7, .slice au8 au9 au10, .int .i64 G.n] rfl)
        have XB5 := hid (show x5.heap[x2.heap.size]? = some (.cells #[.int .i64 0, .string ⟨#[]⟩, .slice none 0 0, .slice none 0 0, .int .i64 0, .int .i64 0, .float .f64 0, .string ⟨#[]⟩, .slice none 0 0, .slice none 0 0, .int .i64 0] 29) by rw [hx5]; exact (setL_other (Ne.symm hne) _).trans Xb4)
        have Q5 : Same (fun b => b ≠ x3.heap.size ∧ b ≠ x2.heap.size) x4 x5 := fun b o hb ho => by rw [hx5]; exact (setL_other hb.1 _).trans ho
        have RA5 := hid (Ra4.mono Q5 (fun _ h _ => h))
        have RB5 := hid (Rb4.mono Q5 (fun _ h _ => h))
        have E5 := hid (show Ext w x5 by rw [hx5]; exact setL_below (HEd.out.trans (((F1.out.trans F2.out).trans F3.out).trans F4.out)) (by have := HEd.out.size; omega) _ _)
        have NE := hid hne
        have LE := hid (show w.heap.size ≤ x2.heap.size by have := HEd.out.size; omega)
        clear hx5 Q5 Ra4 Rb4 Xa4 Xb4 hne s1 s2 s3 s4 la lb y0 y1 y2 y3 y4 y5 y6 y7 y8 y9 y10 f0 f1 f2 f3 f4 f5 f6 f7 f8 f9 f10
        obtain ⟨⟨y0, y1, y2, y3, y4, y5, y6, y7, y8, y9, y10⟩, f0, f1, f2, f3, f4, f5, f6, f7, f8, f9, f10⟩ := slot11 XB5.out
        refine hK.out _ _ ?_
        clear hK K
        (try simp only [Act.put, List.setIfInBounds_toArray, List.set_cons_zero, List.set_cons_succ])
        refine wpAnyM_ready (rs := [9]) (by kernel_rfl) (by simp) ?_
        refine AllReadyM.behind (o := { dst := none, op := Go.Op.store 29 (Go.Operand.tmp 6) (Go.Operand.tmp 15), type := 0, pos := "doors.go:154", after := #[{ on := 7, ground := Go.Ground.data }, { on := 5, ground := Go.Ground.data }, { on := 8, ground := Go.Ground.chain }, { on := 0, ground := Go.Ground.phase }, { on := 1, ground := Go.Ground.phase }, { on := 2, ground := Go.Ground.phase }, { on := 3, ground := Go.Ground.phase }, { on := 4, ground := Go.Ground.phase }, { on := 5, ground := Go.Ground.phase }, { on := 6, ground := Go.Ground.phase }, { on := 7, ground := Go.Ground.phase }, { on := 8, ground := Go.Ground.phase }], guard := none }) rfl (by kernel_rfl) (fun K hK => ?_) AllReadyM.nil
        go_simp
        obtain ⟨x6, hx6⟩ : ∃ x, x = setL x5 x2.heap.size 0 [.int .i64 G.kind, .string G.s, .slice b2 G.keys.length b3, .slice b4 G.l.length b5, .int .i64 bu1, .int .i64 bu2, .float .f64 bu3, .string bu4, .slice bu5 bu6 bu7, .slice bu8 bu9 bu10, .int .i64 G.n] := ⟨_, rfl⟩
        change K _ (setL x5 x2.heap.size 0 [.int .i64 G.kind, .string G.s, .slice b2 G.keys.length b3, .slice b4 G.l.length b5, .int .i64 bu1, .int .i64 bu2, .float .f64 bu3, .string bu4, .slice bu5 bu6 bu7, .slice bu8 bu9 bu10, .int .i64 G.n])
        rw [← hx6]
        have XB6 := hid (show x6.heap[x2.heap.size]? = some (.cells #[.int .i64 G.kind, .string G.s, .slice b2 G.keys.length b3, .slice b4 G.l.length b5, .int .i64 bu1, .int .i64 bu2, .float .f64 bu3, .string bu4, .slice bu5 bu6 bu7, .slice bu8 bu9 bu10, .int .i64 G.n] 29) by rw [hx6]; exact setL_all XB5.out [.int .i64 G.kind, .string G.s, .slice b2 G.keys.length b3, .slice b4 G.l.length b5, .int .i64 bu1, .int .i64 bu2, .float .f64 bu3, .string bu4, .slice bu5 bu6 bu7, .slice bu8 bu9 bu10, .int .i64 G.n] rfl)
        have XA6 := hid (show x6.heap[x3.heap.size]? = some (.cells #[.int .i64 G.kind, .string G.s, .slice a2 G.keys.length a3, .slice a4 G.l.length a5, .int .i64 au1, .int .i64 au2, .float .f64 au3, .string au4, .slice au5 au6 au7, .slice au8 au9 au10, .int .i64 G.n] 29) by rw [hx6]; exact (setL_other NE.out _).trans XA5.out)
        have Q6 : Same (fun b => b ≠ x3.heap.size ∧ b ≠ x2.heap.size) x5 x6 := fun b o hb ho => by rw [hx6]; exact (setL_other hb.2 _).trans ho
        have RA6 := hid (RA5.out.mono Q6 (S' := Any) (fun _ _ _ => trivial))
        have RB6 := hid (RB5.out.mono Q6 (S' := Any) (fun _ _ _ => trivial))
        have E6 := hid (show Ext w x6 by rw [hx6]; exact setL_below E5.out LE.out _ _)
        clear hx6 Q6 XA5 XB5 RA5 RB5 E5 y0 y1 y2 y3 y4 y5 y6 y7 y8 y9 y10 f0 f1 f2 f3 f4 f5 f6 f7 f8 f9 f10
        refine hK.out _ _ ?_
        clear hK K
        (try simp only [Act.put, List.setIfInBounds_toArray, List.set_cons_zero, List.set_cons_succ])
        refine wpAnyM_done (by kernel_rfl) ?_ _
        obtain ⟨⟨y0, y1, y2, y3, y4, y5, y6, y7, y8, y9, y10⟩, f0, f1, f2, f3, f4, f5, f6, f7, f8, f9, f10⟩ := slot11 XA6.out
        obtain ⟨⟨z0, z1, z2, z3, z4, z5, z6, z7, z8, z9, z10⟩, g0, g1, g2, g3, g4, g5, g6, g7, g8, g9, g10⟩ := slot11 XB6.out
        go_wp2_with (go_at_call 7; refine (sameElem_true G G rfl _ _ _ RA6.out RB6.out).mono ?_; rintro e x7 ⟨rfl, hE⟩; have E7 := hid (E6.out.trans hE); clear hE)
        go_ret
        exact ⟨rfl, E7.out⟩
      refine AllReadyM.cons (o := { dst := some 5, op := Go.Op.alloc 29, type := 0, pos := "doors.go:154", after := #[], guard := none }) rfl (fun K hK => ?_) ?more15
      · have tkn : True := trivial
        go_simp
        have Xa := hid (heap_alloc_new x1 (.cells #[.int .i64 0, .string ⟨#[]⟩, .slice none 0 0, .slice none 0 0, .int .i64 0, .int .i64 0, .float .f64 0, .string ⟨#[]⟩, .slice none 0 0, .slice none 0 0, .int .i64 0] 29))
        have F2 := hid ((Ext.refl x1).alloc (.cells #[.int .i64 0, .string ⟨#[]⟩, .slice none 0 0, .slice none 0 0, .int .i64 0, .int .i64 0, .float .f64 0, .string ⟨#[]⟩, .slice none 0 0, .slice none 0 0, .int .i64 0] 29))
        have La := hid (show x1.heap.size < (x1.alloc (.cells #[.int .i64 0, .string ⟨#[]⟩, .slice none 0 0, .slice none 0 0, .int .i64 0, .int .i64 0, .float .f64 0, .string ⟨#[]⟩, .slice none 0 0, .slice none 0 0, .int .i64 0] 29)).heap.size by simp)
        generalize x1.alloc (.cells #[.int .i64 0, .string ⟨#[]⟩, .slice none 0 0, .slice none 0 0, .int .i64 0, .int .i64 0, .float .f64 0, .string ⟨#[]⟩, .slice none 0 0, .slice none 0 0, .int .i64 0] 29) = x2 at *
        refine hK.out _ _ ?hS16 (fun hHeld => ?_)
        case hS16 => (obtain ⟨⟨k0, k1, k2, k3, k4, k5⟩, -⟩ := slot6 ((F1.out.trans F2.out).block XD.out); exact ⟨k0, k1, k2, k3, k4, k5⟩)
        clear hK K
        (try simp only [Act.put, List.setIfInBounds_toArray, List.set_cons_zero, List.set_cons_succ])
        refine wpAnyM_ready (rs := [5, 7]) (by kernel_rfl) (by simp) ?_
        refine AllReadyM.cons (o := { dst := some 15, op := Go.Op.call { callee := Go.Callee.value (Go.Operand.func 6), args := #[Go.Operand.tmp 13, Go.Operand.tmp 14], argTypes := #[3, 26] }, type := 29, pos := "doors.go:154", after := #[{ on := 3, ground := Go.Ground.data }, { on := 4, ground := Go.Ground.data }, { on := 2, ground := Go.Ground.chain }], guard := none }) rfl (fun K hK => ?_) ?more17
        · have tkn : True := trivial
          refine step_call _ rfl 6 [.tmp 13, .tmp 14] #[3, 26] rfl (by kernel_rfl) [_, _] rfl (HIE.out x2 (HEd.out.trans (F1.out.trans F2.out))) ?_
          rintro en x3 ⟨cs_, rfl, hT, hE⟩
          obtain ⟨b2, b3, b4, b5, bu1, bu2, bu3, bu4, bu5, bu6, bu7, bu8, bu9, bu10, rfl⟩ := hT.form8
          refine ⟨_, rfl, ?_⟩
          have HRb := hid (hT.weak (S' := fun b => x2.heap.size ≤ b ∧ b < x3.heap.size) (fun b h1 h2 => ⟨h1, h2⟩))
          have F3 := hid hE
          clear hT hE
          refine hK.out _ _ ?hS18 (fun hHeld => ?_)
          case hS18 => (obtain ⟨⟨k0, k1, k2, k3, k4, k5⟩, -⟩ := slot6 (((F1.out.trans F2.out).trans F3.out).block XD.out); exact ⟨k0, k1, k2, k3, k4, k5⟩)
          clear hK K
          (try simp only [Act.put, List.setIfInBounds_toArray, List.set_cons_zero, List.set_cons_succ])
          refine wpAnyM_ready (rs := [7]) (by kernel_rfl) (by simp) ?_
          refine AllReadyM.cons (o := { dst := some 6, op := Go.Op.alloc 29, type := 0, pos := "doors.go:154", after := #[], guard := none }) rfl (fun K hK => ?_) AllReadyM.nil
          go_simp
          have Xb := hid (heap_alloc_new x3 (.cells #[.int .i64 0, .string ⟨#[]⟩, .slice none 0 0, .slice none 0 0, .int .i64 0, .int .i64 0, .float .f64 0, .string ⟨#[]⟩, .slice none 0 0, .slice none 0 0, .int .i64 0] 29))
          have F4 := hid ((Ext.refl x3).alloc (.cells #[.int .i64 0, .string ⟨#[]⟩, .slice none 0 0, .slice none 0 0, .int .i64 0, .int .i64 0, .float .f64 0, .string ⟨#[]⟩, .slice none 0 0, .slice none 0 0, .int .i64 0] 29))
          have Lb := hid (show x3.heap.size < (x3.alloc (.cells #[.int .i64 0, .string ⟨#[]⟩, .slice none 0 0, .slice none 0 0, .int .i64 0, .int .i64 0, .float .f64 0, .string ⟨#[]⟩, .slice none 0 0, .slice none 0 0, .int .i64 0] 29)).heap.size by simp)
          generalize x3.alloc (.cells #[.int .i64 0, .string ⟨#[]⟩, .slice none 0 0, .slice none 0 0, .int .i64 0, .int .i64 0, .float .f64 0, .string ⟨#[]⟩, .slice none 0 0, .slice none 0 0, .int .i64 0] 29) = x4 at *
          refine hK.out _ _ ?hS19 (fun hHeld => ?_)
          case hS19 => (obtain ⟨⟨k0, k1, k2, k3, k4, k5⟩, -⟩ := slot6 ((((F1.out.trans F2.out).trans F3.out).trans F4.out).block XD.out); exact ⟨k0, k1, k2, k3, k4, k5⟩)
          clear hK K
          (try simp only [Act.put, List.setIfInBounds_toArray, List.set_cons_zero, List.set_cons_succ])
          refine wpAnyM_ready (rs := [8]) (by kernel_rfl) (by simp) ?_
          refine AllReadyM.behind (o := { dst := none, op := Go.Op.store 29 (Go.Operand.tmp 5) (Go.Operand.tmp 12), type := 0, pos := "doors.go:154", after := #[{ on := 6, ground := Go.Ground.data }, { on := 2, ground := Go.Ground.data }, { on := 5, ground := Go.Ground.chain }, { on := 0, ground := Go.Ground.phase }, { on := 1, ground := Go.Ground.phase }, { on := 2, ground := Go.Ground.phase }, { on := 3, ground := Go.Ground.textOnly Go.Departure.lateStores }, { on := 4, ground := Go.Ground.textOnly Go.Departure.lateStores }, { on := 5, ground := Go.Ground.textOnly Go.Departure.lateStoresUnsure }, { on := 6, ground := Go.Ground.phase }, { on := 7, ground := Go.Ground.phase }], guard := none }) rfl (by kernel_rfl) (fun K hK => ?_) AllReadyM.nil
          have s1 := F1.out.size
          have s2 := F2.out.size
          have s3 := F3.out.size
          have s4 := F4.out.size
          have la := La.out
          have lb := Lb.out
          have hne : x1.heap.size ≠ x3.heap.size := by omega
          have Ra4 := (HRa.out.ext ((F2.out.trans F3.out).trans F4.out)).weak (S' := fun b => b ≠ x1.heap.size ∧ b ≠ x3.heap.size) (fun b hb _ => by obtain ⟨hb1, hb2⟩ := hb; exact ⟨by omega, by omega⟩)
          have Rb4 := (HRb.out.ext F4.out).weak (S' := fun b => b ≠ x1.heap.size ∧ b ≠ x3.heap.size) (fun b hb _ => by obtain ⟨hb1, hb2⟩ := hb; exact ⟨by omega, by omega⟩)
          have Xa4 := (F3.out.trans F4.out).block Xa.out
          have Xb4 := (Ext.refl x4).block Xb.out
          obtain ⟨⟨y0, y1, y2, y3, y4, y5, y6, y7, y8, y9, y10⟩, f0, f1, f2, f3, f4, f5, f6, f7, f8, f9, f10⟩ := slot11 Xa4
          go_simp
          obtain ⟨x5, hx5⟩ : ∃ x, x = setL x4 x1.heap.size 0 [.int .i64 G.kind, .string G.s, .slice a2 G.keys.length a3, .slice a4 G.l.length a5, .int .i64 au1, .int .i64 au2, .float .f64 au3, .string au4, .slice au5 au6 au7, .slice au8 au9 au10, .int .i64 G.n] := ⟨_, rfl⟩
          change K _ (setL x4 x1.heap.size 0 [.int .i64 G.kind, .string G.s, .slice a2 G.keys.length a3, .slice a4 G.l.length a5, .int .i64 au1, .int .i64 au2, .float .f64 au3, .string au4, .slice au5 au6 au7, .slice au8 au9 au10, .int .i64 G.n])
          rw [← hx5]
          have XA5 := hid (show x5.heap[x1.heap.size]? = some (.cells #[.int .i64 G.kind, .string G.s, .slice a2 G.keys.length a3, .slice a4 G.l.length a5, .int .i64 au1, .int .i64 au2, .float .f64 au3, .string au4, .slice au5 au6 au7, .slice au8 au9 au10, .int .i64 G.n] 29) by rw [hx5]; exact setL_all Xa4 [.int .i64 G.kind, .string G.s, .slice a2 G.keys.length a3, .slice a4 G.l.length a5, .int .i64 au1, .int .i64 au2, .float .f64 au3, .string au4, .slice au5 au6 au7, .slice au8 au9 au10, .int .i64 G.n] rfl)
          have XB5 := hid (show x5.heap[x3.heap.size]? = some (.cells #[.int .i64 0, .string ⟨#[]⟩, .slice none 0 0, .slice none 0 0, .int .i64 0, .int .i64 0, .float .f64 0, .string ⟨#[]⟩, .slice none 0 0, .slice none 0 0, .int .i64 0] 29) by rw [hx5]; exact (setL_other (Ne.symm hne) _).trans Xb4)
          have Q5 : Same (fun b => b ≠ x1.heap.size ∧ b ≠ x3.heap.size) x4 x5 := fun b o hb ho => by rw [hx5]; exact (setL_other hb.1 _).trans ho
          have RA5 := hid (Ra4.mono Q5 (fun _ h _ => h))
          have RB5 := hid (Rb4.mono Q5 (fun _ h _ => h))
          have E5 := hid (show Ext w x5 by rw [hx5]; exact setL_below (HEd.out.trans (((F1.out.trans F2.out).trans F3.out).trans F4.out)) (by have := HEd.out.size; omega) _ _)
          have NE := hid hne
          have LE := hid (show w.heap.size ≤ x3.heap.size by have := HEd.out.size; omega)
          clear hx5 Q5 Ra4 Rb4 Xa4 Xb4 hne s1 s2 s3 s4 la lb y0 y1 y2 y3 y4 y5 y6 y7 y8 y9 y10 f0 f1 f2 f3 f4 f5 f6 f7 f8 f9 f10
          obtain ⟨⟨y0, y1, y2, y3, y4, y5, y6, y7, y8, y9, y10⟩, f0, f1, f2, f3, f4, f5, f6, f7, f8, f9, f10⟩ := slot11 XB5.out
          refine hK.out _ _ ?_
          clear hK K
          (try simp only [Act.put, List.setIfInBounds_toArray, List.set_cons_zero, List.set_cons_succ])
          refine wpAnyM_ready (rs := [9]) (by kernel_rfl) (by simp) ?_
          refine AllReadyM.behind (o := { dst := none, op := Go.Op.store 29 (Go.Operand.tmp 6) (Go.Operand.tmp 15), type := 0, pos := "doors.go:154", after := #[{ on := 7, ground := Go.Ground.data }, { on := 5, ground := Go.Ground.data }, { on := 8, ground := Go.Ground.chain }, { on := 0, ground := Go.Ground.phase }, { on := 1, ground := Go.Ground.phase }, { on := 2, ground := Go.Ground.phase }, { on := 3, ground := Go.Ground.phase }, { on := 4, ground := Go.Ground.phase }, { on := 5, ground := Go.Ground.phase }, { on := 6, ground := Go.Ground.phase }, { on := 7, ground := Go.Ground.phase }, { on := 8, ground := Go.Ground.phase }], guard := none }) rfl (by kernel_rfl) (fun K hK => ?_) AllReadyM.nil
          go_simp
          obtain ⟨x6, hx6⟩ : ∃ x, x = setL x5 x3.heap.size 0 [.int .i64 G.kind, .string G.s, .slice b2 G.keys.length b3, .slice b4 G.l.length b5, .int .i64 bu1, .int .i64 bu2, .float .f64 bu3, .string bu4, .slice bu5 bu6 bu7, .slice bu8 bu9 bu10, .int .i64 G.n] := ⟨_, rfl⟩
          change K _ (setL x5 x3.heap.size 0 [.int .i64 G.kind, .string G.s, .slice b2 G.keys.length b3, .slice b4 G.l.length b5, .int .i64 bu1, .int .i64 bu2, .float .f64 bu3, .string bu4, .slice bu5 bu6 bu7, .slice bu8 bu9 bu10, .int .i64 G.n])
          rw [← hx6]
          have XB6 := hid (show x6.heap[x3.heap.size]? = some (.cells #[.int .i64 G.kind, .string G.s, .slice b2 G.keys.length b3, .slice b4 G.l.length b5, .int .i64 bu1, .int .i64 bu2, .float .f64 bu3, .string bu4, .slice bu5 bu6 bu7, .slice bu8 bu9 bu10, .int .i64 G.n] 29) by rw [hx6]; exact setL_all XB5.out [.int .i64 G.kind, .string G.s, .slice b2 G.keys.length b3, .slice b4 G.l.length b5, .int .i64 bu1, .int .i64 bu2, .float .f64 bu3, .string bu4, .slice bu5 bu6 bu7, .slice bu8 bu9 bu10, .int .i64 G.n] rfl)
          have XA6 := hid (show x6.heap[x1.heap.size]? = some (.cells #[.int .i64 G.kind, .string G.s, .slice a2 G.keys.length a3, .slice a4 G.l.length a5, .int .i64 au1, .int .i64 au2, .float .f64 au3, .string au4, .slice au5 au6 au7, .slice au8 au9 au10, .int .i64 G.n] 29) by rw [hx6]; exact (setL_other NE.out _).trans XA5.out)
          have Q6 : Same (fun b => b ≠ x1.heap.size ∧ b ≠ x3.heap.size) x5 x6 := fun b o hb ho => by rw [hx6]; exact (setL_other hb.2 _).trans ho
          have RA6 := hid (RA5.out.mono Q6 (S' := Any) (fun _ _ _ => trivial))
          have RB6 := hid (RB5.out.mono Q6 (S' := Any) (fun _ _ _ => trivial))
          have E6 := hid (show Ext w x6 by rw [hx6]; exact setL_below E5.out LE.out _ _)
          clear hx6 Q6 XA5 XB5 RA5 RB5 E5 y0 y1 y2 y3 y4 y5 y6 y7 y8 y9 y10 f0 f1 f2 f3 f4 f5 f6 f7 f8 f9 f10
          refine hK.out _ _ ?_
          clear hK K
          (try simp only [Act.put, List.setIfInBounds_toArray, List.set_cons_zero, List.set_cons_succ])
          refine wpAnyM_done (by kernel_rfl) ?_ _
          obtain ⟨⟨y0, y1, y2, y3, y4, y5, y6, y7, y8, y9, y10⟩, f0, f1, f2, f3, f4, f5, f6, f7, f8, f9, f10⟩ := slot11 XA6.out
          obtain ⟨⟨z0, z1, z2, z3, z4, z5, z6, z7, z8, z9, z10⟩, g0, g1, g2, g3, g4, g5, g6, g7, g8, g9, g10⟩ := slot11 XB6.out
          go_wp2_with (go_at_call 7; refine (sameElem_true G G rfl _ _ _ RA6.out RB6.out).mono ?_; rintro e x7 ⟨rfl, hE⟩; have E7 := hid (E6.out.trans hE); clear hE)
          go_ret
          exact ⟨rfl, E7.out⟩
        refine AllReadyM.cons (o := { dst := some 6, op := Go.Op.alloc 29, type := 0, pos := "doors.go:154", after := #[], guard := none }) rfl (fun K hK => ?_) AllReadyM.nil
        go_simp
        have Xb := hid (heap_alloc_new x2 (.cells #[.int .i64 0, .string ⟨#[]⟩, .slice none 0 0, .slice none 0 0, .int .i64 0, .int .i64 0, .float .f64 0, .string ⟨#[]⟩, .slice none 0 0, .slice none 0 0, .int .i64 0] 29))
        have F3 := hid ((Ext.refl x2).alloc (.cells #[.int .i64 0, .string ⟨#[]⟩, .slice none 0 0, .slice none 0 0, .int .i64 0, .int .i64 0, .float .f64 0, .string ⟨#[]⟩, .slice none 0 0, .slice none 0 0, .int .i64 0] 29))
        have Lb := hid (show x2.heap.size < (x2.alloc (.cells #[.int .i64 0, .string ⟨#[]⟩, .slice none 0 0, .slice none 0 0, .int .i64 0, .int .i64 0, .float .f64 0, .string ⟨#[]⟩, .slice none 0 0, .slice none 0 0, .int .i64 0] 29)).heap.size by simp)
        generalize x2.alloc (.cells #[.int .i64 0, .string ⟨#[]⟩, .slice none 0 0, .slice none 0 0, .int .i64 0, .int .i64 0, .float .f64 0, .string ⟨#[]⟩, .slice none 0 0, .slice none 0 0, .int .i64 0] 29) = x3 at *
        refine hK.out _ _ ?hS20 (fun hHeld => ?_)
        case hS20 => (obtain ⟨⟨k0, k1, k2, k3, k4, k5⟩, -⟩ := slot6 (((F1.out.trans F2.out).trans F3.out).block XD.out); exact ⟨k0, k1, k2, k3, k4, k5⟩)
        clear hK K
        (try simp only [Act.put, List.setIfInBounds_toArray, List.set_cons_zero, List.set_cons_succ])
        refine wpAnyM_ready (rs := [5]) (by kernel_rfl) (by simp) ?_
        refine AllReadyM.cons (o := { dst := some 15, op := Go.Op.call { callee := Go.Callee.value (Go.Operand.func 6), args := #[Go.Operand.tmp 13, Go.Operand.tmp 14], argTypes := #[3, 26] }, type := 29, pos := "doors.go:154", after := #[{ on := 3, ground := Go.Ground.data }, { on := 4, ground := Go.Ground.data }, { on := 2, ground := Go.Ground.chain }], guard := none }) rfl (fun K hK => ?_) AllReadyM.nil
        refine step_call _ rfl 6 [.tmp 13, .tmp 14] #[3, 26] rfl (by kernel_rfl) [_, _] rfl (HIE.out x3 (HEd.out.trans ((F1.out.trans F2.out).trans F3.out))) ?_
        rintro en x4 ⟨cs_, rfl, hT, hE⟩
        obtain ⟨b2, b3, b4, b5, bu1, bu2, bu3, bu4, bu5, bu6, bu7, bu8, bu9, bu10, rfl⟩ := hT.form8
        refine ⟨_, rfl, ?_⟩
        have HRb := hid (hT.weak (S' := fun b => x3.heap.size ≤ b ∧ b < x4.heap.size) (fun b h1 h2 => ⟨h1, h2⟩))
        have F4 := hid hE
        clear hT hE
        refine hK.out _ _ ?hS21 (fun hHeld => ?_)
        case hS21 => (obtain ⟨⟨k0, k1, k2, k3, k4, k5⟩, -⟩ := slot6 ((((F1.out.trans F2.out).trans F3.out).trans F4.out).block XD.out); exact ⟨k0, k1, k2, k3, k4, k5⟩)
        clear hK K
        (try simp only [Act.put, List.setIfInBounds_toArray, List.set_cons_zero, List.set_cons_succ])
        refine wpAnyM_ready (rs := [8]) (by kernel_rfl) (by simp) ?_
        refine AllReadyM.behind (o := { dst := none, op := Go.Op.store 29 (Go.Operand.tmp 5) (Go.Operand.tmp 12), type := 0, pos := "doors.go:154", after := #[{ on := 6, ground := Go.Ground.data }, { on := 2, ground := Go.Ground.data }, { on := 5, ground := Go.Ground.chain }, { on := 0, ground := Go.Ground.phase }, { on := 1, ground := Go.Ground.phase }, { on := 2, ground := Go.Ground.phase }, { on := 3, ground := Go.Ground.textOnly Go.Departure.lateStores }, { on := 4, ground := Go.Ground.textOnly Go.Departure.lateStores }, { on := 5, ground := Go.Ground.textOnly Go.Departure.lateStoresUnsure }, { on := 6, ground := Go.Ground.phase }, { on := 7, ground := Go.Ground.phase }], guard := none }) rfl (by kernel_rfl) (fun K hK => ?_) AllReadyM.nil
        have s1 := F1.out.size
        have s2 := F2.out.size
        have s3 := F3.out.size
        have s4 := F4.out.size
        have la := La.out
        have lb := Lb.out
        have hne : x1.heap.size ≠ x2.heap.size := by omega
        have Ra4 := (HRa.out.ext ((F2.out.trans F3.out).trans F4.out)).weak (S' := fun b => b ≠ x1.heap.size ∧ b ≠ x2.heap.size) (fun b hb _ => by obtain ⟨hb1, hb2⟩ := hb; exact ⟨by omega, by omega⟩)
        have Rb4 := (HRb.out.ext (Ext.refl x4)).weak (S' := fun b => b ≠ x1.heap.size ∧ b ≠ x2.heap.size) (fun b hb _ => by obtain ⟨hb1, hb2⟩ := hb; exact ⟨by omega, by omega⟩)
        have Xa4 := (F3.out.trans F4.out).block Xa.out
        have Xb4 := F4.out.block Xb.out
        obtain ⟨⟨y0, y1, y2, y3, y4, y5, y6, y7, y8, y9, y10⟩, f0, f1, f2, f3, f4, f5, f6, f7, f8, f9, f10⟩ := slot11 Xa4
        go_simp
        obtain ⟨x5, hx5⟩ : ∃ x, x = setL x4 x1.heap.size 0 [.int .i64 G.kind, .string G.s, .slice a2 G.keys.length a3, .slice a4 G.l.length a5, .int .i64 au1, .int .i64 au2, .float .f64 au3, .string au4, .slice au5 au6 au7, .slice au8 au9 au10, .int .i64 G.n] := ⟨_, rfl⟩
        change K _ (setL x4 x1.heap.size 0 [.int .i64 G.kind, .string G.s, .slice a2 G.keys.length a3, .slice a4 G.l.length a5, .int .i64 au1, .int .i64 au2, .float .f64 au3, .string au4, .slice au5 au6 au7, .slice au8 au9 au10, .int .i64 G.n])
        rw [← hx5]
        have XA5 := hid (show x5.heap[x1.heap.size]? = some (.cells #[.int .i64 G.kind, .string G.s, .slice a2 G.keys.length a3, .slice a4 G.l.length a5, .int .i64 au1, .int .i64 au2, .float .f64 au3, .string au4, .slice au5 au6 au7, .slice au8 au9 au10, .int .i64 G.n] 29) by rw [hx5]; exact setL_all Xa4 [.int .i64 G.kind, .string G.s, .slice a2 G.keys.length a3, .slice a4 G.l.length a5, .int .i64 au1, .int .i64 au2, .float .f64 au3, .string au4, .slice au5 au6 au7, .slice au8 au9 au10, .int .i64 G.n] rfl)
        have XB5 := hid (show x5.heap[x2.heap.size]? = some (.cells #[.int .i64 0, .string ⟨#[]⟩, .slice none 0 0, .slice none 0 0, .int .i64 0, .int .i64 0, .float .f64 0, .string ⟨#[]⟩, .slice none 0 0, .slice none 0 0, .int .i64 0] 29) by rw [hx5]; exact (setL_other (Ne.symm hne) _).trans Xb4)
        have Q5 : Same (fun b => b ≠ x1.heap.size ∧ b ≠ x2.heap.size) x4 x5 := fun b o hb ho => by rw [hx5]; exact (setL_other hb.1 _).trans ho
        have RA5 := hid (Ra4.mono Q5 (fun _ h _ => h))
        have RB5 := hid (Rb4.mono Q5 (fun _ h _ => h))
        have E5 := hid (show Ext w x5 by rw [hx5]; exact setL_below (HEd.out.trans (((F1.out.trans F2.out).trans F3.out).trans F4.out)) (by have := HEd.out.size; omega) _ _)
        have NE := hid hne
        have LE := hid (show w.heap.size ≤ x2.heap.size by have := HEd.out.size; omega)
        clear hx5 Q5 Ra4 Rb4 Xa4 Xb4 hne s1 s2 s3 s4 la lb y0 y1 y2 y3 y4 y5 y6 y7 y8 y9 y10 f0 f1 f2 f3 f4 f5 f6 f7 f8 f9 f10
        obtain ⟨⟨y0, y1, y2, y3, y4, y5, y6, y7, y8, y9, y10⟩, f0, f1, f2, f3, f4, f5, f6, f7, f8, f9, f10⟩ := slot11 XB5.out
        refine hK.out _ _ ?_
        clear hK K
        (try simp only [Act.put, List.setIfInBounds_toArray, List.set_cons_zero, List.set_cons_succ])
        refine wpAnyM_ready (rs := [9]) (by kernel_rfl) (by simp) ?_
        refine AllReadyM.behind (o := { dst := none, op := Go.Op.store 29 (Go.Operand.tmp 6) (Go.Operand.tmp 15), type := 0, pos := "doors.go:154", after := #[{ on := 7, ground := Go.Ground.data }, { on := 5, ground := Go.Ground.data }, { on := 8, ground := Go.Ground.chain }, { on := 0, ground := Go.Ground.phase }, { on := 1, ground := Go.Ground.phase }, { on := 2, ground := Go.Ground.phase }, { on := 3, ground := Go.Ground.phase }, { on := 4, ground := Go.Ground.phase }, { on := 5, ground := Go.Ground.phase }, { on := 6, ground := Go.Ground.phase }, { on := 7, ground := Go.Ground.phase }, { on := 8, ground := Go.Ground.phase }], guard := none }) rfl (by kernel_rfl) (fun K hK => ?_) AllReadyM.nil
        go_simp
        obtain ⟨x6, hx6⟩ : ∃ x, x = setL x5 x2.heap.size 0 [.int .i64 G.kind, .string G.s, .slice b2 G.keys.length b3, .slice b4 G.l.length b5, .int .i64 bu1, .int .i64 bu2, .float .f64 bu3, .string bu4, .slice bu5 bu6 bu7, .slice bu8 bu9 bu10, .int .i64 G.n] := ⟨_, rfl⟩
        change K _ (setL x5 x2.heap.size 0 [.int .i64 G.kind, .string G.s, .slice b2 G.keys.length b3, .slice b4 G.l.length b5, .int .i64 bu1, .int .i64 bu2, .float .f64 bu3, .string bu4, .slice bu5 bu6 bu7, .slice bu8 bu9 bu10, .int .i64 G.n])
        rw [← hx6]
        have XB6 := hid (show x6.heap[x2.heap.size]? = some (.cells #[.int .i64 G.kind, .string G.s, .slice b2 G.keys.length b3, .slice b4 G.l.length b5, .int .i64 bu1, .int .i64 bu2, .float .f64 bu3, .string bu4, .slice bu5 bu6 bu7, .slice bu8 bu9 bu10, .int .i64 G.n] 29) by rw [hx6]; exact setL_all XB5.out [.int .i64 G.kind, .string G.s, .slice b2 G.keys.length b3, .slice b4 G.l.length b5, .int .i64 bu1, .int .i64 bu2, .float .f64 bu3, .string bu4, .slice bu5 bu6 bu7, .slice bu8 bu9 bu10, .int .i64 G.n] rfl)
        have XA6 := hid (show x6.heap[x1.heap.size]? = some (.cells #[.int .i64 G.kind, .string G.s, .slice a2 G.keys.length a3, .slice a4 G.l.length a5, .int .i64 au1, .int .i64 au2, .float .f64 au3, .string au4, .slice au5 au6 au7, .slice au8 au9 au10, .int .i64 G.n] 29) by rw [hx6]; exact (setL_other NE.out _).trans XA5.out)
        have Q6 : Same (fun b => b ≠ x1.heap.size ∧ b ≠ x2.heap.size) x5 x6 := fun b o hb ho => by rw [hx6]; exact (setL_other hb.2 _).trans ho
        have RA6 := hid (RA5.out.mono Q6 (S' := Any) (fun _ _ _ => trivial))
        have RB6 := hid (RB5.out.mono Q6 (S' := Any) (fun _ _ _ => trivial))
        have E6 := hid (show Ext w x6 by rw [hx6]; exact setL_below E5.out LE.out _ _)
        clear hx6 Q6 XA5 XB5 RA5 RB5 E5 y0 y1 y2 y3 y4 y5 y6 y7 y8 y9 y10 f0 f1 f2 f3 f4 f5 f6 f7 f8 f9 f10
        refine hK.out _ _ ?_
        clear hK K
        (try simp only [Act.put, List.setIfInBounds_toArray, List.set_cons_zero, List.set_cons_succ])
        refine wpAnyM_done (by kernel_rfl) ?_ _
        obtain ⟨⟨y0, y1, y2, y3, y4, y5, y6, y7, y8, y9, y10⟩, f0, f1, f2, f3, f4, f5, f6, f7, f8, f9, f10⟩ := slot11 XA6.out
        obtain ⟨⟨z0, z1, z2, z3, z4, z5, z6, z7, z8, z9, z10⟩, g0, g1, g2, g3, g4, g5, g6, g7, g8, g9, g10⟩ := slot11 XB6.out
        go_wp2_with (go_at_call 7; refine (sameElem_true G G rfl _ _ _ RA6.out RB6.out).mono ?_; rintro e x7 ⟨rfl, hE⟩; have E7 := hid (E6.out.trans hE); clear hE)
        go_ret
        exact ⟨rfl, E7.out⟩
      refine AllReadyM.cons (o := { dst := some 6, op := Go.Op.alloc 29, type := 0, pos := "doors.go:154", after := #[], guard := none }) rfl (fun K hK => ?_) AllReadyM.nil
      go_simp
      have Xb := hid (heap_alloc_new x1 (.cells #[.int .i64 0, .string ⟨#[]⟩, .slice none 0 0, .slice none 0 0, .int .i64 0, .int .i64 0, .float .f64 0, .string ⟨#[]⟩, .slice none 0 0, .slice none 0 0, .int .i64 0] 29))
      have F2 := hid ((Ext.refl x1).alloc (.cells #[.int .i64 0, .string ⟨#[]⟩, .slice none 0 0, .slice none 0 0, .int .i64 0, .int .i64 0, .float .f64 0, .string ⟨#[]⟩, .slice none 0 0, .slice none 0 0, .int .i64 0] 29))
      have Lb := hid (show x1.heap.size < (x1.alloc (.cells #[.int .i64 0, .string ⟨#[]⟩, .slice none 0 0, .slice none 0 0, .int .i64 0, .int .i64 0, .float .f64 0, .string ⟨#[]⟩, .slice none 0 0, .slice none 0 0, .int .i64 0] 29)).heap.size by simp)
      generalize x1.alloc (.cells #[.int .i64 0, .string ⟨#[]⟩, .slice none 0 0, .slice none 0 0, .int .i64 0, .int .i64 0, .float .f64 0, .string ⟨#[]⟩, .slice none 0 0, .slice none 0 0, .int .i64 0] 29) = x2 at *
      refine hK.out _ _ ?hS22 (fun hHeld => ?_)
      case hS22 => (obtain ⟨⟨k0, k1, k2, k3, k4, k5⟩, -⟩ := slot6 ((F1.out.trans F2.out).block XD.out); exact ⟨k0, k1, k2, k3, k4, k5⟩)
      clear hK K
      (try simp only [Act.put, List.setIfInBounds_toArray, List.set_cons_zero, List.set_cons_succ])
      refine wpAnyM_ready (rs := [5, 6]) (by kernel_rfl) (by simp) ?_
      refine AllReadyM.cons (o := { dst := some 15, op := Go.Op.call { callee := Go.Callee.value (Go.Operand.func 6), args := #[Go.Operand.tmp 13, Go.Operand.tmp 14], argTypes := #[3, 26] }, type := 29, pos := "doors.go:154", after := #[{ on := 3, ground := Go.Ground.data }, { on := 4, ground := Go.Ground.data }, { on := 2, ground := Go.Ground.chain }], guard := none }) rfl (fun K hK => ?_) ?more23
      · have tkn : True := trivial
        refine step_call _ rfl 6 [.tmp 13, .tmp 14] #[3, 26] rfl (by kernel_rfl) [_, _] rfl (HIE.out x2 (HEd.out.trans (F1.out.trans F2.out))) ?_
        rintro en x3 ⟨cs_, rfl, hT, hE⟩
        obtain ⟨b2, b3, b4, b5, bu1, bu2, bu3, bu4, bu5, bu6, bu7, bu8, bu9, bu10, rfl⟩ := hT.form8
        refine ⟨_, rfl, ?_⟩
        have HRb := hid (hT.weak (S' := fun b => x2.heap.size ≤ b ∧ b < x3.heap.size) (fun b h1 h2 => ⟨h1, h2⟩))
        have F3 := hid hE
        clear hT hE
        refine hK.out _ _ ?hS24 (fun hHeld => ?_)
        case hS24 => (obtain ⟨⟨k0, k1, k2, k3, k4, k5⟩, -⟩ := slot6 (((F1.out.trans F2.out).trans F3.out).block XD.out); exact ⟨k0, k1, k2, k3, k4, k5⟩)
        clear hK K
        (try simp only [Act.put, List.setIfInBounds_toArray, List.set_cons_zero, List.set_cons_succ])
        refine wpAnyM_ready (rs := [6]) (by kernel_rfl) (by simp) ?_
        refine AllReadyM.cons (o := { dst := some 5, op := Go.Op.alloc 29, type := 0, pos := "doors.go:154", after := #[], guard := none }) rfl (fun K hK => ?_) AllReadyM.nil
        go_simp
        have Xa := hid (heap_alloc_new x3 (.cells #[.int .i64 0, .string ⟨#[]⟩, .slice none 0 0, .slice none 0 0, .int .i64 0, .int .i64 0, .float .f64 0, .string ⟨#[]⟩, .slice none 0 0, .slice none 0 0, .int .i64 0] 29))
        have F4 := hid ((Ext.refl x3).alloc (.cells #[.int .i64 0, .string ⟨#[]⟩, .slice none 0 0, .slice none 0 0, .int .i64 0, .int .i64 0, .float .f64 0, .string ⟨#[]⟩, .slice none 0 0, .slice none 0 0, .int .i64 0] 29))
        have La := hid (show x3.heap.size < (x3.alloc (.cells #[.int .i64 0, .string ⟨#[]⟩, .slice none 0 0, .slice none 0 0, .int .i64 0, .int .i64 0, .float .f64 0, .string ⟨#[]⟩, .slice none 0 0, .slice none 0 0, .int .i64 0] 29)).heap.size by simp)
        generalize x3.alloc (.cells #[.int .i64 0, .string ⟨#[]⟩, .slice none 0 0, .slice none 0 0, .int .i64 0, .int .i64 0, .float .f64 0, .string ⟨#[]⟩, .slice none 0 0, .slice none 0 0, .int .i64 0] 29) = x4 at *
        refine hK.out _ _ ?hS25 (fun hHeld => ?_)
        case hS25 => (obtain ⟨⟨k0, k1, k2, k3, k4, k5⟩, -⟩ := slot6 ((((F1.out.trans F2.out).trans F3.out).trans F4.out).block XD.out); exact ⟨k0, k1, k2, k3, k4, k5⟩)
        clear hK K
        (try simp only [Act.put, List.setIfInBounds_toArray, List.set_cons_zero, List.set_cons_succ])
        refine wpAnyM_ready (rs := [8]) (by kernel_rfl) (by simp) ?_
        refine AllReadyM.behind (o := { dst := none, op := Go.Op.store 29 (Go.Operand.tmp 5) (Go.Operand.tmp 12), type := 0, pos := "doors.go:154", after := #[{ on := 6, ground := Go.Ground.data }, { on := 2, ground := Go.Ground.data }, { on := 5, ground := Go.Ground.chain }, { on := 0, ground := Go.Ground.phase }, { on := 1, ground := Go.Ground.phase }, { on := 2, ground := Go.Ground.phase }, { on := 3, ground := Go.Ground.textOnly Go.Departure.lateStores }, { on := 4, ground := Go.Ground.textOnly Go.Departure.lateStores }, { on := 5, ground := Go.Ground.textOnly Go.Departure.lateStoresUnsure }, { on := 6, ground := Go.Ground.phase }, { on := 7, ground := Go.Ground.phase }], guard := none }) rfl (by kernel_rfl) (fun K hK => ?_) AllReadyM.nil
        have s1 := F1.out.size
        have s2 := F2.out.size
        have s3 := F3.out.size
        have s4 := F4.out.size
        have la := La.out
        have lb := Lb.out
        have hne : x3.heap.size ≠ x1.heap.size := by omega
        have Ra4 := (HRa.out.ext ((F2.out.trans F3.out).trans F4.out)).weak (S' := fun b => b ≠ x3.heap.size ∧ b ≠ x1.heap.size) (fun b hb _ => by obtain ⟨hb1, hb2⟩ := hb; exact ⟨by omega, by omega⟩)
        have Rb4 := (HRb.out.ext F4.out).weak (S' := fun b => b ≠ x3.heap.size ∧ b ≠ x1.heap.size) (fun b hb _ => by obtain ⟨hb1, hb2⟩ := hb; exact ⟨by omega, by omega⟩)
        have Xa4 := (Ext.refl x4).block Xa.out
        have Xb4 := (F3.out.trans F4.out).block Xb.out
        obtain ⟨⟨y0, y1, y2, y3, y4, y5, y6, y7, y8, y9, y10⟩, f0, f1, f2, f3, f4, f5, f6, f7, f8, f9, f10⟩ := slot11 Xa4
        go_simp
        obtain ⟨x5, hx5⟩ : ∃ x, x = setL x4 x3.heap.size 0 [.int .i64 G.kind, .string G.s, .slice a2 G.keys.length a3, .slice a4 G.l.length a5, .int .i64 au1, .int .i64 au2, .float .f64 au3, .string au4, .slice au5 au6 au7, .slice au8 au9 au10, .int .i64 G.n] := ⟨_, rfl⟩
        change K _ (setL x4 x3.heap.size 0 [.int .i64 G.kind, .string G.s, .slice a2 G.keys.length a3, .slice a4 G.l.length a5, .int .i64 au1, .int .i64 au2, .float .f64 au3, .string au4, .slice au5 au6 au7, .slice au8 au9 au10, .int .i64 G.n])
        rw [← hx5]
        have XA5 := hid (show x5.heap[x3.heap.size]? = some (.cells #[.int .i64 G.kind, .string G.s, .slice a2 G.keys.length a3, .slice a4 G.l.length a5, .int .i64 au1, .int .i64 au2, .float .f64 au3, .string au4, .slice au5 au6 au7, .slice au8 au9 au10, .int .i64 G.n] 29) by rw [hx5]; exact setL_all Xa4 [.int .i64 G.kind, .string G.s, .slice a2 G.keys.length a3, .slice a4 G.l.length a5, .int .i64 au1, .int .i64 au2, .float .f64 au3, .string au4, .slice au5 au6 au7, .slice au8 au9 au10, .int .i64 G.n] rfl)
        have XB5 := hid (show x5.heap[x1.heap.size]? = some (.cells #[.int .i64 0, .string ⟨#[]⟩, .slice none 0 0, .slice none 0 0, .int .i64 0, .int .i64 0, .float .f64 0, .string ⟨#[]⟩, .slice none 0 0, .slice none 0 0, .int .i64 0] 29) by rw [hx5]; exact (setL_other (Ne.symm hne) _).trans Xb4)
        have Q5 : Same (fun b => b ≠ x3.heap.size ∧ b ≠ x1.heap.size) x4 x5 := fun b o hb ho => by rw [hx5]; exact (setL_other hb.1 _).trans ho
        have RA5 := hid (Ra4.mono Q5 (fun _ h _ => h))
        have RB5 := hid (Rb4.mono Q5 (fun _ h _ => h))
        have E5 := hid (show Ext w x5 by rw [hx5]; exact setL_below (HEd.out.trans (((F1.out.trans F2.out).trans F3.out).trans F4.out)) (by have := HEd.out.size; omega) _ _)
        have NE := hid hne
        have LE := hid (show w.heap.size ≤ x1.heap.size by have := HEd.out.size; omega)
        clear hx5 Q5 Ra4 Rb4 Xa4 Xb4 hne s1 s2 s3 s4 la lb y0 y1 y2 y3 y4 y5 y6 y7 y8 y9 y10 f0 f1 f2 f3 f4 f5 f6 f7 f8 f9 f10
        obtain ⟨⟨y0, y1, y2, y3, y4, y5, y6, y7, y8, y9, y10⟩, f0, f1, f2, f3, f4, f5, f6, f7, f8, f9, f10⟩ := slot11 XB5.out
        refine hK.out _ _ ?_
        clear hK K
        (try simp only [Act.put, List.setIfInBounds_toArray, List.set_cons_zero, List.set_cons_succ])
        refine wpAnyM_ready (rs := [9]) (by kernel_rfl) (by simp) ?_
        refine AllReadyM.behind (o := { dst := none, op := Go.Op.store 29 (Go.Operand.tmp 6) (Go.Operand.tmp 15), type := 0, pos := "doors.go:154", after := #[{ on := 7, ground := Go.Ground.data }, { on := 5, ground := Go.Ground.data }, { on := 8, ground := Go.Ground.chain }, { on := 0, ground := Go.Ground.phase }, { on := 1, ground := Go.Ground.phase }, { on := 2, ground := Go.Ground.phase }, { on := 3, ground := Go.Ground.phase }, { on := 4, ground := Go.Ground.phase }, { on := 5, ground := Go.Ground.phase }, { on := 6, ground := Go.Ground.phase }, { on := 7, ground := Go.Ground.phase }, { on := 8, ground := Go.Ground.phase }], guard := none }) rfl (by kernel_rfl) (fun K hK => ?_) AllReadyM.nil
        go_simp
        obtain ⟨x6, hx6⟩ : ∃ x, x = setL x5 x1.heap.size 0 [.int .i64 G.kind, .string G.s, .slice b2 G.keys.length b3, .slice b4 G.l.length b5, .int .i64 bu1, .int .i64 bu2, .float .f64 bu3, .string bu4, .slice bu5 bu6 bu7, .slice bu8 bu9 bu10, .int .i64 G.n] := ⟨_, rfl⟩
        change K _ (setL x5 x1.heap.size 0 [.int .i64 G.kind, .string G.s, .slice b2 G.keys.length b3, .slice b4 G.l.length b5, .int .i64 bu1, .int .i64 bu2, .float .f64 bu3, .string bu4, .slice bu5 bu6 bu7, .slice bu8 bu9 bu10, .int .i64 G.n])
        rw [← hx6]
        have XB6 := hid (show x6.heap[x1.heap.size]? = some (.cells #[.int .i64 G.kind, .string G.s, .slice b2 G.keys.length b3, .slice b4 G.l.length b5, .int .i64 bu1, .int .i64 bu2, .float .f64 bu3, .string bu4, .slice bu5 bu6 bu7, .slice bu8 bu9 bu10, .int .i64 G.n] 29) by rw [hx6]; exact setL_all XB5.out [.int .i64 G.kind, .string G.s, .slice b2 G.keys.length b3, .slice b4 G.l.length b5, .int .i64 bu1, .int .i64 bu2, .float .f64 bu3, .string bu4, .slice bu5 bu6 bu7, .slice bu8 bu9 bu10, .int .i64 G.n] rfl)
        have XA6 := hid (show x6.heap[x3.heap.size]? = some (.cells #[.int .i64 G.kind, .string G.s, .slice a2 G.keys.length a3, .slice a4 G.l.length a5, .int .i64 au1, .int .i64 au2, .float .f64 au3, .string au4, .slice au5 au6 au7, .slice au8 au9 au10, .int .i64 G.n] 29) by rw [hx6]; exact (setL_other NE.out _).trans XA5.out)
        have Q6 : Same (fun b => b ≠ x3.heap.size ∧ b ≠ x1.heap.size) x5 x6 := fun b o hb ho => by rw [hx6]; exact (setL_other hb.2 _).trans ho
        have RA6 := hid (RA5.out.mono Q6 (S' := Any) (fun _ _ _ => trivial))
        have RB6 := hid (RB5.out.mono Q6 (S' := Any) (fun _ _ _ => trivial))
        have E6 := hid (show Ext w x6 by rw [hx6]; exact setL_below E5.out LE.out _ _)
        clear hx6 Q6 XA5 XB5 RA5 RB5 E5 y0 y1 y2 y3 y4 y5 y6 y7 y8 y9 y10 f0 f1 f2 f3 f4 f5 f6 f7 f8 f9 f10
        refine hK.out _ _ ?_
        clear hK K
        (try simp only [Act.put, List.setIfInBounds_toArray, List.set_cons_zero, List.set_cons_succ])
        refine wpAnyM_done (by kernel_rfl) ?_ _
        obtain ⟨⟨y0, y1, y2, y3, y4, y5, y6, y7, y8, y9, y10⟩, f0, f1, f2, f3, f4, f5, f6, f7, f8, f9, f10⟩ := slot11 XA6.out
        obtain ⟨⟨z0, z1, z2, z3, z4, z5, z6, z7, z8, z9, z10⟩, g0, g1, g2, g3, g4, g5, g6, g7, g8, g9, g10⟩ := slot11 XB6.out
        go_wp2_with (go_at_call 7; refine (sameElem_true G G rfl _ _ _ RA6.out RB6.out).mono ?_; rintro e x7 ⟨rfl, hE⟩; have E7 := hid (E6.out.trans hE); clear hE)
        go_ret
        exact ⟨rfl, E7.out⟩
      refine AllReadyM.cons (o := { dst := some 5, op := Go.Op.alloc 29, type := 0, pos := "doors.go:154", after := #[], guard := none }) rfl (fun K hK => ?_) AllReadyM.nil
      go_simp
      have Xa := hid (heap_alloc_new x2 (.cells #[.int .i64 0, .string ⟨#[]⟩, .slice none 0 0, .slice none 0 0, .int .i64 0, .int .i64 0, .float .f64 0, .string ⟨#[]⟩, .slice none 0 0, .slice none 0 0, .int .i64 0] 29))
      have F3 := hid ((Ext.refl x2).alloc (.cells #[.int .i64 0, .string ⟨#[]⟩, .slice none 0 0, .slice none 0 0, .int .i64 0, .int .i64 0, .float .f64 0, .string ⟨#[]⟩, .slice none 0 0, .slice none 0 0, .int .i64 0] 29))
      have La := hid (show x2.heap.size < (x2.alloc (.cells #[.int .i64 0, .string ⟨#[]⟩, .slice none 0 0, .slice none 0 0, .int .i64 0, .int .i64 0, .float .f64 0, .string ⟨#[]⟩, .slice none 0 0, .slice none 0 0, .int .i64 0] 29)).heap.size by simp)
      generalize x2.alloc (.cells #[.int .i64 0, .string ⟨#[]⟩, .slice none 0 0, .slice none 0 0, .int .i64 0, .int .i64 0, .float .f64 0, .string ⟨#[]⟩, .slice none 0 0, .slice none 0 0, .int .i64 0] 29) = x3 at *
      refine hK.out _ _ ?hS26 (fun hHeld => ?_)
      case hS26 => (obtain ⟨⟨k0, k1, k2, k3, k4, k5⟩, -⟩ := slot6 (((F1.out.trans F2.out).trans F3.out).block XD.out); exact ⟨k0, k1, k2, k3, k4, k5⟩)
      clear hK K
      (try simp only [Act.put, List.setIfInBounds_toArray, List.set_cons_zero, List.set_cons_succ])
      refine wpAnyM_ready (rs := [5]) (by kernel_rfl) (by simp) ?_
      refine AllReadyM.cons (o := { dst := some 15, op := Go.Op.call { callee := Go.Callee.value (Go.Operand.func 6), args := #[Go.Operand.tmp 13, Go.Operand.tmp 14], argTypes := #[3, 26] }, type := 29, pos := "doors.go:154", after := #[{ on := 3, ground := Go.Ground.data }, { on := 4, ground := Go.Ground.data }, { on := 2, ground := Go.Ground.chain }], guard := none }) rfl (fun K hK => ?_) AllReadyM.nil
      refine step_call _ rfl 6 [.tmp 13, .tmp 14] #[3, 26] rfl (by kernel_rfl) [_, _] rfl (HIE.out x3 (HEd.out.trans ((F1.out.trans F2.out).trans F3.out))) ?_
      rintro en x4 ⟨cs_, rfl, hT, hE⟩
      obtain ⟨b2, b3, b4, b5, bu1, bu2, bu3, bu4, bu5, bu6, bu7, bu8, bu9, bu10, rfl⟩ := hT.form8
      refine ⟨_, rfl, ?_⟩
      have HRb := hid (hT.weak (S' := fun b => x3.heap.size ≤ b ∧ b < x4.heap.size) (fun b h1 h2 => ⟨h1, h2⟩))
      have F4 := hid hE
      clear hT hE
      refine hK.out _ _ ?hS27 (fun hHeld => ?_)
      case hS27 => (obtain ⟨⟨k0, k1, k2, k3, k4, k5⟩, -⟩ := slot6 ((((F1.out.trans F2.out).trans F3.out).trans F4.out).block XD.out); exact ⟨k0, k1, k2, k3, k4, k5⟩)
      clear hK K
      (try simp only [Act.put, List.setIfInBounds_toArray, List.set_cons_zero, List.set_cons_succ])
      refine wpAnyM_ready (rs := [8]) (by kernel_rfl) (by simp) ?_
      refine AllReadyM.behind (o := { dst := none, op := Go.Op.store 29 (Go.Operand.tmp 5) (Go.Operand.tmp 12), type := 0, pos := "doors.go:154", after := #[{ on := 6, ground := Go.Ground.data }, { on := 2, ground := Go.Ground.data }, { on := 5, ground := Go.Ground.chain }, { on := 0, ground := Go.Ground.phase }, { on := 1, ground := Go.Ground.phase }, { on := 2, ground := Go.Ground.phase }, { on := 3, ground := Go.Ground.textOnly Go.Departure.lateStores }, { on := 4, ground := Go.Ground.textOnly Go.Departure.lateStores }, { on := 5, ground := Go.Ground.textOnly Go.Departure.lateStoresUnsure }, { on := 6, ground := Go.Ground.phase }, { on := 7, ground := Go.Ground.phase }], guard := none }) rfl (by kernel_rfl) (fun K hK => ?_) AllReadyM.nil
      have s1 := F1.out.size
      have s2 := F2.out.size
      have s3 := F3.out.size
      have s4 := F4.out.size
      have la := La.out
      have lb := Lb.out
      have hne : x2.heap.size ≠ x1.heap.size := by omega
      have Ra4 := (HRa.out.ext ((F2.out.trans F3.out).trans F4.out)).weak (S' := fun b => b ≠ x2.heap.size ∧ b ≠ x1.heap.size) (fun b hb _ => by obtain ⟨hb1, hb2⟩ := hb; exact ⟨by omega, by omega⟩)
      have Rb4 := (HRb.out.ext (Ext.refl x4)).weak (S' := fun b => b ≠ x2.heap.size ∧ b ≠ x1.heap.size) (fun b hb _ => by obtain ⟨hb1, hb2⟩ := hb; exact ⟨by omega, by omega⟩)
      have Xa4 := F4.out.block Xa.out
      have Xb4 := (F3.out.trans F4.out).block Xb.out
      obtain ⟨⟨y0, y1, y2, y3, y4, y5, y6, y7, y8, y9, y10⟩, f0, f1, f2, f3, f4, f5, f6, f7, f8, f9, f10⟩ := slot11 Xa4
      go_simp
      obtain ⟨x5, hx5⟩ : ∃ x, x = setL x4 x2.heap.size 0 [.int .i64 G.kind, .string G.s, .slice a2 G.keys.length a3, .slice a4 G.l.length a5, .int .i64 au1, .int .i64 au2, .float .f64 au3, .string au4, .slice au5 au6 au7, .slice au8 au9 au10, .int .i64 G.n] := ⟨_, rfl⟩
      change K _ (setL x4 x2.heap.size 0 [.int .i64 G.kind, .string G.s, .slice a2 G.keys.length a3, .slice a4 G.l.length a5, .int .i64 au1, .int .i64 au2, .float .f64 au3, .string au4, .slice au5 au6 au7, .slice au8 au9 au10, .int .i64 G.n])
      rw [← hx5]
      have XA5 := hid (show x5.heap[x2.heap.size]? = some (.cells #[.int .i64 G.kind, .string G.s, .slice a2 G.keys.length a3, .slice a4 G.l.length a5, .int .i64 au1, .int .i64 au2, .float .f64 au3, .string au4, .slice au5 au6 au7, .slice au8 au9 au10, .int .i64 G.n] 29) by rw [hx5]; exact setL_all Xa4 [.int .i64 G.kind, .string G.s, .slice a2 G.keys.length a3, .slice a4 G.l.length a5, .int .i64 au1, .int .i64 au2, .float .f64 au3, .string au4, .slice au5 au6 au7, .slice au8 au9 au10, .int .i64 G.n] rfl)
      have XB5 := hid (show x5.heap[x1.heap.size]? = some (.cells #[.int .i64 0, .string ⟨#[]⟩, .slice none 0 0, .slice none 0 0, .int .i64 0, .int .i64 0, .float .f64 0, .string ⟨#[]⟩, .slice none 0 0, .slice none 0 0, .int .i64 0] 29) by rw [hx5]; exact (setL_other (Ne.symm hne) _).trans Xb4)
      have Q5 : Same (fun b => b ≠ x2.heap.size ∧ b ≠ x1.heap.size) x4 x5 := fun b o hb ho => by rw [hx5]; exact (setL_other hb.1 _).trans ho
      have RA5 := hid (Ra4.mono Q5 (fun _ h _ => h))
      have RB5 := hid (Rb4.mono Q5 (fun _ h _ => h))
      have E5 := hid (show Ext w x5 by rw [hx5]; exact setL_below (HEd.out.trans (((F1.out.trans F2.out).trans F3.out).trans F4.out)) (by have := HEd.out.size; omega) _ _)
      have NE := hid hne
      have LE := hid (show w.heap.size ≤ x1.heap.size by have := HEd.out.size; omega)
      clear hx5 Q5 Ra4 Rb4 Xa4 Xb4 hne s1 s2 s3 s4 la lb y0 y1 y2 y3 y4 y5 y6 y7 y8 y9 y10 f0 f1 f2 f3 f4 f5 f6 f7 f8 f9 f10
      obtain ⟨⟨y0, y1, y2, y3, y4, y5, y6, y7, y8, y9, y10⟩, f0, f1, f2, f3, f4, f5, f6, f7, f8, f9, f10⟩ := slot11 XB5.out
      refine hK.out _ _ ?_
      clear hK K
      (try simp only [Act.put, List.setIfInBounds_toArray, List.set_cons_zero, List.set_cons_succ])
      refine wpAnyM_ready (rs := [9]) (by kernel_rfl) (by simp) ?_
      refine AllReadyM.behind (o := { dst := none, op := Go.Op.store 29 (Go.Operand.tmp 6) (Go.Operand.tmp 15), type := 0, pos := "doors.go:154", after := #[{ on := 7, ground := Go.Ground.data }, { on := 5, ground := Go.Ground.data }, { on := 8, ground := Go.Ground.chain }, { on := 0, ground := Go.Ground.phase }, { on := 1, ground := Go.Ground.phase }, { on := 2, ground := Go.Ground.phase }, { on := 3, ground := Go.Ground.phase }, { on := 4, ground := Go.Ground.phase }, { on := 5, ground := Go.Ground.phase }, { on := 6, ground := Go.Ground.phase }, { on := 7, ground := Go.Ground.phase }, { on := 8, ground := Go.Ground.phase }], guard := none }) rfl (by kernel_rfl) (fun K hK => ?_) AllReadyM.nil
      go_simp
      obtain ⟨x6, hx6⟩ : ∃ x, x = setL x5 x1.heap.size 0 [.int .i64 G.kind, .string G.s, .slice b2 G.keys.length b3, .slice b4 G.l.length b5, .int .i64 bu1, .int .i64 bu2, .float .f64 bu3, .string bu4, .slice bu5 bu6 bu7, .slice bu8 bu9 bu10, .int .i64 G.n] := ⟨_, rfl⟩
      change K _ (setL x5 x1.heap.size 0 [.int .i64 G.kind, .string G.s, .slice b2 G.keys.length b3, .slice b4 G.l.length b5, .int .i64 bu1, .int .i64 bu2, .float .f64 bu3, .string bu4, .slice bu5 bu6 bu7, .slice bu8 bu9 bu10, .int .i64 G.n])
      rw [← hx6]
      have XB6 := hid (show x6.heap[x1.heap.size]? = some (.cells #[.int .i64 G.kind, .string G.s, .slice b2 G.keys.length b3, .slice b4 G.l.length b5, .int .i64 bu1, .int .i64 bu2, .float .f64 bu3, .string bu4, .slice bu5 bu6 bu7, .slice bu8 bu9 bu10, .int .i64 G.n] 29) by rw [hx6]; exact setL_all XB5.out [.int .i64 G.kind, .string G.s, .slice b2 G.keys.length b3, .slice b4 G.l.length b5, .int .i64 bu1, .int .i64 bu2, .float .f64 bu3, .string bu4, .slice bu5 bu6 bu7, .slice bu8 bu9 bu10, .int .i64 G.n] rfl)
      have XA6 := hid (show x6.heap[x2.heap.size]? = some (.cells #[.int .i64 G.kind, .string G.s, .slice a2 G.keys.length a3, .slice a4 G.l.length a5, .int .i64 au1, .int .i64 au2, .float .f64 au3, .string au4, .slice au5 au6 au7, .slice au8 au9 au10, .int .i64 G.n] 29) by rw [hx6]; exact (setL_other NE.out _).trans XA5.out)
      have Q6 : Same (fun b => b ≠ x2.heap.size ∧ b ≠ x1.heap.size) x5 x6 := fun b o hb ho => by rw [hx6]; exact (setL_other hb.2 _).trans ho
      have RA6 := hid (RA5.out.mono Q6 (S' := Any) (fun _ _ _ => trivial))
      have RB6 := hid (RB5.out.mono Q6 (S' := Any) (fun _ _ _ => trivial))
      have E6 := hid (show Ext w x6 by rw [hx6]; exact setL_below E5.out LE.out _ _)
      clear hx6 Q6 XA5 XB5 RA5 RB5 E5 y0 y1 y2 y3 y4 y5 y6 y7 y8 y9 y10 f0 f1 f2 f3 f4 f5 f6 f7 f8 f9 f10
      refine hK.out _ _ ?_
      clear hK K
      (try simp only [Act.put, List.setIfInBounds_toArray, List.set_cons_zero, List.set_cons_succ])
      refine wpAnyM_done (by kernel_rfl) ?_ _
      obtain ⟨⟨y0, y1, y2, y3, y4, y5, y6, y7, y8, y9, y10⟩, f0, f1, f2, f3, f4, f5, f6, f7, f8, f9, f10⟩ := slot11 XA6.out
      obtain ⟨⟨z0, z1, z2, z3, z4, z5, z6, z7, z8, z9, z10⟩, g0, g1, g2, g3, g4, g5, g6, g7, g8, g9, g10⟩ := slot11 XB6.out
      go_wp2_with (go_at_call 7; refine (sameElem_true G G rfl _ _ _ RA6.out RB6.out).mono ?_; rintro e x7 ⟨rfl, hE⟩; have E7 := hid (E6.out.trans hE); clear hE)
      go_ret
      exact ⟨rfl, E7.out⟩
    refine AllReadyM.cons (o := { dst := some 5, op := Go.Op.alloc 29, type := 0, pos := "doors.go:154", after := #[], guard := none }) rfl (fun K hK => ?_) ?more28
    · have tkn : True := trivial
      go_simp
      have Xa := hid (heap_alloc_new wd (.cells #[.int .i64 0, .string ⟨#[]⟩, .slice none 0 0, .slice none 0 0, .int .i64 0, .int .i64 0, .float .f64 0, .string ⟨#[]⟩, .slice none 0 0, .slice none 0 0, .int .i64 0] 29))
      have F1 := hid ((Ext.refl wd).alloc (.cells #[.int .i64 0, .string ⟨#[]⟩, .slice none 0 0, .slice none 0 0, .int .i64 0, .int .i64 0, .float .f64 0, .string ⟨#[]⟩, .slice none 0 0, .slice none 0 0, .int .i64 0] 29))
      have La := hid (show wd.heap.size < (wd.alloc (.cells #[.int .i64 0, .string ⟨#[]⟩, .slice none 0 0, .slice none 0 0, .int .i64 0, .int .i64 0, .float .f64 0, .string ⟨#[]⟩, .slice none 0 0, .slice none 0 0, .int .i64 0] 29)).heap.size by simp)
      generalize wd.alloc (.cells #[.int .i64 0, .string ⟨#[]⟩, .slice none 0 0, .slice none 0 0, .int .i64 0, .int .i64 0, .float .f64 0, .string ⟨#[]⟩, .slice none 0 0, .slice none 0 0, .int .i64 0] 29) = x1 at *
      refine hK.out _ _ ?hS29 (fun hHeld => ?_)
      case hS29 => (obtain ⟨⟨k0, k1, k2, k3, k4, k5⟩, -⟩ := slot6 (F1.out.block XD.out); exact ⟨k0, k1, k2, k3, k4, k5⟩)
      clear hK K
      (try simp only [Act.put, List.setIfInBounds_toArray, List.set_cons_zero, List.set_cons_succ])
      refine wpAnyM_ready (rs := [2, 7]) (by kernel_rfl) (by simp) ?_
      refine AllReadyM.cons (o := { dst := some 12, op := Go.Op.call { callee := Go.Callee.value (Go.Operand.func 5), args := #[Go.Operand.tmp 10, Go.Operand.tmp 11], argTypes := #[3, 26] }, type := 29, pos := "doors.go:154", after := #[{ on := 0, ground := Go.Ground.data }, { on := 1, ground := Go.Ground.data }], guard := none }) rfl (fun K hK => ?_) ?more30
      · have tkn : True := trivial
        refine step_call _ rfl 5 [.tmp 10, .tmp 11] #[3, 26] rfl (by kernel_rfl) [_, _] rfl (HGE.out x1 (HEd.out.trans F1.out)) ?_
        rintro en x2 ⟨cs_, rfl, hT, hE⟩
        obtain ⟨a2, a3, a4, a5, au1, au2, au3, au4, au5, au6, au7, au8, au9, au10, rfl⟩ := hT.form8
        refine ⟨_, rfl, ?_⟩
        have HRa := hid (hT.weak (S' := fun b => x1.heap.size ≤ b ∧ b < x2.heap.size) (fun b h1 h2 => ⟨h1, h2⟩))
        have F2 := hid hE
        clear hT hE
        refine hK.out _ _ ?hS31 (fun hHeld => ?_)
        case hS31 => (obtain ⟨⟨k0, k1, k2, k3, k4, k5⟩, -⟩ := slot6 ((F1.out.trans F2.out).block XD.out); exact ⟨k0, k1, k2, k3, k4, k5⟩)
        clear hK K
        (try simp only [Act.put, List.setIfInBounds_toArray, List.set_cons_zero, List.set_cons_succ])
        refine wpAnyM_ready (rs := [5, 7]) (by kernel_rfl) (by simp) ?_
        refine AllReadyM.cons (o := { dst := some 15, op := Go.Op.call { callee := Go.Callee.value (Go.Operand.func 6), args := #[Go.Operand.tmp 13, Go.Operand.tmp 14], argTypes := #[3, 26] }, type := 29, pos := "doors.go:154", after := #[{ on := 3, ground := Go.Ground.data }, { on := 4, ground := Go.Ground.data }, { on := 2, ground := Go.Ground.chain }], guard := none }) rfl (fun K hK => ?_) ?more32
        · have tkn : True := trivial
          refine step_call _ rfl 6 [.tmp 13, .tmp 14] #[3, 26] rfl (by kernel_rfl) [_, _] rfl (HIE.out x2 (HEd.out.trans (F1.out.trans F2.out))) ?_
          rintro en x3 ⟨cs_, rfl, hT, hE⟩
          obtain ⟨b2, b3, b4, b5, bu1, bu2, bu3, bu4, bu5, bu6, bu7, bu8, bu9, bu10, rfl⟩ := hT.form8
          refine ⟨_, rfl, ?_⟩
          have HRb := hid (hT.weak (S' := fun b => x2.heap.size ≤ b ∧ b < x3.heap.size) (fun b h1 h2 => ⟨h1, h2⟩))
          have F3 := hid hE
          clear hT hE
          refine hK.out _ _ ?hS33 (fun hHeld => ?_)
          case hS33 => (obtain ⟨⟨k0, k1, k2, k3, k4, k5⟩, -⟩ := slot6 (((F1.out.trans F2.out).trans F3.out).block XD.out); exact ⟨k0, k1, k2, k3, k4, k5⟩)
          clear hK K
          (try simp only [Act.put, List.setIfInBounds_toArray, List.set_cons_zero, List.set_cons_succ])
          refine wpAnyM_ready (rs := [7]) (by kernel_rfl) (by simp) ?_
          refine AllReadyM.cons (o := { dst := some 6, op := Go.Op.alloc 29, type := 0, pos := "doors.go:154", after := #[], guard := none }) rfl (fun K hK => ?_) AllReadyM.nil
          go_simp
          have Xb := hid (heap_alloc_new x3 (.cells #[.int .i64 0, .string ⟨#[]⟩, .slice none 0 0, .slice none 0 0, .int .i64 0, .int .i64 0, .float .f64 0, .string ⟨#[]⟩, .slice none 0 0, .slice none 0 0, .int .i64 0] 29))
          have F4 := hid ((Ext.refl x3).alloc (.cells #[.int .i64 0, .string ⟨#[]⟩, .slice none 0 0, .slice none 0 0, .int .i64 0, .int .i64 0, .float .f64 0, .string ⟨#[]⟩, .slice none 0 0, .slice none 0 0, .int .i64 0] 29))
          have Lb := hid (show x3.heap.size < (x3.alloc (.cells #[.int .i64 0, .string ⟨#[]⟩, .slice none 0 0, .slice none 0 0, .int .i64 0, .int .i64 0, .float .f64 0, .string ⟨#[]⟩, .slice none 0 0, .slice none 0 0, .int .i64 0] 29)).heap.size by simp)
          generalize x3.alloc (.cells #[.int .i64 0, .string ⟨#[]⟩, .slice none 0 0, .slice none 0 0, .int .i64 0, .int .i64 0, .float .f64 0, .string ⟨#[]⟩, .slice none 0 0, .slice none 0 0, .int .i64 0] 29) = x4 at *
          refine hK.out _ _ ?hS34 (fun hHeld => ?_)
          case hS34 => (obtain ⟨⟨k0, k1, k2, k3, k4, k5⟩, -⟩ := slot6 ((((F1.out.trans F2.out).trans F3.out).trans F4.out).block XD.out); exact ⟨k0, k1, k2, k3, k4, k5⟩)
          clear hK K
          (try simp only [Act.put, List.setIfInBounds_toArray, List.set_cons_zero, List.set_cons_succ])
          refine wpAnyM_ready (rs := [8]) (by kernel_rfl) (by simp) ?_
          refine AllReadyM.behind (o := { dst := none, op := Go.Op.store 29 (Go.Operand.tmp 5) (Go.Operand.tmp 12), type := 0, pos := "doors.go:154", after := #[{ on := 6, ground := Go.Ground.data }, { on := 2, ground := Go.Ground.data }, { on := 5, ground := Go.Ground.chain }, { on := 0, ground := Go.Ground.phase }, { on := 1, ground := Go.Ground.phase }, { on := 2, ground := Go.Ground.phase }, { on := 3, ground := Go.Ground.textOnly Go.Departure.lateStores }, { on := 4, ground := Go.Ground.textOnly Go.Departure.lateStores }, { on := 5, ground := Go.Ground.textOnly Go.Departure.lateStoresUnsure }, { on := 6, ground := Go.Ground.phase }, { on := 7, ground := Go.Ground.phase }], guard := none }) rfl (by kernel_rfl) (fun K hK => ?_) AllReadyM.nil
          have s1 := F1.out.size
          have s2 := F2.out.size
          have s3 := F3.out.size
          have s4 := F4.out.size
          have la := La.out
          have lb := Lb.out
          have hne : wd.heap.size ≠ x3.heap.size := by omega
          have Ra4 := (HRa.out.ext (F3.out.trans F4.out)).weak (S' := fun b => b ≠ wd.heap.size ∧ b ≠ x3.heap.size) (fun b hb _ => by obtain ⟨hb1, hb2⟩ := hb; exact ⟨by omega, by omega⟩)
          have Rb4 := (HRb.out.ext F4.out).weak (S' := fun b => b ≠ wd.heap.size ∧ b ≠ x3.heap.size) (fun b hb _ => by obtain ⟨hb1, hb2⟩ := hb; exact ⟨by omega, by omega⟩)
          have Xa4 := ((F2.out.trans F3.out).trans F4.out).block Xa.out
          have Xb4 := (Ext.refl x4).block Xb.out
          obtain ⟨⟨y0, y1, y2, y3, y4, y5, y6, y7, y8, y9, y10⟩, f0, f1, f2, f3, f4, f5, f6, f7, f8, f9, f10⟩ := slot11 Xa4
          go_simp
          obtain ⟨x5, hx5⟩ : ∃ x, x = setL x4 wd.heap.size 0 [.int .i64 G.kind, .string G.s, .slice a2 G.keys.length a3, .slice a4 G.l.length a5, .int .i64 au1, .int .i64 au2, .float .f64 au3, .string au4, .slice au5 au6 au7, .slice au8 au9 au10, .int .i64 G.n] := ⟨_, rfl⟩
          change K _ (setL x4 wd.heap.size 0 [.int .i64 G.kind, .string G.s, .slice a2 G.keys.length a3, .slice a4 G.l.length a5, .int .i64 au1, .int .i64 au2, .float .f64 au3, .string au4, .slice au5 au6 au7, .slice au8 au9 au10, .int .i64 G.n])
          rw [← hx5]
          have XA5 := hid (show x5.heap[wd.heap.size]? = some (.cells #[.int .i64 G.kind, .string G.s, .slice a2 G.keys.length a3, .slice a4 G.l.length a5, .int .i64 au1, .int .i64 au2, .float .f64 au3, .string au4, .slice au5 au6 au7, .slice au8 au9 au10, .int .i64 G.n] 29) by rw [hx5]; exact setL_all Xa4 [.int .i64 G.kind, .string G.s, .slice a2 G.keys.length a3, .slice a4 G.l.length a5, .int .i64 au1, .int .i64 au2, .float .f64 au3, .string au4, .slice au5 au6 au7, .slice au8 au9 au10, .int .i64 G.n] rfl)
          have XB5 := hid (show x5.heap[x3.heap.size]? = some (.cells #[.int .i64 0, .string ⟨#[]⟩, .slice none 0 0, .slice none 0 0, .int .i64 0, .int .i64 0, .float .f64 0, .string ⟨#[]⟩, .slice none 0 0, .slice none 0 0, .int .i64 0] 29) by rw [hx5]; exact (setL_other (Ne.symm hne) _).trans Xb4)
          have Q5 : Same (fun b => b ≠ wd.heap.size ∧ b ≠ x3.heap.size) x4 x5 := fun b o hb ho => by rw [hx5]; exact (setL_other hb.1 _).trans ho
          have RA5 := hid (Ra4.mono Q5 (fun _ h _ => h))
          have RB5 := hid (Rb4.mono Q5 (fun _ h _ => h))
          have E5 := hid (show Ext w x5 by rw [hx5]; exact setL_below (HEd.out.trans (((F1.out.trans F2.out).trans F3.out).trans F4.out)) (by have := HEd.out.size; omega) _ _)
          have NE := hid hne
          have LE := hid (show w.heap.size ≤ x3.heap.size by have := HEd.out.size; omega)
          clear hx5 Q5 Ra4 Rb4 Xa4 Xb4 hne s1 s2 s3 s4 la lb y0 y1 y2 y3 y4 y5 y6 y7 y8 y9 y10 f0 f1 f2 f3 f4 f5 f6 f7 f8 f9 f10
          obtain ⟨⟨y0, y1, y2, y3, y4, y5, y6, y7, y8, y9, y10⟩, f0, f1, f2, f3, f4, f5, f6, f7, f8, f9, f10⟩ := slot11 XB5.out
          refine hK.out _ _ ?_
          clear hK K
          (try simp only [Act.put, List.setIfInBounds_toArray, List.set_cons_zero, List.set_cons_succ])
          refine wpAnyM_ready (rs := [9]) (by kernel_rfl) (by simp) ?_
          refine AllReadyM.behind (o := { dst := none, op := Go.Op.store 29 (Go.Operand.tmp 6) (Go.Operand.tmp 15), type := 0, pos := "doors.go:154", after := #[{ on := 7, ground := Go.Ground.data }, { on := 5, ground := Go.Ground.data }, { on := 8, ground := Go.Ground.chain }, { on := 0, ground := Go.Ground.phase }, { on := 1, ground := Go.Ground.phase }, { on := 2, ground := Go.Ground.phase }, { on := 3, ground := Go.Ground.phase }, { on := 4, ground := Go.Ground.phase }, { on := 5, ground := Go.Ground.phase }, { on := 6, ground := Go.Ground.phase }, { on := 7, ground := Go.Ground.phase }, { on := 8, ground := Go.Ground.phase }], guard := none }) rfl (by kernel_rfl) (fun K hK => ?_) AllReadyM.nil
          go_simp
          obtain ⟨x6, hx6⟩ : ∃ x, x = setL x5 x3.heap.size 0 [.int .i64 G.kind, .string G.s, .slice b2 G.keys.length b3, .slice b4 G.l.length b5, .int .i64 bu1, .int .i64 bu2, .float .f64 bu3, .string bu4, .slice bu5 bu6 bu7, .slice bu8 bu9 bu10, .int .i64 G.n] := ⟨_, rfl⟩
          change K _ (setL x5 x3.heap.size 0 [.int .i64 G.kind, .string G.s, .slice b2 G.keys.length b3, .slice b4 G.l.length b5, .int .i64 bu1, .int .i64 bu2, .float .f64 bu3, .string bu4, .slice bu5 bu6 bu7, .slice bu8 bu9 bu10, .int .i64 G.n])
          rw [← hx6]
          have XB6 := hid (show x6.heap[x3.heap.size]? = some (.cells #[.int .i64 G.kind, .string G.s, .slice b2 G.keys.length b3, .slice b4 G.l.length b5, .int .i64 bu1, .int .i64 bu2, .float .f64 bu3, .string bu4, .slice bu5 bu6 bu7, .slice bu8 bu9 bu10, .int .i64 G.n] 29) by rw [hx6]; exact setL_all XB5.out [.int .i64 G.kind, .string G.s, .slice b2 G.keys.length b3, .slice b4 G.l.length b5, .int .i64 bu1, .int .i64 bu2, .float .f64 bu3, .string bu4, .slice bu5 bu6 bu7, .slice bu8 bu9 bu10, .int .i64 G.n] rfl)
          have XA6 := hid (show x6.heap[wd.heap.size]? = some (.cells #[.int .i64 G.kind, .string G.s, .slice a2 G.keys.length a3, .slice a4 G.l.length a5, .int .i64 au1, .int .i64 au2, .float .f64 au3, .string au4, .slice au5 au6 au7, .slice au8 au9 au10, .int .i64 G.n] 29) by rw [hx6]; exact (setL_other NE.out _).trans XA5.out)
          have Q6 : Same (fun b => b ≠ wd.heap.size ∧ b ≠ x3.heap.size) x5 x6 := fun b o hb ho => by rw [hx6]; exact (setL_other hb.2 _).trans ho
          have RA6 := hid (RA5.out.mono Q6 (S' := Any) (fun _ _ _ => trivial))
          have RB6 := hid (RB5.out.mono Q6 (S' := Any) (fun _ _ _ => trivial))
          have E6 := hid (show Ext w x6 by rw [hx6]; exact setL_below E5.out LE.out _ _)
          clear hx6 Q6 XA5 XB5 RA5 RB5 E5 y0 y1 y2 y3 y4 y5 y6 y7 y8 y9 y10 f0 f1 f2 f3 f4 f5 f6 f7 f8 f9 f10
          refine hK.out _ _ ?_
          clear hK K
          (try simp only [Act.put, List.setIfInBounds_toArray, List.set_cons_zero, List.set_cons_succ])
          refine wpAnyM_done (by kernel_rfl) ?_ _
          obtain ⟨⟨y0, y1, y2, y3, y4, y5, y6, y7, y8, y9, y10⟩, f0, f1, f2, f3, f4, f5, f6, f7, f8, f9, f10⟩ := slot11 XA6.out
          obtain ⟨⟨z0, z1, z2, z3, z4, z5, z6, z7, z8, z9, z10⟩, g0, g1, g2, g3, g4, g5, g6, g7, g8, g9, g10⟩ := slot11 XB6.out
          go_wp2_with (go_at_call 7; refine (sameElem_true G G rfl _ _ _ RA6.out RB6.out).mono ?_; rintro e x7 ⟨rfl, hE⟩; have E7 := hid (E6.out.trans hE); clear hE)
          go_ret
          exact ⟨rfl, E7.out⟩
        refine AllReadyM.cons (o := { dst := some 6, op := Go.Op.alloc 29, type := 0, pos := "doors.go:154", after := #[], guard := none }) rfl (fun K hK => ?_) AllReadyM.nil
        go_simp
        have Xb := hid (heap_alloc_new x2 (.cells #[.int .i64 0, .string ⟨#[]⟩, .slice none 0 0, .slice none 0 0, .int .i64 0, .int .i64 0, .float .f64 0, .string ⟨#[]⟩, .slice none 0 0, .slice none 0 0, .int .i64 0] 29))
        have F3 := hid ((Ext.refl x2).alloc (.cells #[.int .i64 0, .string ⟨#[]⟩, .slice none 0 0, .slice none 0 0, .int .i64 0, .int .i64 0, .float .f64 0, .string ⟨#[]⟩, .slice none 0 0, .slice none 0 0, .int .i64 0] 29))
        have Lb := hid (show x2.heap.size < (x2.alloc (.cells #[.int .i64 0, .string ⟨#[]⟩, .slice none 0 0, .slice none 0 0, .int .i64 0, .int .i64 0, .float .f64 0, .string ⟨#[]⟩, .slice none 0 0, .slice none 0 0, .int .i64 0] 29)).heap.size by simp)
        generalize x2.alloc (.cells #[.int .i64 0, .string ⟨#[]⟩, .slice none 0 0, .slice none 0 0, .int .i64 0, .int .i64 0, .float .f64 0, .string ⟨#[]⟩, .slice none 0 0, .slice none 0 0, .int .i64 0] 29) = x3 at *
        refine hK.out _ _ ?hS35 (fun hHeld => ?_)
        case hS35 => (obtain ⟨⟨k0, k1, k2, k3, k4, k5⟩, -⟩ := slot6 (((F1.out.trans F2.out).trans F3.out).block XD.out); exact ⟨k0, k1, k2, k3, k4, k5⟩)
        clear hK K
        (try simp only [Act.put, List.setIfInBounds_toArray, List.set_cons_zero, List.set_cons_succ])
        refine wpAnyM_ready (rs := [5]) (by kernel_rfl) (by simp) ?_
        refine AllReadyM.cons (o := { dst := some 15, op := Go.Op.call { callee := Go.Callee.value (Go.Operand.func 6), args := #[Go.Operand.tmp 13, Go.Operand.tmp 14], argTypes := #[3, 26] }, type := 29, pos := "doors.go:154", after := #[{ on := 3, ground := Go.Ground.data }, { on := 4, ground := Go.Ground.data }, { on := 2, ground := Go.Ground.chain }], guard := none }) rfl (fun K hK => ?_) AllReadyM.nil
        refine step_call _ rfl 6 [.tmp 13, .tmp 14] #[3, 26] rfl (by kernel_rfl) [_, _] rfl (HIE.out x3 (HEd.out.trans ((F1.out.trans F2.out).trans F3.out))) ?_
        rintro en x4 ⟨cs_, rfl, hT, hE⟩
        obtain ⟨b2, b3, b4, b5, bu1, bu2, bu3, bu4, bu5, bu6, bu7, bu8, bu9, bu10, rfl⟩ := hT.form8
        refine ⟨_, rfl, ?_⟩
        have HRb := hid (hT.weak (S' := fun b => x3.heap.size ≤ b ∧ b < x4.heap.size) (fun b h1 h2 => ⟨h1, h2⟩))
        have F4 := hid hE
        clear hT hE
        refine hK.out _ _ ?hS36 (fun hHeld => ?_)
        case hS36 => (obtain ⟨⟨k0, k1, k2, k3, k4, k5⟩, -⟩ := slot6 ((((F1.out.trans F2.out).trans F3.out).trans F4.out).block XD.out); exact ⟨k0, k1, k2, k3, k4, k5⟩)
        clear hK K
        (try simp only [Act.put, List.setIfInBounds_toArray, List.set_cons_zero, List.set_cons_succ])
        refine wpAnyM_ready (rs := [8]) (by kernel_rfl) (by simp) ?_
        refine AllReadyM.behind (o := { dst := none, op := Go.Op.store 29 (Go.Operand.tmp 5) (Go.Operand.tmp 12), type := 0, pos := "doors.go:154", after := #[{ on := 6, ground := Go.Ground.data }, { on := 2, ground := Go.Ground.data }, { on := 5, ground := Go.Ground.chain }, { on := 0, ground := Go.Ground.phase }, { on := 1, ground := Go.Ground.phase }, { on := 2, ground := Go.Ground.phase }, { on := 3, ground := Go.Ground.textOnly Go.Departure.lateStores }, { on := 4, ground := Go.Ground.textOnly Go.Departure.lateStores }, { on := 5, ground := Go.Ground.textOnly Go.Departure.lateStoresUnsure }, { on := 6, ground := Go.Ground.phase }, { on := 7, ground := Go.Ground.phase }], guard := none }) rfl (by kernel_rfl) (fun K hK => ?_) AllReadyM.nil
        have s1 := F1.out.size
        have s2 := F2.out.size
        have s3 := F3.out.size
        have s4 := F4.out.size
        have la := La.out
        have lb := Lb.out
        have hne : wd.heap.size ≠ x2.heap.size := by omega
        have Ra4 := (HRa.out.ext (F3.out.trans F4.out)).weak (S' := fun b => b ≠ wd.heap.size ∧ b ≠ x2.heap.size) (fun b hb _ => by obtain ⟨hb1, hb2⟩ := hb; exact ⟨by omega, by omega⟩)
        have Rb4 := (HRb.out.ext (Ext.refl x4)).weak (S' := fun b => b ≠ wd.heap.size ∧ b ≠ x2.heap.size) (fun b hb _ => by obtain ⟨hb1, hb2⟩ := hb; exact ⟨by omega, by omega⟩)
        have Xa4 := ((F2.out.trans F3.out).trans F4.out).block Xa.out
        have Xb4 := F4.out.block Xb.out
        obtain ⟨⟨y0, y1, y2, y3, y4, y5, y6, y7, y8, y9, y10⟩, f0, f1, f2, f3, f4, f5, f6, f7, f8, f9, f10⟩ := slot11 Xa4
        go_simp
        obtain ⟨x5, hx5⟩ : ∃ x, x = setL x4 wd.heap.size 0 [.int .i64 G.kind, .string G.s, .slice a2 G.keys.length a3, .slice a4 G.l.length a5, .int .i64 au1, .int .i64 au2, .float .f64 au3, .string au4, .slice au5 au6 au7, .slice au8 au9 au10, .int .i64 G.n] := ⟨_, rfl⟩
        change K _ (setL x4 wd.heap.size 0 [.int .i64 G.kind, .string G.s, .slice a2 G.keys.length a3, .slice a4 G.l.length a5, .int .i64 au1, .int .i64 au2, .float .f64 au3, .string au4, .slice au5 au6 au7, .slice au8 au9 au10, .int .i64 G.n])
        rw [← hx5]
        have XA5 := hid (show x5.heap[wd.heap.size]? = some (.cells #[.int .i64 G.kind, .string G.s, .slice a2 G.keys.length a3, .slice a4 G.l.length a5, .int .i64 au1, .int .i64 au2, .float .f64 au3, .string au4, .slice au5 au6 au7, .slice au8 au9 au10, .int .i64 G.n] 29) by rw [hx5]; exact setL_all Xa4 [.int .i64 G.kind, .string G.s, .slice a2 G.keys.length a3, .slice a4 G.l.length a5, .int .i64 au1, .int .i64 au2, .float .f64 au3, .string au4, .slice au5 au6 au7, .slice au8 au9 au10, .int .i64 G.n] rfl)
        have XB5 := hid (show x5.heap[x2.heap.size]? = some (.cells #[.int .i64 0, .string ⟨#[]⟩, .slice none 0 0, .slice none 0 0, .int .i64 0, .int .i64 0, .float .f64 0, .string ⟨#[]⟩, .slice none 0 0, .slice none 0 0, .int .i64 0] 29) by rw [hx5]; exact (setL_other (Ne.symm hne) _).trans Xb4)
        have Q5 : Same (fun b => b ≠ wd.heap.size ∧ b ≠ x2.heap.size) x4 x5 := fun b o hb ho => by rw [hx5]; exact (setL_other hb.1 _).trans ho
        have RA5 := hid (Ra4.mono Q5 (fun _ h _ => h))
        have RB5 := hid (Rb4.mono Q5 (fun _ h _ => h))
        have E5 := hid (show Ext w x5 by rw [hx5]; exact setL_below (HEd.out.trans (((F1.out.trans F2.out).trans F3.out).trans F4.out)) (by have := HEd.out.size; omega) _ _)
        have NE := hid hne
        have LE := hid (show w.heap.size ≤ x2.heap.size by have := HEd.out.size; omega)
        clear hx5 Q5 Ra4 Rb4 Xa4 Xb4 hne s1 s2 s3 s4 la lb y0 y1 y2 y3 y4 y5 y6 y7 y8 y9 y10 f0 f1 f2 f3 f4 f5 f6 f7 f8 f9 f10
        obtain ⟨⟨y0, y1, y2, y3, y4, y5, y6, y7, y8, y9, y10⟩, f0, f1, f2, f3, f4, f5, f6, f7, f8, f9, f10⟩ := slot11 XB5.out
        refine hK.out _ _ ?_
        clear hK K
        (try simp only [Act.put, List.setIfInBounds_toArray, List.set_cons_zero, List.set_cons_succ])
        refine wpAnyM_ready (rs := [9]) (by kernel_rfl) (by simp) ?_
        refine AllReadyM.behind (o := { dst := none, op := Go.Op.store 29 (Go.Operand.tmp 6) (Go.Operand.tmp 15), type := 0, pos := "doors.go:154", after := #[{ on := 7, ground := Go.Ground.data }, { on := 5, ground := Go.Ground.data }, { on := 8, ground := Go.Ground.chain }, { on := 0, ground := Go.Ground.phase }, { on := 1, ground := Go.Ground.phase }, { on := 2, ground := Go.Ground.phase }, { on := 3, ground := Go.Ground.phase }, { on := 4, ground := Go.Ground.phase }, { on := 5, ground := Go.Ground.phase }, { on := 6, ground := Go.Ground.phase }, { on := 7, ground := Go.Ground.phase }, { on := 8, ground := Go.Ground.phase }], guard := none }) rfl (by kernel_rfl) (fun K hK => ?_) AllReadyM.nil
        go_simp
        obtain ⟨x6, hx6⟩ : ∃ x, x = setL x5 x2.heap.size 0 [.int .i64 G.kind, .string G.s, .slice b2 G.keys.length b3, .slice b4 G.l.length b5, .int .i64 bu1, .int .i64 bu2, .float .f64 bu3, .string bu4, .slice bu5 bu6 bu7, .slice bu8 bu9 bu10, .int .i64 G.n] := ⟨_, rfl⟩
        change K _ (setL x5 x2.heap.size 0 [.int .i64 G.kind, .string G.s, .slice b2 G.keys.length b3, .slice b4 G.l.length b5, .int .i64 bu1, .int .i64 bu2, .float .f64 bu3, .string bu4, .slice bu5 bu6 bu7, .slice bu8 bu9 bu10, .int .i64 G.n])
        rw [← hx6]
        have XB6 := hid (show x6.heap[x2.heap.size]? = some (.cells #[.int .i64 G.kind, .string G.s, .slice b2 G.keys.length b3, .slice b4 G.l.length b5, .int .i64 bu1, .int .i64 bu2, .float .f64 bu3, .string bu4, .slice bu5 bu6 bu7, .slice bu8 bu9 bu10, .int .i64 G.n] 29) by rw [hx6]; exact setL_all XB5.out [.int .i64 G.kind, .string G.s, .slice b2 G.keys.length b3, .slice b4 G.l.length b5, .int .i64 bu1, .int .i64 bu2, .float .f64 bu3, .string bu4, .slice bu5 bu6 bu7, .slice bu8 bu9 bu10, .int .i64 G.n] rfl)
        have XA6 := hid (show x6.heap[wd.heap.size]? = some (.cells #[.int .i64 G.kind, .string G.s, .slice a2 G.keys.length a3, .slice a4 G.l.length a5, .int .i64 au1, .int .i64 au2, .float .f64 au3, .string au4, .slice au5 au6 au7, .slice au8 au9 au10, .int .i64 G.n] 29) by rw [hx6]; exact (setL_other NE.out _).trans XA5.out)
        have Q6 : Same (fun b => b ≠ wd.heap.size ∧ b ≠ x2.heap.size) x5 x6 := fun b o hb ho => by rw [hx6]; exact (setL_other hb.2 _).trans ho
        have RA6 := hid (RA5.out.mono Q6 (S' := Any) (fun _ _ _ => trivial))
        have RB6 := hid (RB5.out.mono Q6 (S' := Any) (fun _ _ _ => trivial))
        have E6 := hid (show Ext w x6 by rw [hx6]; exact setL_below E5.out LE.out _ _)
        clear hx6 Q6 XA5 XB5 RA5 RB5 E5 y0 y1 y2 y3 y4 y5 y6 y7 y8 y9 y10 f0 f1 f2 f3 f4 f5 f6 f7 f8 f9 f10
        refine hK.out _ _ ?_
        clear hK K
        (try simp only [Act.put, List.setIfInBounds_toArray, List.set_cons_zero, List.set_cons_succ])
        refine wpAnyM_done (by kernel_rfl) ?_ _
        obtain ⟨⟨y0, y1, y2, y3, y4, y5, y6, y7, y8, y9, y10⟩, f0, f1, f2, f3, f4, f5, f6, f7, f8, f9, f10⟩ := slot11 XA6.out
        obtain ⟨⟨z0, z1, z2, z3, z4, z5, z6, z7, z8, z9, z10⟩, g0, g1, g2, g3, g4, g5, g6, g7, g8, g9, g10⟩ := slot11 XB6.out
        go_wp2_with (go_at_call 7; refine (sameElem_true G G rfl _ _ _ RA6.out RB6.out).mono ?_; rintro e x7 ⟨rfl, hE⟩; have E7 := hid (E6.out.trans hE); clear hE)
        go_ret
        exact ⟨rfl, E7.out⟩
      refine AllReadyM.cons (o := { dst := some 6, op := Go.Op.alloc 29, type := 0, pos := "doors.go:154", after := #[], guard := none }) rfl (fun K hK => ?_) AllReadyM.nil
      go_simp
      have Xb := hid (heap_alloc_new x1 (.cells #[.int .i64 0, .string ⟨#[]⟩, .slice none 0 0, .slice none 0 0, .int .i64 0, .int .i64 0, .float .f64 0, .string ⟨#[]⟩, .slice none 0 0, .slice none 0 0, .int .i64 0] 29))
      have F2 := hid ((Ext.refl x1).alloc (.cells #[.int .i64 0, .string ⟨#[]⟩, .slice none 0 0, .slice none 0 0, .int .i64 0, .int .i64 0, .float .f64 0, .string ⟨#[]⟩, .slice none 0 0, .slice none 0 0, .int .i64 0] 29))
      have Lb := hid (show x1.heap.size < (x1.alloc (.cells #[.int .i64 0, .string ⟨#[]⟩, .slice none 0 0, .slice none 0 0, .int .i64 0, .int .i64 0, .float .f64 0, .string ⟨#[]⟩, .slice none 0 0, .slice none 0 0, .int .i64 0] 29)).heap.size by simp)
      generalize x1.alloc (.cells #[.int .i64 0, .string ⟨#[]⟩, .slice none 0 0, .slice none 0 0, .int .i64 0, .int .i64 0, .float .f64 0, .string ⟨#[]⟩, .slice none 0 0, .slice none 0 0, .int .i64 0] 29) = x2 at *
      refine hK.out _ _ ?hS37 (fun hHeld => ?_)
      case hS37 => (obtain ⟨⟨k0, k1, k2, k3, k4, k5⟩, -⟩ := slot6 ((F1.out.trans F2.out).block XD.out); exact ⟨k0, k1, k2, k3, k4, k5⟩)
      clear hK K
      (try simp only [Act.put, List.setIfInBounds_toArray, List.set_cons_zero, List.set_cons_succ])
      refine wpAnyM_ready (rs := [2]) (by kernel_rfl) (by simp) ?_
      refine AllReadyM.cons (o := { dst := some 12, op := Go.Op.call { callee := Go.Callee.value (Go.Operand.func 5), args := #[Go.Operand.tmp 10, Go.Operand.tmp 11], argTypes := #[3, 26] }, type := 29, pos := "doors.go:154", after := #[{ on := 0, ground := Go.Ground.data }, { on := 1, ground := Go.Ground.data }], guard := none }) rfl (fun K hK => ?_) AllReadyM.nil
      refine step_call _ rfl 5 [.tmp 10, .tmp 11] #[3, 26] rfl (by kernel_rfl) [_, _] rfl (HGE.out x2 (HEd.out.trans (F1.out.trans F2.out))) ?_
      rintro en x3 ⟨cs_, rfl, hT, hE⟩
      obtain ⟨a2, a3, a4, a5, au1, au2, au3, au4, au5, au6, au7, au8, au9, au10, rfl⟩ := hT.form8
      refine ⟨_, rfl, ?_⟩
      have HRa := hid (hT.weak (S' := fun b => x2.heap.size ≤ b ∧ b < x3.heap.size) (fun b h1 h2 => ⟨h1, h2⟩))
      have F3 := hid hE
      clear hT hE
      refine hK.out _ _ ?hS38 (fun hHeld => ?_)
      case hS38 => (obtain ⟨⟨k0, k1, k2, k3, k4, k5⟩, -⟩ := slot6 (((F1.out.trans F2.out).trans F3.out).block XD.out); exact ⟨k0, k1, k2, k3, k4, k5⟩)
      clear hK K
      (try simp only [Act.put, List.setIfInBounds_toArray, List.set_cons_zero, List.set_cons_succ])
      refine wpAnyM_ready (rs := [5]) (by kernel_rfl) (by simp) ?_
      refine AllReadyM.cons (o := { dst := some 15, op := Go.Op.call { callee := Go.Callee.value (Go.Operand.func 6), args := #[Go.Operand.tmp 13, Go.Operand.tmp 14], argTypes := #[3, 26] }, type := 29, pos := "doors.go:154", after := #[{ on := 3, ground := Go.Ground.data }, { on := 4, ground := Go.Ground.data }, { on := 2, ground := Go.Ground.chain }], guard := none }) rfl (fun K hK => ?_) AllReadyM.nil
      refine step_call _ rfl 6 [.tmp 13, .tmp 14] #[3, 26] rfl (by kernel_rfl) [_, _] rfl (HIE.out x3 (HEd.out.trans ((F1.out.trans F2.out).trans F3.out))) ?_
      rintro en x4 ⟨cs_, rfl, hT, hE⟩
      obtain ⟨b2, b3, b4, b5, bu1, bu2, bu3, bu4, bu5, bu6, bu7, bu8, bu9, bu10, rfl⟩ := hT.form8
      refine ⟨_, rfl, ?_⟩
      have HRb := hid (hT.weak (S' := fun b => x3.heap.size ≤ b ∧ b < x4.heap.size) (fun b h1 h2 => ⟨h1, h2⟩))
      have F4 := hid hE
      clear hT hE
      refine hK.out _ _ ?hS39 (fun hHeld => ?_)
      case hS39 => (obtain ⟨⟨k0, k1, k2, k3, k4, k5⟩, -⟩ := slot6 ((((F1.out.trans F2.out).trans F3.out).trans F4.out).block XD.out); exact ⟨k0, k1, k2, k3, k4, k5⟩)
      clear hK K
      (try simp only [Act.put, List.setIfInBounds_toArray, List.set_cons_zero, List.set_cons_succ])
      refine wpAnyM_ready (rs := [8]) (by kernel_rfl) (by simp) ?_
      refine AllReadyM.behind (o := { dst := none, op := Go.Op.store 29 (Go.Operand.tmp 5) (Go.Operand.tmp 12), type := 0, pos := "doors.go:154", after := #[{ on := 6, ground := Go.Ground.data }, { on := 2, ground := Go.Ground.data }, { on := 5, ground := Go.Ground.chain }, { on := 0, ground := Go.Ground.phase }, { on := 1, ground := Go.Ground.phase }, { on := 2, ground := Go.Ground.phase }, { on := 3, ground := Go.Ground.textOnly Go.Departure.lateStores }, { on := 4, ground := Go.Ground.textOnly Go.Departure.lateStores }, { on := 5, ground := Go.Ground.textOnly Go.Departure.lateStoresUnsure }, { on := 6, ground := Go.Ground.phase }, { on := 7, ground := Go.Ground.phase }], guard := none }) rfl (by kernel_rfl) (fun K hK => ?_) AllReadyM.nil
      have s1 := F1.out.size
      have s2 := F2.out.size
      have s3 := F3.out.size
      have s4 := F4.out.size
      have la := La.out
      have lb := Lb.out
      have hne : wd.heap.size ≠ x1.heap.size := by omega
      have Ra4 := (HRa.out.ext F4.out).weak (S' := fun b => b ≠ wd.heap.size ∧ b ≠ x1.heap.size) (fun b hb _ => by obtain ⟨hb1, hb2⟩ := hb; exact ⟨by omega, by omega⟩)
      have Rb4 := (HRb.out.ext (Ext.refl x4)).weak (S' := fun b => b ≠ wd.heap.size ∧ b ≠ x1.heap.size) (fun b hb _ => by obtain ⟨hb1, hb2⟩ := hb; exact ⟨by omega, by omega⟩)
      have Xa4 := ((F2.out.trans F3.out).trans F4.out).block Xa.out
      have Xb4 := (F3.out.trans F4.out).block Xb.out
      obtain ⟨⟨y0, y1, y2, y3, y4, y5, y6, y7, y8, y9, y10⟩, f0, f1, f2, f3, f4, f5, f6, f7, f8, f9, f10⟩ := slot11 Xa4
      go_simp
      obtain ⟨x5, hx5⟩ : ∃ x, x = setL x4 wd.heap.size 0 [.int .i64 G.kind, .string G.s, .slice a2 G.keys.length a3, .slice a4 G.l.length a5, .int .i64 au1, .int .i64 au2, .float .f64 au3, .string au4, .slice au5 au6 au7, .slice au8 au9 au10, .int .i64 G.n] := ⟨_, rfl⟩
      change K _ (setL x4 wd.heap.size 0 [.int .i64 G.kind, .string G.s, .slice a2 G.keys.length a3, .slice a4 G.l.length a5, .int .i64 au1, .int .i64 au2, .float .f64 au3, .string au4, .slice au5 au6 au7, .slice au8 au9 au10, .int .i64 G.n])
      rw [← hx5]
      have XA5 := hid (show x5.heap[wd.heap.size]? = some (.cells #[.int .i64 G.kind, .string G.s, .slice a2 G.keys.length a3, .slice a4 G.l.length a5, .int .i64 au1, .int .i64 au2, .float .f64 au3, .string au4, .slice au5 au6 au7, .slice au8 au9 au10, .int .i64 G.n] 29) by rw [hx5]; exact setL_all Xa4 [.int .i64 G.kind, .string G.s, .slice a2 G.keys.length a3, .slice a4 G.l.length a5, .int .i64 au1, .int .i64 au2, .float .f64 au3, .string au4, .slice au5 au6 au7, .slice au8 au9 au10, .int .i64 G.n] rfl)
      have XB5 := hid (show x5.heap[x1.heap.size]? = some (.cells #[.int .i64 0, .string ⟨#[]⟩, .slice none 0 0, .slice none 0 0, .int .i64 0, .int .i64 0, .float .f64 0, .string ⟨#[]⟩, .slice none 0 0, .slice none 0 0, .int .i64 0] 29) by rw [hx5]; exact (setL_other (Ne.symm hne) _).trans Xb4)
      have Q5 : Same (fun b => b ≠ wd.heap.size ∧ b ≠ x1.heap.size) x4 x5 := fun b o hb ho => by rw [hx5]; exact (setL_other hb.1 _).trans ho
      have RA5 := hid (Ra4.mono Q5 (fun _ h _ => h))
      have RB5 := hid (Rb4.mono Q5 (fun _ h _ => h))
      have E5 := hid (show Ext w x5 by rw [hx5]; exact setL_below (HEd.out.trans (((F1.out.trans F2.out).trans F3.out).trans F4.out)) (by have := HEd.out.size; omega) _ _)
      have NE := hid hne
      have LE := hid (show w.heap.size ≤ x1.heap.size by have := HEd.out.size; omega)
      clear hx5 Q5 Ra4 Rb4 Xa4 Xb4 hne s1 s2 s3 s4 la lb y0 y1 y2 y3 y4 y5 y6 y7 y8 y9 y10 f0 f1 f2 f3 f4 f5 f6 f7 f8 f9 f10
      obtain ⟨⟨y0, y1, y2, y3, y4, y5, y6, y7, y8, y9, y10⟩, f0, f1, f2, f3, f4, f5, f6, f7, f8, f9, f10⟩ := slot11 XB5.out
      refine hK.out _ _ ?_
      clear hK K
      (try simp only [Act.put, List.setIfInBounds_toArray, List.set_cons_zero, List.set_cons_succ])
      refine wpAnyM_ready (rs := [9]) (by kernel_rfl) (by simp) ?_
      refine AllReadyM.behind (o := { dst := none, op := Go.Op.store 29 (Go.Operand.tmp 6) (Go.Operand.tmp 15), type := 0, pos := "doors.go:154", after := #[{ on := 7, ground := Go.Ground.data }, { on := 5, ground := Go.Ground.data }, { on := 8, ground := Go.Ground.chain }, { on := 0, ground := Go.Ground.phase }, { on := 1, ground := Go.Ground.phase }, { on := 2, ground := Go.Ground.phase }, { on := 3, ground := Go.Ground.phase }, { on := 4, ground := Go.Ground.phase }, { on := 5, ground := Go.Ground.phase }, { on := 6, ground := Go.Ground.phase }, { on := 7, ground := Go.Ground.phase }, { on := 8, ground := Go.Ground.phase }], guard := none }) rfl (by kernel_rfl) (fun K hK => ?_) AllReadyM.nil
      go_simp
      obtain ⟨x6, hx6⟩ : ∃ x, x = setL x5 x1.heap.size 0 [.int .i64 G.kind, .string G.s, .slice b2 G.keys.length b3, .slice b4 G.l.length b5, .int .i64 bu1, .int .i64 bu2, .float .f64 bu3, .string bu4, .slice bu5 bu6 bu7, .slice bu8 bu9 bu10, .int .i64 G.n] := ⟨_, rfl⟩
      change K _ (setL x5 x1.heap.size 0 [.int .i64 G.kind, .string G.s, .slice b2 G.keys.length b3, .slice b4 G.l.length b5, .int .i64 bu1, .int .i64 bu2, .float .f64 bu3, .string bu4, .slice bu5 bu6 bu7, .slice bu8 bu9 bu10, .int .i64 G.n])
      rw [← hx6]
      have XB6 := hid (show x6.heap[x1.heap.size]? = some (.cells #[.int .i64 G.kind, .string G.s, .slice b2 G.keys.length b3, .slice b4 G.l.length b5, .int .i64 bu1, .int .i64 bu2, .float .f64 bu3, .string bu4, .slice bu5 bu6 bu7, .slice bu8 bu9 bu10, .int .i64 G.n] 29) by rw [hx6]; exact setL_all XB5.out [.int .i64 G.kind, .string G.s, .slice b2 G.keys.length b3, .slice b4 G.l.length b5, .int .i64 bu1, .int .i64 bu2, .float .f64 bu3, .string bu4, .slice bu5 bu6 bu7, .slice bu8 bu9 bu10, .int .i64 G.n] rfl)
      have XA6 := hid (show x6.heap[wd.heap.size]? = some (.cells #[.int .i64 G.kind, .string G.s, .slice a2 G.keys.length a3, .slice a4 G.l.length a5, .int .i64 au1, .int .i64 au2, .float .f64 au3, .string au4, .slice au5 au6 au7, .slice au8 au9 au10, .int .i64 G.n] 29) by rw [hx6]; exact (setL_other NE.out _).trans XA5.out)
      have Q6 : Same (fun b => b ≠ wd.heap.size ∧ b ≠ x1.heap.size) x5 x6 := fun b o hb ho => by rw [hx6]; exact (setL_other hb.2 _).trans ho
      have RA6 := hid (RA5.out.mono Q6 (S' := Any) (fun _ _ _ => trivial))
      have RB6 := hid (RB5.out.mono Q6 (S' := Any) (fun _ _ _ => trivial))
      have E6 := hid (show Ext w x6 by rw [hx6]; exact setL_below E5.out LE.out _ _)
      clear hx6 Q6 XA5 XB5 RA5 RB5 E5 y0 y1 y2 y3 y4 y5 y6 y7 y8 y9 y10 f0 f1 f2 f3 f4 f5 f6 f7 f8 f9 f10
      refine hK.out _ _ ?_
      clear hK K
      (try simp only [Act.put, List.setIfInBounds_toArray, List.set_cons_zero, List.set_cons_succ])
      refine wpAnyM_done (by kernel_rfl) ?_ _
      obtain ⟨⟨y0, y1, y2, y3, y4, y5, y6, y7, y8, y9, y10⟩, f0, f1, f2, f3, f4, f5, f6, f7, f8, f9, f10⟩ := slot11 XA6.out
      obtain ⟨⟨z0, z1, z2, z3, z4, z5, z6, z7, z8, z9, z10⟩, g0, g1, g2, g3, g4, g5, g6, g7, g8, g9, g10⟩ := slot11 XB6.out
      go_wp2_with (go_at_call 7; refine (sameElem_true G G rfl _ _ _ RA6.out RB6.out).mono ?_; rintro e x7 ⟨rfl, hE⟩; have E7 := hid (E6.out.trans hE); clear hE)
      go_ret
      exact ⟨rfl, E7.out⟩
    refine AllReadyM.cons (o := { dst := some 6, op := Go.Op.alloc 29, type := 0, pos := "doors.go:154", after := #[], guard := none }) rfl (fun K hK => ?_) AllReadyM.nil
    go_simp
    have Xb := hid (heap_alloc_new wd (.cells #[.int .i64 0, .string ⟨#[]⟩, .slice none 0 0, .slice none 0 0, .int .i64 0, .int .i64 0, .float .f64 0, .string ⟨#[]⟩, .slice none 0 0, .slice none 0 0, .int .i64 0] 29))
    have F1 := hid ((Ext.refl wd).alloc (.cells #[.int .i64 0, .string ⟨#[]⟩, .slice none 0 0, .slice none 0 0, .int .i64 0, .int .i64 0, .float .f64 0, .string ⟨#[]⟩, .slice none 0 0, .slice none 0 0, .int .i64 0] 29))
    have Lb := hid (show wd.heap.size < (wd.alloc (.cells #[.int .i64 0, .string ⟨#[]⟩, .slice none 0 0, .slice none 0 0, .int .i64 0, .int .i64 0, .float .f64 0, .string ⟨#[]⟩, .slice none 0 0, .slice none 0 0, .int .i64 0] 29)).heap.size by simp)
    generalize wd.alloc (.cells #[.int .i64 0, .string ⟨#[]⟩, .slice none 0 0, .slice none 0 0, .int .i64 0, .int .i64 0, .float .f64 0, .string ⟨#[]⟩, .slice none 0 0, .slice none 0 0, .int .i64 0] 29) = x1 at *
    refine hK.out _ _ ?hS40 (fun hHeld => ?_)
    case hS40 => (obtain ⟨⟨k0, k1, k2, k3, k4, k5⟩, -⟩ := slot6 (F1.out.block XD.out); exact ⟨k0, k1, k2, k3, k4, k5⟩)
    clear hK K
    (try simp only [Act.put, List.setIfInBounds_toArray, List.set_cons_zero, List.set_cons_succ])
    refine wpAnyM_ready (rs := [2, 6]) (by kernel_rfl) (by simp) ?_
    refine AllReadyM.cons (o := { dst := some 12, op := Go.Op.call { callee := Go.Callee.value (Go.Operand.func 5), args := #[Go.Operand.tmp 10, Go.Operand.tmp 11], argTypes := #[3, 26] }, type := 29, pos := "doors.go:154", after := #[{ on := 0, ground := Go.Ground.data }, { on := 1, ground := Go.Ground.data }], guard := none }) rfl (fun K hK => ?_) ?more41
    · have tkn : True := trivial
      refine step_call _ rfl 5 [.tmp 10, .tmp 11] #[3, 26] rfl (by kernel_rfl) [_, _] rfl (HGE.out x1 (HEd.out.trans F1.out)) ?_
      rintro en x2 ⟨cs_, rfl, hT, hE⟩
      obtain ⟨a2, a3, a4, a5, au1, au2, au3, au4, au5, au6, au7, au8, au9, au10, rfl⟩ := hT.form8
      refine ⟨_, rfl, ?_⟩
      have HRa := hid (hT.weak (S' := fun b => x1.heap.size ≤ b ∧ b < x2.heap.size) (fun b h1 h2 => ⟨h1, h2⟩))
      have F2 := hid hE
      clear hT hE
      refine hK.out _ _ ?hS42 (fun hHeld => ?_)
      case hS42 => (obtain ⟨⟨k0, k1, k2, k3, k4, k5⟩, -⟩ := slot6 ((F1.out.trans F2.out).block XD.out); exact ⟨k0, k1, k2, k3, k4, k5⟩)
      clear hK K
      (try simp only [Act.put, List.setIfInBounds_toArray, List.set_cons_zero, List.set_cons_succ])
      refine wpAnyM_ready (rs := [5, 6]) (by kernel_rfl) (by simp) ?_
      refine AllReadyM.cons (o := { dst := some 15, op := Go.Op.call { callee := Go.Callee.value (Go.Operand.func 6), args := #[Go.Operand.tmp 13, Go.Operand.tmp 14], argTypes := #[3, 26] }, type := 29, pos := "doors.go:154", after := #[{ on := 3, ground := Go.Ground.data }, { on := 4, ground := Go.Ground.data }, { on := 2, ground := Go.Ground.chain }], guard := none }) rfl (fun K hK => ?_) ?more43
      · have tkn : True := trivial
        refine step_call _ rfl 6 [.tmp 13, .tmp 14] #[3, 26] rfl (by kernel_rfl) [_, _] rfl (HIE.out x2 (HEd.out.trans (F1.out.trans F2.out))) ?_
        rintro en x3 ⟨cs_, rfl, hT, hE⟩
        obtain ⟨b2, b3, b4, b5, bu1, bu2, bu3, bu4, bu5, bu6, bu7, bu8, bu9, bu10, rfl⟩ := hT.form8
        refine ⟨_, rfl, ?_⟩
        have HRb := hid (hT.weak (S' := fun b => x2.heap.size ≤ b ∧ b < x3.heap.size) (fun b h1 h2 => ⟨h1, h2⟩))
        have F3 := hid hE
        clear hT hE
        refine hK.out _ _ ?hS44 (fun hHeld => ?_)
        case hS44 => (obtain ⟨⟨k0, k1, k2, k3, k4, k5⟩, -⟩ := slot6 (((F1.out.trans F2.out).trans F3.out).block XD.out); exact ⟨k0, k1, k2, k3, k4, k5⟩)
        clear hK K
        (try simp only [Act.put, List.setIfInBounds_toArray, List.set_cons_zero, List.set_cons_succ])
        refine wpAnyM_ready (rs := [6]) (by kernel_rfl) (by simp) ?_
        refine AllReadyM.cons (o := { dst := some 5, op := Go.Op.alloc 29, type := 0, pos := "doors.go:154", after := #[], guard := none }) rfl (fun K hK => ?_) AllReadyM.nil
        go_simp
        have Xa := hid (heap_alloc_new x3 (.cells #[.int .i64 0, .string ⟨#[]⟩, .slice none 0 0, .slice none 0 0, .int .i64 0, .int .i64 0, .float .f64 0, .string ⟨#[]⟩, .slice none 0 0, .slice none 0 0, .int .i64 0] 29))
        have F4 := hid ((Ext.refl x3).alloc (.cells #[.int .i64 0, .string ⟨#[]⟩, .slice none 0 0, .slice none 0 0, .int .i64 0, .int .i64 0, .float .f64 0, .string ⟨#[]⟩, .slice none 0 0, .slice none 0 0, .int .i64 0] 29))
        have La := hid (show x3.heap.size < (x3.alloc (.cells #[.int .i64 0, .string ⟨#[]⟩, .slice none 0 0, .slice none 0 0, .int .i64 0, .int .i64 0, .float .f64 0, .string ⟨#[]⟩, .slice none 0 0, .slice none 0 0, .int .i64 0] 29)).heap.size by simp)
        generalize x3.alloc (.cells #[.int .i64 0, .string ⟨#[]⟩, .slice none 0 0, .slice none 0 0, .int .i64 0, .int .i64 0, .float .f64 0, .string ⟨#[]⟩, .slice none 0 0, .slice none 0 0, .int .i64 0] 29) = x4 at *
        refine hK.out _ _ ?hS45 (fun hHeld => ?_)
        case hS45 => (obtain ⟨⟨k0, k1, k2, k3, k4, k5⟩, -⟩ := slot6 ((((F1.out.trans F2.out).trans F3.out).trans F4.out).block XD.out); exact ⟨k0, k1, k2, k3, k4, k5⟩)
        clear hK K
        (try simp only [Act.put, List.setIfInBounds_toArray, List.set_cons_zero, List.set_cons_succ])
        refine wpAnyM_ready (rs := [8]) (by kernel_rfl) (by simp) ?_
        refine AllReadyM.behind (o := { dst := none, op := Go.Op.store 29 (Go.Operand.tmp 5) (Go.Operand.tmp 12), type := 0, pos := "doors.go:154", after := #[{ on := 6, ground := Go.Ground.data }, { on := 2, ground := Go.Ground.data }, { on := 5, ground := Go.Ground.chain }, { on := 0, ground := Go.Ground.phase }, { on := 1, ground := Go.Ground.phase }, { on := 2, ground := Go.Ground.phase }, { on := 3, ground := Go.Ground.textOnly Go.Departure.lateStores }, { on := 4, ground := Go.Ground.textOnly Go.Departure.lateStores }, { on := 5, ground := Go.Ground.textOnly Go.Departure.lateStoresUnsure }, { on := 6, ground := Go.Ground.phase }, { on := 7, ground := Go.Ground.phase }], guard := none }) rfl (by kernel_rfl) (fun K hK => ?_) AllReadyM.nil
        have s1 := F1.out.size
        have s2 := F2.out.size
        have s3 := F3.out.size
        have s4 := F4.out.size
        have la := La.out
        have lb := Lb.out
        have hne : x3.heap.size ≠ wd.heap.size := by omega
        have Ra4 := (HRa.out.ext (F3.out.trans F4.out)).weak (S' := fun b => b ≠ x3.heap.size ∧ b ≠ wd.heap.size) (fun b hb _ => by obtain ⟨hb1, hb2⟩ := hb; exact ⟨by omega, by omega⟩)
        have Rb4 := (HRb.out.ext F4.out).weak (S' := fun b => b ≠ x3.heap.size ∧ b ≠ wd.heap.size) (fun b hb _ => by obtain ⟨hb1, hb2⟩ := hb; exact ⟨by omega, by omega⟩)
        have Xa4 := (Ext.refl x4).block Xa.out
        have Xb4 := ((F2.out.trans F3.out).trans F4.out).block Xb.out
        obtain ⟨⟨y0, y1, y2, y3, y4, y5, y6, y7, y8, y9, y10⟩, f0, f1, f2, f3, f4, f5, f6, f7, f8, f9, f10⟩ := slot11 Xa4
        go_simp
        obtain ⟨x5, hx5⟩ : ∃ x, x = setL x4 x3.heap.size 0 [.int .i64 G.kind, .string G.s, .slice a2 G.keys.length a3, .slice a4 G.l.length a5, .int .i64 au1, .int .i64 au2, .float .f64 au3, .string au4, .slice au5 au6 au7, .slice au8 au9 au10, .int .i64 G.n] := ⟨_, rfl⟩
        change K _ (setL x4 x3.heap.size 0 [.int .i64 G.kind, .string G.s, .slice a2 G.keys.length a3, .slice a4 G.l.length a5, .int .i64 au1, .int .i64 au2, .float .f64 au3, .string au4, .slice au5 au6 au7, .slice au8 au9 au10, .int .i64 G.n])
        rw [← hx5]
        have XA5 := hid (show x5.heap[x3.heap.size]? = some (.cells #[.int .i64 G.kind, .string G.s, .slice a2 G.keys.length a3, .slice a4 G.l.length a5, .int .i64 au1, .int .i64 au2, .float .f64 au3, .string au4, .slice au5 au6 au7, .slice au8 au9 au10, .int .i64 G.n] 29) by rw [hx5]; exact setL_all Xa4 [.int .i64 G.kind, .string G.s, .slice a2 G.keys.length a3, .slice a4 G.l.length a5, .int .i64 au1, .int .i64 au2, .float .f64 au3, .string au4, .slice au5 au6 au7, .slice au8 au9 au10, .int .i64 G.n] rfl)
        have XB5 := hid (show x5.heap[wd.heap.size]? = some (.cells #[.int .i64 0, .string ⟨#[]⟩, .slice none 0 0, .slice none 0 0, .int .i64 0, .int .i64 0, .float .f64 0, .string ⟨#[]⟩, .slice none 0 0, .slice none 0 0, .int .i64 0] 29) by rw [hx5]; exact (setL_other (Ne.symm hne) _).trans Xb4)
        have Q5 : Same (fun b => b ≠ x3.heap.size ∧ b ≠ wd.heap.size) x4 x5 := fun b o hb ho => by rw [hx5]; exact (setL_other hb.1 _).trans ho
        have RA5 := hid (Ra4.mono Q5 (fun _ h _ => h))
        have RB5 := hid (Rb4.mono Q5 (fun _ h _ => h))
        have E5 := hid (show Ext w x5 by rw [hx5]; exact setL_below (HEd.out.trans (((F1.out.trans F2.out).trans F3.out).trans F4.out)) (by have := HEd.out.size; omega) _ _)
        have NE := hid hne
        have LE := hid (show w.heap.size ≤ wd.heap.size by have := HEd.out.size; omega)
        clear hx5 Q5 Ra4 Rb4 Xa4 Xb4 hne s1 s2 s3 s4 la lb y0 y1 y2 y3 y4 y5 y6 y7 y8 y9 y10 f0 f1 f2 f3 f4 f5 f6 f7 f8 f9 f10
        obtain ⟨⟨y0, y1, y2, y3, y4, y5, y6, y7, y8, y9, y10⟩, f0, f1, f2, f3, f4, f5, f6, f7, f8, f9, f10⟩ := slot11 XB5.out
        refine hK.out _ _ ?_
        clear hK K
        (try simp only [Act.put, List.setIfInBounds_toArray, List.set_cons_zero, List.set_cons_succ])
        refine wpAnyM_ready (rs := [9]) (by kernel_rfl) (by simp) ?_
        refine AllReadyM.behind (o := { dst := none, op := Go.Op.store 29 (Go.Operand.tmp 6) (Go.Operand.tmp 15), type := 0, pos := "doors.go:154", after := #[{ on := 7, ground := Go.Ground.data }, { on := 5, ground := Go.Ground.data }, { on := 8, ground := Go.Ground.chain }, { on := 0, ground := Go.Ground.phase }, { on := 1, ground := Go.Ground.phase }, { on := 2, ground := Go.Ground.phase }, { on := 3, ground := Go.Ground.phase }, { on := 4, ground := Go.Ground.phase }, { on := 5, ground := Go.Ground.phase }, { on := 6, ground := Go.Ground.phase }, { on := 7, ground := Go.Ground.phase }, { on := 8, ground := Go.Ground.phase }], guard := none }) rfl (by kernel_rfl) (fun K hK => ?_) AllReadyM.nil
        go_simp
        obtain ⟨x6, hx6⟩ : ∃ x, x = setL x5 wd.heap.size 0 [.int .i64 G.kind, .string G.s, .slice b2 G.keys.length b3, .slice b4 G.l.length b5, .int .i64 bu1, .int .i64 bu2, .float .f64 bu3, .string bu4, .slice bu5 bu6 bu7, .slice bu8 bu9 bu10, .int .i64 G.n] := ⟨_, rfl⟩
        change K _ (setL x5 wd.heap.size 0 [.int .i64 G.kind, .string G.s, .slice b2 G.keys.length b3, .slice b4 G.l.length b5, .int .i64 bu1, .int .i64 bu2, .float .f64 bu3, .string bu4, .slice bu5 bu6 bu7, .slice bu8 bu9 bu10, .int .i64 G.n])
        rw [← hx6]
        have XB6 := hid (show x6.heap[wd.heap.size]? = some (.cells #[.int .i64 G.kind, .string G.s, .slice b2 G.keys.length b3, .slice b4 G.l.length b5, .int .i64 bu1, .int .i64 bu2, .float .f64 bu3, .string bu4, .slice bu5 bu6 bu7, .slice bu8 bu9 bu10, .int .i64 G.n] 29) by rw [hx6]; exact setL_all XB5.out [.int .i64 G.kind, .string G.s, .slice b2 G.keys.length b3, .slice b4 G.l.length b5, .int .i64 bu1, .int .i64 bu2, .float .f64 bu3, .string bu4, .slice bu5 bu6 bu7, .slice bu8 bu9 bu10, .int .i64 G.n] rfl)
        have XA6 := hid (show x6.heap[x3.heap.size]? = some (.cells #[.int .i64 G.kind, .string G.s, .slice a2 G.keys.length a3, .slice a4 G.l.length a5, .int .i64 au1, .int .i64 au2, .float .f64 au3, .string au4, .slice au5 au6 au7, .slice au8 au9 au10, .int .i64 G.n] 29) by rw [hx6]; exact (setL_other NE.out _).trans XA5.out)
        have Q6 : Same (fun b => b ≠ x3.heap.size ∧ b ≠ wd.heap.size) x5 x6 := fun b o hb ho => by rw [hx6]; exact (setL_other hb.2 _).trans ho
        have RA6 := hid (RA5.out.mono Q6 (S' := Any) (fun _ _ _ => trivial))
        have RB6 := hid (RB5.out.mono Q6 (S' := Any) (fun _ _ _ => trivial))
        have E6 := hid (show Ext w x6 by rw [hx6]; exact setL_below E5.out LE.out _ _)
        clear hx6 Q6 XA5 XB5 RA5 RB5 E5 y0 y1 y2 y3 y4 y5 y6 y7 y8 y9 y10 f0 f1 f2 f3 f4 f5 f6 f7 f8 f9 f10
        refine hK.out _ _ ?_
        clear hK K
        (try simp only [Act.put, List.setIfInBounds_toArray, List.set_cons_zero, List.set_cons_succ])
        refine wpAnyM_done (by kernel_rfl) ?_ _
        obtain ⟨⟨y0, y1, y2, y3, y4, y5, y6, y7, y8, y9, y10⟩, f0, f1, f2, f3, f4, f5, f6, f7, f8, f9, f10⟩ := slot11 XA6.out
        obtain ⟨⟨z0, z1, z2, z3, z4, z5, z6, z7, z8, z9, z10⟩, g0, g1, g2, g3, g4, g5, g6, g7, g8, g9, g10⟩ := slot11 XB6.out
        go_wp2_with (go_at_call 7; refine (sameElem_true G G rfl _ _ _ RA6.out RB6.out).mono ?_; rintro e x7 ⟨rfl, hE⟩; have E7 := hid (E6.out.trans hE); clear hE)
        go_ret
        exact ⟨rfl, E7.out⟩
      refine AllReadyM.cons (o := { dst := some 5, op := Go.Op.alloc 29, type := 0, pos := "doors.go:154", after := #[], guard := none }) rfl (fun K hK => ?_) AllReadyM.nil
      go_simp
      have Xa := hid (heap_alloc_new x2 (.cells #[.int .i64 0, .string ⟨#[]⟩, .slice none 0 0, .slice none 0 0, .int .i64 0, .int .i64 0, .float .f64 0, .string ⟨#[]⟩, .slice none 0 0, .slice none 0 0, .int .i64 0] 29))
      have F3 := hid ((Ext.refl x2).alloc (.cells #[.int .i64 0, .string ⟨#[]⟩, .slice none 0 0, .slice none 0 0, .int .i64 0, .int .i64 0, .float .f64 0, .string ⟨#[]⟩, .slice none 0 0, .slice none 0 0, .int .i64 0] 29))
      have La := hid (show x2.heap.size < (x2.alloc (.cells #[.int .i64 0, .string ⟨#[]⟩, .slice none 0 0, .slice none 0 0, .int .i64 0, .int .i64 0, .float .f64 0, .string ⟨#[]⟩, .slice none 0 0, .slice none 0 0, .int .i64 0] 29)).heap.size by simp)
      generalize x2.alloc (.cells #[.int .i64 0, .string ⟨#[]⟩, .slice none 0 0, .slice none 0 0, .int .i64 0, .int .i64 0, .float .f64 0, .string ⟨#[]⟩, .slice none 0 0, .slice none 0 0, .int .i64 0] 29) = x3 at *
      refine hK.out _ _ ?hS46 (fun hHeld => ?_)
      case hS46 => (obtain ⟨⟨k0, k1, k2, k3, k4, k5⟩, -⟩ := slot6 (((F1.out.trans F2.out).trans F3.out).block XD.out); exact ⟨k0, k1, k2, k3, k4, k5⟩)
      clear hK K
      (try simp only [Act.put, List.setIfInBounds_toArray, List.set_cons_zero, List.set_cons_succ])
      refine wpAnyM_ready (rs := [5]) (by kernel_rfl) (by simp) ?_
      refine AllReadyM.cons (o := { dst := some 15, op := Go.Op.call { callee := Go.Callee.value (Go.Operand.func 6), args := #[Go.Operand.tmp 13, Go.Operand.tmp 14], argTypes := #[3, 26] }, type := 29, pos := "doors.go:154", after := #[{ on := 3, ground := Go.Ground.data }, { on := 4, ground := Go.Ground.data }, { on := 2, ground := Go.Ground.chain }], guard := none }) rfl (fun K hK => ?_) AllReadyM.nil
      refine step_call _ rfl 6 [.tmp 13, .tmp 14] #[3, 26] rfl (by kernel_rfl) [_, _] rfl (HIE.out x3 (HEd.out.trans ((F1.out.trans F2.out).trans F3.out))) ?_
      rintro en x4 ⟨cs_, rfl, hT, hE⟩
      obtain ⟨b2, b3, b4, b5, bu1, bu2, bu3, bu4, bu5, bu6, bu7, bu8, bu9, bu10, rfl⟩ := hT.form8
      refine ⟨_, rfl, ?_⟩
      have HRb := hid (hT.weak (S' := fun b => x3.heap.size ≤ b ∧ b < x4.heap.size) (fun b h1 h2 => ⟨h1, h2⟩))
      have F4 := hid hE
      clear hT hE
      refine hK.out _ _ ?hS47 (fun hHeld => ?_)
      case hS47 => (obtain ⟨⟨k0, k1, k2, k3, k4, k5⟩, -⟩ := slot6 ((((F1.out.trans F2.out).trans F3.out).trans F4.out).block XD.out); exact ⟨k0, k1, k2, k3, k4, k5⟩)
      clear hK K
      (try simp only [Act.put, List.setIfInBounds_toArray, List.set_cons_zero, List.set_cons_succ])
      refine wpAnyM_ready (rs := [8]) (by kernel_rfl) (by simp) ?_
      refine AllReadyM.behind (o := { dst := none, op := Go.Op.store 29 (Go.Operand.tmp 5) (Go.Operand.tmp 12), type := 0, pos := "doors.go:154", after := #[{ on := 6, ground := Go.Ground.data }, { on := 2, ground := Go.Ground.data }, { on := 5, ground := Go.Ground.chain }, { on := 0, ground := Go.Ground.phase }, { on := 1, ground := Go.Ground.phase }, { on := 2, ground := Go.Ground.phase }, { on := 3, ground := Go.Ground.textOnly Go.Departure.lateStores }, { on := 4, ground := Go.Ground.textOnly Go.Departure.lateStores }, { on := 5, ground := Go.Ground.textOnly Go.Departure.lateStoresUnsure }, { on := 6, ground := Go.Ground.phase }, { on := 7, ground := Go.Ground.phase }], guard := none }) rfl (by kernel_rfl) (fun K hK => ?_) AllReadyM.nil
      have s1 := F1.out.size
      have s2 := F2.out.size
      have s3 := F3.out.size
      have s4 := F4.out.size
      have la := La.out
      have lb := Lb.out
      have hne : x2.heap.size ≠ wd.heap.size := by omega
      have Ra4 := (HRa.out.ext (F3.out.trans F4.out)).weak (S' := fun b => b ≠ x2.heap.size ∧ b ≠ wd.heap.size) (fun b hb _ => by obtain ⟨hb1, hb2⟩ := hb; exact ⟨by omega, by omega⟩)
      have Rb4 := (HRb.out.ext (Ext.refl x4)).weak (S' := fun b => b ≠ x2.heap.size ∧ b ≠ wd.heap.size) (fun b hb _ => by obtain ⟨hb1, hb2⟩ := hb; exact ⟨by omega, by omega⟩)
      have Xa4 := F4.out.block Xa.out
      have Xb4 := ((F2.out.trans F3.out).trans F4.out).block Xb.out
      obtain ⟨⟨y0, y1, y2, y3, y4, y5, y6, y7, y8, y9, y10⟩, f0, f1, f2, f3, f4, f5, f6, f7, f8, f9, f10⟩ := slot11 Xa4
      go_simp
      obtain ⟨x5, hx5⟩ : ∃ x, x = setL x4 x2.heap.size 0 [.int .i64 G.kind, .string G.s, .slice a2 G.keys.length a3, .slice a4 G.l.length a5, .int .i64 au1, .int .i64 au2, .float .f64 au3, .string au4, .slice au5 au6 au7, .slice au8 au9 au10, .int .i64 G.n] := ⟨_, rfl⟩
      change K _ (setL x4 x2.heap.size 0 [.int .i64 G.kind, .string G.s, .slice a2 G.keys.length a3, .slice a4 G.l.length a5, .int .i64 au1, .int .i64 au2, .float .f64 au3, .string au4, .slice au5 au6 au7, .slice au8 au9 au10, .int .i64 G.n])
      rw [← hx5]
      have XA5 := hid (show x5.heap[x2.heap.size]? = some (.cells #[.int .i64 G.kind, .string G.s, .slice a2 G.keys.length a3, .slice a4 G.l.length a5, .int .i64 au1, .int .i64 au2, .float .f64 au3, .string au4, .slice au5 au6 au7, .slice au8 au9 au10, .int .i64 G.n] 29) by rw [hx5]; exact setL_all Xa4 [.int .i64 G.kind, .string G.s, .slice a2 G.keys.length a3, .slice a4 G.l.length a5, .int .i64 au1, .int .i64 au2, .float .f64 au3, .string au4, .slice au5 au6 au7, .slice au8 au9 au10, .int .i64 G.n] rfl)
      have XB5 := hid (show x5.heap[wd.heap.size]? = some (.cells #[.int .i64 0, .string ⟨#[]⟩, .slice none 0 0, .slice none 0 0, .int .i64 0, .int .i64 0, .float .f64 0, .string ⟨#[]⟩, .slice none 0 0, .slice none 0 0, .int .i64 0] 29) by rw [hx5]; exact (setL_other (Ne.symm hne) _).trans Xb4)
      have Q5 : Same (fun b => b ≠ x2.heap.size ∧ b ≠ wd.heap.size) x4 x5 := fun b o hb ho => by rw [hx5]; exact (setL_other hb.1 _).trans ho
      have RA5 := hid (Ra4.mono Q5 (fun _ h _ => h))
      have RB5 := hid (Rb4.mono Q5 (fun _ h _ => h))
      have E5 := hid (show Ext w x5 by rw [hx5]; exact setL_below (HEd.out.trans (((F1.out.trans F2.out).trans F3.out).trans F4.out)) (by have := HEd.out.size; omega) _ _)
      have NE := hid hne
      have LE := hid (show w.heap.size ≤ wd.heap.size by have := HEd.out.size; omega)
      clear hx5 Q5 Ra4 Rb4 Xa4 Xb4 hne s1 s2 s3 s4 la lb y0 y1 y2 y3 y4 y5 y6 y7 y8 y9 y10 f0 f1 f2 f3 f4 f5 f6 f7 f8 f9 f10
      obtain ⟨⟨y0, y1, y2, y3, y4, y5, y6, y7, y8, y9, y10⟩, f0, f1, f2, f3, f4, f5, f6, f7, f8, f9, f10⟩ := slot11 XB5.out
      refine hK.out _ _ ?_
      clear hK K
      (try simp only [Act.put, List.setIfInBounds_toArray, List.set_cons_zero, List.set_cons_succ])
      refine wpAnyM_ready (rs := [9]) (by kernel_rfl) (by simp) ?_
      refine AllReadyM.behind (o := { dst := none, op := Go.Op.store 29 (Go.Operand.tmp 6) (Go.Operand.tmp 15), type := 0, pos := "doors.go:154", after := #[{ on := 7, ground := Go.Ground.data }, { on := 5, ground := Go.Ground.data }, { on := 8, ground := Go.Ground.chain }, { on := 0, ground := Go.Ground.phase }, { on := 1, ground := Go.Ground.phase }, { on := 2, ground := Go.Ground.phase }, { on := 3, ground := Go.Ground.phase }, { on := 4, ground := Go.Ground.phase }, { on := 5, ground := Go.Ground.phase }, { on := 6, ground := Go.Ground.phase }, { on := 7, ground := Go.Ground.phase }, { on := 8, ground := Go.Ground.phase }], guard := none }) rfl (by kernel_rfl) (fun K hK => ?_) AllReadyM.nil
      go_simp
      obtain ⟨x6, hx6⟩ : ∃ x, x = setL x5 wd.heap.size 0 [.int .i64 G.kind, .string G.s, .slice b2 G.keys.length b3, .slice b4 G.l.length b5, .int .i64 bu1, .int .i64 bu2, .float .f64 bu3, .string bu4, .slice bu5 bu6 bu7, .slice bu8 bu9 bu10, .int .i64 G.n] := ⟨_, rfl⟩
      change K _ (setL x5 wd.heap.size 0 [.int .i64 G.kind, .string G.s, .slice b2 G.keys.length b3, .slice b4 G.l.length b5, .int .i64 bu1, .int .i64 bu2, .float .f64 bu3, .string bu4, .slice bu5 bu6 bu7, .slice bu8 bu9 bu10, .int .i64 G.n])
      rw [← hx6]
      have XB6 := hid (show x6.heap[wd.heap.size]? = some (.cells #[.int .i64 G.kind, .string G.s, .slice b2 G.keys.length b3, .slice b4 G.l.length b5, .int .i64 bu1, .int .i64 bu2, .float .f64 bu3, .string bu4, .slice bu5 bu6 bu7, .slice bu8 bu9 bu10, .int .i64 G.n] 29) by rw [hx6]; exact setL_all XB5.out [.int .i64 G.kind, .string G.s, .slice b2 G.keys.length b3, .slice b4 G.l.length b5, .int .i64 bu1, .int .i64 bu2, .float .f64 bu3, .string bu4, .slice bu5 bu6 bu7, .slice bu8 bu9 bu10, .int .i64 G.n] rfl)
      have XA6 := hid (show x6.heap[x2.heap.size]? = some (.cells #[.int .i64 G.kind, .string G.s, .slice a2 G.keys.length a3, .slice a4 G.l.length a5, .int .i64 au1, .int .i64 au2, .float .f64 au3, .string au4, .slice au5 au6 au7, .slice au8 au9 au10, .int .i64 G.n] 29) by rw [hx6]; exact (setL_other NE.out _).trans XA5.out)
      have Q6 : Same (fun b => b ≠ x2.heap.size ∧ b ≠ wd.heap.size) x5 x6 := fun b o hb ho => by rw [hx6]; exact (setL_other hb.2 _).trans ho
      have RA6 := hid (RA5.out.mono Q6 (S' := Any) (fun _ _ _ => trivial))
      have RB6 := hid (RB5.out.mono Q6 (S' := Any) (fun _ _ _ => trivial))
      have E6 := hid (show Ext w x6 by rw [hx6]; exact setL_below E5.out LE.out _ _)
      clear hx6 Q6 XA5 XB5 RA5 RB5 E5 y0 y1 y2 y3 y4 y5 y6 y7 y8 y9 y10 f0 f1 f2 f3 f4 f5 f6 f7 f8 f9 f10
      refine hK.out _ _ ?_
      clear hK K
      (try simp only [Act.put, List.setIfInBounds_toArray, List.set_cons_zero, List.set_cons_succ])
      refine wpAnyM_done (by kernel_rfl) ?_ _
      obtain ⟨⟨y0, y1, y2, y3, y4, y5, y6, y7, y8, y9, y10⟩, f0, f1, f2, f3, f4, f5, f6, f7, f8, f9, f10⟩ := slot11 XA6.out
      obtain ⟨⟨z0, z1, z2, z3, z4, z5, z6, z7, z8, z9, z10⟩, g0, g1, g2, g3, g4, g5, g6, g7, g8, g9, g10⟩ := slot11 XB6.out
      go_wp2_with (go_at_call 7; refine (sameElem_true G G rfl _ _ _ RA6.out RB6.out).mono ?_; rintro e x7 ⟨rfl, hE⟩; have E7 := hid (E6.out.trans hE); clear hE)
      go_ret
      exact ⟨rfl, E7.out⟩
    refine AllReadyM.cons (o := { dst := some 5, op := Go.Op.alloc 29, type := 0, pos := "doors.go:154", after := #[], guard := none }) rfl (fun K hK => ?_) AllReadyM.nil
    go_simp
    have Xa := hid (heap_alloc_new x1 (.cells #[.int .i64 0, .string ⟨#[]⟩, .slice none 0 0, .slice none 0 0, .int .i64 0, .int .i64 0, .float .f64 0, .string ⟨#[]⟩, .slice none 0 0, .slice none 0 0, .int .i64 0] 29))
    have F2 := hid ((Ext.refl x1).alloc (.cells #[.int .i64 0, .string ⟨#[]⟩, .slice none 0 0, .slice none 0 0, .int .i64 0, .int .i64 0, .float .f64 0, .string ⟨#[]⟩, .slice none 0 0, .slice none 0 0, .int .i64 0] 29))
    have La := hid (show x1.heap.size < (x1.alloc (.cells #[.int .i64 0, .string ⟨#[]⟩, .slice none 0 0, .slice none 0 0, .int .i64 0, .int .i64 0, .float .f64 0, .string ⟨#[]⟩, .slice none 0 0, .slice none 0 0, .int .i64 0] 29)).heap.size by simp)
    generalize x1.alloc (.cells #[.int .i64 0, .string ⟨#[]⟩, .slice none 0 0, .slice none 0 0, .int .i64 0, .int .i64 0, .float .f64 0, .string ⟨#[]⟩, .slice none 0 0, .slice none 0 0, .int .i64 0] 29) = x2 at *
    refine hK.out _ _ ?hS48 (fun hHeld => ?_)
    case hS48 => (obtain ⟨⟨k0, k1, k2, k3, k4, k5⟩, -⟩ := slot6 ((F1.out.trans F2.out).block XD.out); exact ⟨k0, k1, k2, k3, k4, k5⟩)
    clear hK K
    (try simp only [Act.put, List.setIfInBounds_toArray, List.set_cons_zero, List.set_cons_succ])
    refine wpAnyM_ready (rs := [2]) (by kernel_rfl) (by simp) ?_
    refine AllReadyM.cons (o := { dst := some 12, op := Go.Op.call { callee := Go.Callee.value (Go.Operand.func 5), args := #[Go.Operand.tmp 10, Go.Operand.tmp 11], argTypes := #[3, 26] }, type := 29, pos := "doors.go:154", after := #[{ on := 0, ground := Go.Ground.data }, { on := 1, ground := Go.Ground.data }], guard := none }) rfl (fun K hK => ?_) AllReadyM.nil
    refine step_call _ rfl 5 [.tmp 10, .tmp 11] #[3, 26] rfl (by kernel_rfl) [_, _] rfl (HGE.out x2 (HEd.out.trans (F1.out.trans F2.out))) ?_
    rintro en x3 ⟨cs_, rfl, hT, hE⟩
    obtain ⟨a2, a3, a4, a5, au1, au2, au3, au4, au5, au6, au7, au8, au9, au10, rfl⟩ := hT.form8
    refine ⟨_, rfl, ?_⟩
    have HRa := hid (hT.weak (S' := fun b => x2.heap.size ≤ b ∧ b < x3.heap.size) (fun b h1 h2 => ⟨h1, h2⟩))
    have F3 := hid hE
    clear hT hE
    refine hK.out _ _ ?hS49 (fun hHeld => ?_)
    case hS49 => (obtain ⟨⟨k0, k1, k2, k3, k4, k5⟩, -⟩ := slot6 (((F1.out.trans F2.out).trans F3.out).block XD.out); exact ⟨k0, k1, k2, k3, k4, k5⟩)
    clear hK K
    (try simp only [Act.put, List.setIfInBounds_toArray, List.set_cons_zero, List.set_cons_succ])
    refine wpAnyM_ready (rs := [5]) (by kernel_rfl) (by simp) ?_
    refine AllReadyM.cons (o := { dst := some 15, op := Go.Op.call { callee := Go.Callee.value (Go.Operand.func 6), args := #[Go.Operand.tmp 13, Go.Operand.tmp 14], argTypes := #[3, 26] }, type := 29, pos := "doors.go:154", after := #[{ on := 3, ground := Go.Ground.data }, { on := 4, ground := Go.Ground.data }, { on := 2, ground := Go.Ground.chain }], guard := none }) rfl (fun K hK => ?_) AllReadyM.nil
    refine step_call _ rfl 6 [.tmp 13, .tmp 14] #[3, 26] rfl (by kernel_rfl) [_, _] rfl (HIE.out x3 (HEd.out.trans ((F1.out.trans F2.out).trans F3.out))) ?_
    rintro en x4 ⟨cs_, rfl, hT, hE⟩
    obtain ⟨b2, b3, b4, b5, bu1, bu2, bu3, bu4, bu5, bu6, bu7, bu8, bu9, bu10, rfl⟩ := hT.form8
    refine ⟨_, rfl, ?_⟩
    have HRb := hid (hT.weak (S' := fun b => x3.heap.size ≤ b ∧ b < x4.heap.size) (fun b h1 h2 => ⟨h1, h2⟩))
    have F4 := hid hE
    clear hT hE
    refine hK.out _ _ ?hS50 (fun hHeld => ?_)
    case hS50 => (obtain ⟨⟨k0, k1, k2, k3, k4, k5⟩, -⟩ := slot6 ((((F1.out.trans F2.out).trans F3.out).trans F4.out).block XD.out); exact ⟨k0, k1, k2, k3, k4, k5⟩)
    clear hK K
    (try simp only [Act.put, List.setIfInBounds_toArray, List.set_cons_zero, List.set_cons_succ])
    refine wpAnyM_ready (rs := [8]) (by kernel_rfl) (by simp) ?_
    refine AllReadyM.behind (o := { dst := none, op := Go.Op.store 29 (Go.Operand.tmp 5) (Go.Operand.tmp 12), type := 0, pos := "doors.go:154", after := #[{ on := 6, ground := Go.Ground.data }, { on := 2, ground := Go.Ground.data }, { on := 5, ground := Go.Ground.chain }, { on := 0, ground := Go.Ground.phase }, { on := 1, ground := Go.Ground.phase }, { on := 2, ground := Go.Ground.phase }, { on := 3, ground := Go.Ground.textOnly Go.Departure.lateStores }, { on := 4, ground := Go.Ground.textOnly Go.Departure.lateStores }, { on := 5, ground := Go.Ground.textOnly Go.Departure.lateStoresUnsure }, { on := 6, ground := Go.Ground.phase }, { on := 7, ground := Go.Ground.phase }], guard := none }) rfl (by kernel_rfl) (fun K hK => ?_) AllReadyM.nil
    have s1 := F1.out.size
    have s2 := F2.out.size
    have s3 := F3.out.size
    have s4 := F4.out.size
    have la := La.out
    have lb := Lb.out
    have hne : x1.heap.size ≠ wd.heap.size := by omega
    have Ra4 := (HRa.out.ext F4.out).weak (S' := fun b => b ≠ x1.heap.size ∧ b ≠ wd.heap.size) (fun b hb _ => by obtain ⟨hb1, hb2⟩ := hb; exact ⟨by omega, by omega⟩)
    have Rb4 := (HRb.out.ext (Ext.refl x4)).weak (S' := fun b => b ≠ x1.heap.size ∧ b ≠ wd.heap.size) (fun b hb _ => by obtain ⟨hb1, hb2⟩ := hb; exact ⟨by omega, by omega⟩)
    have Xa4 := (F3.out.trans F4.out).block Xa.out
    have Xb4 := ((F2.out.trans F3.out).trans F4.out).block Xb.out
    obtain ⟨⟨y0, y1, y2, y3, y4, y5, y6, y7, y8, y9, y10⟩, f0, f1, f2, f3, f4, f5, f6, f7, f8, f9, f10⟩ := slot11 Xa4
    go_simp
    obtain ⟨x5, hx5⟩ : ∃ x, x = setL x4 x1.heap.size 0 [.int .i64 G.kind, .string G.s, .slice a2 G.keys.length a3, .slice a4 G.l.length a5, .int .i64 au1, .int .i64 au2, .float .f64 au3, .string au4, .slice au5 au6 au7, .slice au8 au9 au10, .int .i64 G.n] := ⟨_, rfl⟩
    change K _ (setL x4 x1.heap.size 0 [.int .i64 G.kind, .string G.s, .slice a2 G.keys.length a3, .slice a4 G.l.length a5, .int .i64 au1, .int .i64 au2, .float .f64 au3, .string au4, .slice au5 au6 au7, .slice au8 au9 au10, .int .i64 G.n])
    rw [← hx5]
    have XA5 := hid (show x5.heap[x1.heap.size]? = some (.cells #[.int .i64 G.kind, .string G.s, .slice a2 G.keys.length a3, .slice a4 G.l.length a5, .int .i64 au1, .int .i64 au2, .float .f64 au3, .string au4, .slice au5 au6 au7, .slice au8 au9 au10, .int .i64 G.n] 29) by rw [hx5]; exact setL_all Xa4 [.int .i64 G.kind, .string G.s, .slice a2 G.keys.length a3, .slice a4 G.l.length a5, .int .i64 au1, .int .i64 au2, .float .f64 au3, .string au4, .slice au5 au6 au7, .slice au8 au9 au10, .int .i64 G.n] rfl)
    have XB5 := hid (show x5.heap[wd.heap.size]? = some (.cells #[.int .i64 0, .string ⟨#[]⟩, .slice none 0 0, .slice none 0 0, .int .i64 0, .int .i64 0, .float .f64 0, .string ⟨#[]⟩, .slice none 0 0, .slice none 0 0, .int .i64 0] 29) by rw [hx5]; exact (setL_other (Ne.symm hne) _).trans Xb4)
    have Q5 : Same (fun b => b ≠ x1.heap.size ∧ b ≠ wd.heap.size) x4 x5 := fun b o hb ho => by rw [hx5]; exact (setL_other hb.1 _).trans ho
    have RA5 := hid (Ra4.mono Q5 (fun _ h _ => h))
    have RB5 := hid (Rb4.mono Q5 (fun _ h _ => h))
    have E5 := hid (show Ext w x5 by rw [hx5]; exact setL_below (HEd.out.trans (((F1.out.trans F2.out).trans F3.out).trans F4.out)) (by have := HEd.out.size; omega) _ _)
    have NE := hid hne
    have LE := hid (show w.heap.size ≤ wd.heap.size by have := HEd.out.size; omega)
    clear hx5 Q5 Ra4 Rb4 Xa4 Xb4 hne s1 s2 s3 s4 la lb y0 y1 y2 y3 y4 y5 y6 y7 y8 y9 y10 f0 f1 f2 f3 f4 f5 f6 f7 f8 f9 f10
    obtain ⟨⟨y0, y1, y2, y3, y4, y5, y6, y7, y8, y9, y10⟩, f0, f1, f2, f3, f4, f5, f6, f7, f8, f9, f10⟩ := slot11 XB5.out
    refine hK.out _ _ ?_
    clear hK K
    (try simp only [Act.put, List.setIfInBounds_toArray, List.set_cons_zero, List.set_cons_succ])
    refine wpAnyM_ready (rs := [9]) (by kernel_rfl) (by simp) ?_
    refine AllReadyM.behind (o := { dst := none, op := Go.Op.store 29 (Go.Operand.tmp 6) (Go.Operand.tmp 15), type := 0, pos := "doors.go:154", after := #[{ on := 7, ground := Go.Ground.data }, { on := 5, ground := Go.Ground.data }, { on := 8, ground := Go.Ground.chain }, { on := 0, ground := Go.Ground.phase }, { on := 1, ground := Go.Ground.phase }, { on := 2, ground := Go.Ground.phase }, { on := 3, ground := Go.Ground.phase }, { on := 4, ground := Go.Ground.phase }, { on := 5, ground := Go.Ground.phase }, { on := 6, ground := Go.Ground.phase }, { on := 7, ground := Go.Ground.phase }, { on := 8, ground := Go.Ground.phase }], guard := none }) rfl (by kernel_rfl) (fun K hK => ?_) AllReadyM.nil
    go_simp
    obtain ⟨x6, hx6⟩ : ∃ x, x = setL x5 wd.heap.size 0 [.int .i64 G.kind, .string G.s, .slice b2 G.keys.length b3, .slice b4 G.l.length b5, .int .i64 bu1, .int .i64 bu2, .float .f64 bu3, .string bu4, .slice bu5 bu6 bu7, .slice bu8 bu9 bu10, .int .i64 G.n] := ⟨_, rfl⟩
    change K _ (setL x5 wd.heap.size 0 [.int .i64 G.kind, .string G.s, .slice b2 G.keys.length b3, .slice b4 G.l.length b5, .int .i64 bu1, .int .i64 bu2, .float .f64 bu3, .string bu4, .slice bu5 bu6 bu7, .slice bu8 bu9 bu10, .int .i64 G.n])
    rw [← hx6]
    have XB6 := hid (show x6.heap[wd.heap.size]? = some (.cells #[.int .i64 G.kind, .string G.s, .slice b2 G.keys.length b3, .slice b4 G.l.length b5, .int .i64 bu1, .int .i64 bu2, .float .f64 bu3, .string bu4, .slice bu5 bu6 bu7, .slice bu8 bu9 bu10, .int .i64 G.n] 29) by rw [hx6]; exact setL_all XB5.out [.int .i64 G.kind, .string G.s, .slice b2 G.keys.length b3, .slice b4 G.l.length b5, .int .i64 bu1, .int .i64 bu2, .float .f64 bu3, .string bu4, .slice bu5 bu6 bu7, .slice bu8 bu9 bu10, .int .i64 G.n] rfl)
    have XA6 := hid (show x6.heap[x1.heap.size]? = some (.cells #[.int .i64 G.kind, .string G.s, .slice a2 G.keys.length a3, .slice a4 G.l.length a5, .int .i64 au1, .int .i64 au2, .float .f64 au3, .string au4, .slice au5 au6 au7, .slice au8 au9 au10, .int .i64 G.n] 29) by rw [hx6]; exact (setL_other NE.out _).trans XA5.out)
    have Q6 : Same (fun b => b ≠ x1.heap.size ∧ b ≠ wd.heap.size) x5 x6 := fun b o hb ho => by rw [hx6]; exact (setL_other hb.2 _).trans ho
    have RA6 := hid (RA5.out.mono Q6 (S' := Any) (fun _ _ _ => trivial))
    have RB6 := hid (RB5.out.mono Q6 (S' := Any) (fun _ _ _ => trivial))
    have E6 := hid (show Ext w x6 by rw [hx6]; exact setL_below E5.out LE.out _ _)
    clear hx6 Q6 XA5 XB5 RA5 RB5 E5 y0 y1 y2 y3 y4 y5 y6 y7 y8 y9 y10 f0 f1 f2 f3 f4 f5 f6 f7 f8 f9 f10
    refine hK.out _ _ ?_
    clear hK K
    (try simp only [Act.put, List.setIfInBounds_toArray, List.set_cons_zero, List.set_cons_succ])
    refine wpAnyM_done (by kernel_rfl) ?_ _
    obtain ⟨⟨y0, y1, y2, y3, y4, y5, y6, y7, y8, y9, y10⟩, f0, f1, f2, f3, f4, f5, f6, f7, f8, f9, f10⟩ := slot11 XA6.out
    obtain ⟨⟨z0, z1, z2, z3, z4, z5, z6, z7, z8, z9, z10⟩, g0, g1, g2, g3, g4, g5, g6, g7, g8, g9, g10⟩ := slot11 XB6.out
    go_wp2_with (go_at_call 7; refine (sameElem_true G G rfl _ _ _ RA6.out RB6.out).mono ?_; rintro e x7 ⟨rfl, hE⟩; have E7 := hid (E6.out.trans hE); clear hE)
    go_ret
    exact ⟨rfl, E7.out⟩
theorem own : ownKnob Tryd.prog.godebug = none := by kernel_rfl
theorem gC : Tryd.prog.globalNamed "pub-coparcener/pub/structuredmerge/fieldpath.AssociativeListCandidateFieldNames" = some 0 := by kernel_rfl
theorem tC : (Tryd.prog.globals[0]?).map (·.type) = some 23 := by kernel_rfl
noncomputable def laidC : List (String × DataW Unit) := Rows.fnGuessElemRow.laid
theorem spot_none {W : World} {a : Addr} {v : Value} (h : W.cell? a = some v) : a.spot = none := by
  unfold World.cell? at h
  cases hs : a.spot with
  | none => rfl
  | some s => rw [hs] at h; split at h <;> simp at h
theorem lit_str {W : World} {base n : Nat} {sp : Nat → Bool} {held : Bool} {enc : TypeId × Value → Unit} {v : Value} {l : List UInt8} {q : List MemPlace} (s : ByteArray) (hs : s.data.toList = l)
    (h : DataW.trod enc Tryd.prog W base sp held n 9 [v] = some (.lit (.string l), q)) : v = .string s := by
  obtain ⟨s', e1, e2, _⟩ := DataW.trod_string Tryd.underlying9 h
  simp only [List.cons.injEq, and_true] at e1
  simp only [Prod.mk.injEq, DataW.lit.injEq, Lit.string.injEq] at e2
  rw [e1]
  have : s' = s := by
    cases s' with
    | mk d' =>
      cases s with
      | mk d =>
        have : d'.toList = d.toList := by rw [← e2.1]; exact hs.symm
        rw [Array.toList_inj.1 this]
  rw [this]
/-- the list of names, out of the card's condition -/
theorem of_laid {W : World} (h : laidMetH Tryd.prog laidC W) : ∃ gb go gc, CandAt W gb go gc := by
  rw [MakeChecks.laidMetH_plain _ _ _ (by kernel_rfl)] at h
  obtain ⟨ps, ⟨g0, t0, cs0, f0, p0, q0, hg0, ht0, hv0, hd0, _, _⟩, _, _⟩ := h
  obtain rfl := Option.some.inj (gC.symm.trans hg0)
  obtain rfl := Option.some.inj (tC.symm.trans ht0)
  obtain ⟨a, cap, hcs, hl, hat⟩ := open_row Tryd.underlying23 cellsStr hd0
  have hc0 := World.var?_cell hg0 hv0 0
  obtain ⟨l0⟩ := cs0
  simp only at hcs
  subst hcs
  obtain ⟨v0, n0, r0, c0, d0⟩ := hat 0 _ rfl
  obtain ⟨v1, n1, r1, c1, d1⟩ := hat 1 _ rfl
  obtain ⟨v2, n2, r2, c2, d2⟩ := hat 2 _ rfl
  obtain rfl := lit_str sKey rfl d0
  obtain rfl := lit_str sId rfl d1
  obtain rfl := lit_str sName rfl d2
  obtain ⟨ab, ao, asp⟩ := a
  have hs : asp = none := by
    have e0 : (Addr.mk ab ao asp).add 0 = ⟨ab, ao, asp⟩ := by simp [Addr.add]
    rw [e0] at c0
    exact spot_none c0
  subst hs
  refine ⟨ab, ao, cap, hc0, fun k s hk => ?_⟩
  match k, hk with
  | 0, hk => obtain rfl := Option.some.inj hk; exact c0
  | 1, hk => obtain rfl := Option.some.inj hk; exact c1
  | 2, hk => obtain rfl := Option.some.inj hk; exact c2
/-- the door's own heap meets the condition -/
theorem door_met (os : Os) (args : Array Value) : laidMetH Tryd.prog laidC ((World.doorLaid Tryd.prog 14 os).forCall (fun _ _ => 0) ⟨#[], args, []⟩).memory :=
  laidMetH_of_parts3 (fuel := 8) (laidMet_of_run' 8 (by kernel_rfl) (by kernel_rfl)) (by kernel_rfl) (by kernel_rfl)
section
variable {H : Type} {enc : TypeId × Value → H} {P : Program} {w : World} {base : Nat} {spare : Nat → Bool} {held : Bool}
theorem trodAll_args {t0 t1 : TypeId} {args : Array Value} {ds : List (DataW H)} {ps : List MemPlace} (h : DataW.TrodAll enc P w base spare held [t0, t1] args.toList ds ps) :
    ∃ v0 v1 d0 d1 p0 p1, args = #[v0, v1] ∧ ds = [d0, d1] ∧ DataW.Trod enc P w base spare held t0 v0 d0 p0 ∧ DataW.Trod enc P w base spare held t1 v1 d1 p1 := by
  obtain ⟨v0, vs0, d0, ds0, p0, q0, hargs, rfl, rfl, hd0, hr0⟩ := trodAll_cons h
  obtain ⟨v1, vs1, d1, ds1, p1, q1, rfl, rfl, rfl, hd1, hr1⟩ := trodAll_cons hr0
  obtain ⟨rfl, rfl, rfl⟩ := trodAll_nil hr1
  exact ⟨v0, v1, d0, d1, p0, p1, by cases args; simp_all, rfl, hd0, hd1⟩
end
theorem lifted (os : Os) (started : os.Started) (H : Type) (enc : TypeId × Value → H) :
    ReturnsInHanded {} Tryd.checked os 3 .any (fun w args => (Rows.fnGuessElemSpec.pre enc Tryd.prog Tryd.f3 [] false w args ∧ laidMetH Tryd.prog laidC w) ∧ sizedMet enc Tryd.prog Tryd.f3 (OpenSpec.ofChange Rows.fnGuessElemSpec) false w args)
      (Rows.fnGuessElemSpec.post enc Tryd.prog Tryd.f3 false true false false) := by
  refine returnsInHanded_of_change_and (C := Tryd.checked) (X := fun w _ => laidMetH Tryd.prog laidC w) (fun _ _ _ hh h => h.of_heap hh) own started (by kernel_rfl) Tryd.func3
    (ChangeSpec.witness_shaped (enc := enc) (C := Tryd.checked) (os := os) (X := fun w _ => laidMetH Tryd.prog laidC w) false (World.doorLaid Tryd.prog 14 os) #[.int .i64 0, .agg #[.int .i64 0, .int .i64 0, .float .f64 0, .string ⟨#[]⟩, .slice none 0 0, .slice none 0 0]] 8 rfl (World.shaped_of_RefB (by kernel_rfl) (by kernel_rfl)) (by kernel_rfl) (by kernel_rfl) (by kernel_rfl) (door_met os _)) ?_
  intro W base args ds gs before hval hW _ hsz hL _
  have hW0 := hW
  obtain ⟨p, q, hA, hV, rfl, hfz, hnd⟩ := hW
  obtain ⟨rfl, rfl⟩ : gs = [] ∧ q = [] := by
    cases gs with
    | nil => exact ⟨rfl, hV⟩
    | cons => exact hV.elim
  have hA0 := hA
  rw [Tryd.params3] at hA hval hsz
  simp only [List.append_nil] at hW0 hsz
  obtain ⟨v0, v1, d0, d1, p0, p1, rfl, rfl, h0, h1⟩ := trodAll_args hA
  have hw : ∀ n ∈ DataW.weightsEach Tryd.prog [3, 26] [d0, d1], n ≤ 140737488351232 := by
    intro n hn
    exact of_decide_eq_true (List.all_eq_true.1 hsz n hn)
  obtain ⟨n0, rfl, hn0⟩ := open_int Tryd.underlying3 (hval 0 3 v0 rfl rfl) h0
  obtain ⟨cs1, rfl, _⟩ := okWide_struct Tryd.underlying26 (hval 1 26 v1 rfl rfl)
  obtain ⟨fu1, h1⟩ := h1
  obtain ⟨g1, hg1⟩ := open_gv fu1 cs1.toList (d1, p1) h1 (weightsEach_mem (j := 1) rfl rfl hw)
  obtain ⟨gb, go, gc, hC⟩ := of_laid hL
  have hwalk := walk g1 cs1.toList n0 hn0.2.2 gb go gc W hC hg1
  rw [Array.toArray_toList] at hwalk
  refine hwalk.mono fun e W' ⟨he, hb⟩ => ⟨_, he, ?_⟩
  refine ⟨[d0, d1], [], p, [], p, [], by simpa using hW0, ?_, ?_, ?_, hb.frame _, fun h => by cases h⟩
  · rw [List.append_nil]
    exact trodAll_mk1 (shut_bool Tryd.underlying4 true)
  · rw [List.append_nil]
    refine trodAll_below (by kernel_rfl) hb (fun t ht => ?_) hA0 (fun x hx => by simpa using hW0.lt x hx)
    have ht' : t ∈ ([3, 26] : List TypeId) := by rwa [Tryd.params3] at ht
    simp only [List.mem_cons, List.not_mem_nil, or_false] at ht'
    rcases ht' with rfl | rfl <;> exact ⟨by kernel_rfl, of_decide_eq_true (by kernel_rfl)⟩
  · rw [List.append_nil]
    rfl
theorem over : Rows.FnGuessElemSaid :=
  OpenClaim.holds_of_wide 3 Tryd.f3 rfl rfl rfl rfl rfl rfl rfl ⟨rfl, rfl, rfl, rfl, rfl⟩ rfl rfl rfl rfl rfl (by kernel_rfl) Tryd.func3 (by kernel_rfl)
    (of_decide_eq_true (by kernel_rfl)) (by unfold Func.isWrapper; first | (rw [if_pos (by decide +kernel)]; kernel_rfl) | (rw [if_neg (by decide +kernel)]; exact ⟨rfl, rfl⟩))
    (fun os started H enc _ => lifted os started H enc)
theorem proved : Rows.FnGuessElemCardSaid :=
  Claim7.holds_tied_plain_at .later [] [.data] true (true, "3d0c39b8712d38d09a83af69051f245a7ba325537c348c6ec201e48325d8341a") true
    over (fun _ h => by cases h) (by kernel_rfl) (fun _ h => by cases h) fnGuessElem_row_tie rfl ⟨rfl, rfl⟩ (by kernel_rfl) rfl
    (fun f fn hf hfn => by
      obtain rfl : f = 3 := Option.some.inj ((show Tryd.prog.funcNamed "pub-coparcener/laws.FnGuessElem" = some 3 by kernel_rfl).symm.trans hf) |>.symm
      obtain rfl : fn = Tryd.f3 := (Option.some.inj (Tryd.func3.symm.trans hfn)).symm
      exact ⟨by kernel_rfl, fun j t ht => by
        rw [Tryd.params3] at ht
        rcases j with _ | _ | j
        · obtain rfl : t = 3 := by simpa using ht.symm
          exact (show Tryd.prog.wantsStandIn 3 = false by kernel_rfl)
        · obtain rfl : t = 26 := by simpa using ht.symm
          exact (show Tryd.prog.wantsStandIn 26 = false by kernel_rfl)
        · simp at ht⟩)
    (by kernel_rfl)
#print axioms proved
end Go.Proofs.YtempfaefopfobaaDoor.fnGuess
