/- Is: of which kind a value of the package is: IsFloat, IsInt, IsString, IsBool, IsList, IsMap, IsNull; AsString, AsBool, AsInt, AsFloat. -/
import Derived.Test.YtempfaefopfobaaDoorVal

namespace Go.Proofs.YtempfaefopfobaaDoor
open Go.ChangeShapes Go.WideShapes Go.ChangeAt Go.RowKit
set_option linter.unusedVariables false
set_option linter.unusedSimpArgs false

def kcode : Tree → Nat | .null => 0 | .bool _ => 1 | .int _ => 2 | .flt _ => 3 | .str _ => 4 | .list _ => 5 | .map _ => 6
theorem RepT.kform {S : Nat → Prop} {w : World} {t : Tree} {v : Value} (h : RepT S w t v) :
    (kcode t = 0 ∧ v = .nilIface) ∨ (kcode t = 1 ∧ ∃ b, v = .iface 4 (.bool b)) ∨ (kcode t = 2 ∧ ∃ n, v = .iface 2 (.int .i64 n)) ∨ (kcode t = 3 ∧ ∃ f, v = .iface 22 (.float .f64 f)) ∨
    (kcode t = 4 ∧ ∃ s, v = .iface 9 (.string s)) ∨ (kcode t = 5 ∧ ∃ a n c, v = .iface 87 (.slice a n c)) ∨ (kcode t = 6 ∧ ∃ r, v = .iface 88 (.map r)) := by
  cases h
  · exact .inl ⟨rfl, rfl⟩
  · exact .inr (.inl ⟨rfl, _, rfl⟩)
  · exact .inr (.inr (.inl ⟨rfl, _, rfl⟩))
  · exact .inr (.inr (.inr (.inl ⟨rfl, _, rfl⟩)))
  · exact .inr (.inr (.inr (.inr (.inl ⟨rfl, _, rfl⟩))))
  · exact .inr (.inr (.inr (.inr (.inr (.inl ⟨rfl, _, _, _, rfl⟩)))))
  · exact .inr (.inr (.inr (.inr (.inr (.inr ⟨rfl, _, rfl⟩)))))
@[go_sem] theorem tis_0_0 (v : Value) (w : World) : (Instr.typeAssert (.iface 4 v) 20 4 true).run Tryd.prog w = .ok (.tuple #[v, .bool true]) w := by kernel_rfl
@[go_sem] theorem tip_0 (v : Value) (w : World) : (Instr.typeAssert (.iface 4 v) 20 4 false).run Tryd.prog w = .ok v w := by kernel_rfl
@[go_sem] theorem tis_0_1 (v : Value) (w : World) : (Instr.typeAssert (.iface 4 v) 20 2 true).run Tryd.prog w = .ok (.tuple #[.int .i64 0, .bool false]) w := by kernel_rfl
@[go_sem] theorem tis_0_2 (v : Value) (w : World) : (Instr.typeAssert (.iface 4 v) 20 22 true).run Tryd.prog w = .ok (.tuple #[.float .f64 0, .bool false]) w := by kernel_rfl
@[go_sem] theorem tis_0_3 (v : Value) (w : World) : (Instr.typeAssert (.iface 4 v) 20 9 true).run Tryd.prog w = .ok (.tuple #[.string ⟨#[]⟩, .bool false]) w := by kernel_rfl
@[go_sem] theorem tis_0_4 (v : Value) (w : World) : (Instr.typeAssert (.iface 4 v) 20 87 true).run Tryd.prog w = .ok (.tuple #[.slice none 0 0, .bool false]) w := by kernel_rfl
@[go_sem] theorem tis_0_5 (v : Value) (w : World) : (Instr.typeAssert (.iface 4 v) 20 88 true).run Tryd.prog w = .ok (.tuple #[.map none, .bool false]) w := by kernel_rfl
@[go_sem] theorem tis_0_7 (v : Value) (w : World) : (Instr.typeAssert (.iface 4 v) 20 3 true).run Tryd.prog w = .ok (.tuple #[.int .i64 0, .bool false]) w := by kernel_rfl
@[go_sem] theorem tis_0_10 (v : Value) (w : World) : (Instr.typeAssert (.iface 4 v) 20 21 true).run Tryd.prog w = .ok (.tuple #[.int .i32 0, .bool false]) w := by kernel_rfl
@[go_sem] theorem tis_0_12 (v : Value) (w : World) : (Instr.typeAssert (.iface 4 v) 20 5 true).run Tryd.prog w = .ok (.tuple #[.int .u8 0, .bool false]) w := by kernel_rfl
@[go_sem] theorem tis_0_14 (v : Value) (w : World) : (Instr.typeAssert (.iface 4 v) 20 101 true).run Tryd.prog w = .ok (.tuple #[.int .u32 0, .bool false]) w := by kernel_rfl
@[go_sem] theorem tis_1_0 (v : Value) (w : World) : (Instr.typeAssert (.iface 2 v) 20 4 true).run Tryd.prog w = .ok (.tuple #[.bool false, .bool false]) w := by kernel_rfl
@[go_sem] theorem tis_1_1 (v : Value) (w : World) : (Instr.typeAssert (.iface 2 v) 20 2 true).run Tryd.prog w = .ok (.tuple #[v, .bool true]) w := by kernel_rfl
@[go_sem] theorem tip_1 (v : Value) (w : World) : (Instr.typeAssert (.iface 2 v) 20 2 false).run Tryd.prog w = .ok v w := by kernel_rfl
@[go_sem] theorem tis_1_2 (v : Value) (w : World) : (Instr.typeAssert (.iface 2 v) 20 22 true).run Tryd.prog w = .ok (.tuple #[.float .f64 0, .bool false]) w := by kernel_rfl
@[go_sem] theorem tis_1_3 (v : Value) (w : World) : (Instr.typeAssert (.iface 2 v) 20 9 true).run Tryd.prog w = .ok (.tuple #[.string ⟨#[]⟩, .bool false]) w := by kernel_rfl
@[go_sem] theorem tis_1_4 (v : Value) (w : World) : (Instr.typeAssert (.iface 2 v) 20 87 true).run Tryd.prog w = .ok (.tuple #[.slice none 0 0, .bool false]) w := by kernel_rfl
@[go_sem] theorem tis_1_5 (v : Value) (w : World) : (Instr.typeAssert (.iface 2 v) 20 88 true).run Tryd.prog w = .ok (.tuple #[.map none, .bool false]) w := by kernel_rfl
@[go_sem] theorem tis_1_7 (v : Value) (w : World) : (Instr.typeAssert (.iface 2 v) 20 3 true).run Tryd.prog w = .ok (.tuple #[.int .i64 0, .bool false]) w := by kernel_rfl
@[go_sem] theorem tis_1_10 (v : Value) (w : World) : (Instr.typeAssert (.iface 2 v) 20 21 true).run Tryd.prog w = .ok (.tuple #[.int .i32 0, .bool false]) w := by kernel_rfl
@[go_sem] theorem tis_1_12 (v : Value) (w : World) : (Instr.typeAssert (.iface 2 v) 20 5 true).run Tryd.prog w = .ok (.tuple #[.int .u8 0, .bool false]) w := by kernel_rfl
@[go_sem] theorem tis_1_14 (v : Value) (w : World) : (Instr.typeAssert (.iface 2 v) 20 101 true).run Tryd.prog w = .ok (.tuple #[.int .u32 0, .bool false]) w := by kernel_rfl
@[go_sem] theorem tis_2_0 (v : Value) (w : World) : (Instr.typeAssert (.iface 22 v) 20 4 true).run Tryd.prog w = .ok (.tuple #[.bool false, .bool false]) w := by kernel_rfl
@[go_sem] theorem tis_2_1 (v : Value) (w : World) : (Instr.typeAssert (.iface 22 v) 20 2 true).run Tryd.prog w = .ok (.tuple #[.int .i64 0, .bool false]) w := by kernel_rfl
@[go_sem] theorem tis_2_2 (v : Value) (w : World) : (Instr.typeAssert (.iface 22 v) 20 22 true).run Tryd.prog w = .ok (.tuple #[v, .bool true]) w := by kernel_rfl
@[go_sem] theorem tip_2 (v : Value) (w : World) : (Instr.typeAssert (.iface 22 v) 20 22 false).run Tryd.prog w = .ok v w := by kernel_rfl
@[go_sem] theorem tis_2_3 (v : Value) (w : World) : (Instr.typeAssert (.iface 22 v) 20 9 true).run Tryd.prog w = .ok (.tuple #[.string ⟨#[]⟩, .bool false]) w := by kernel_rfl
@[go_sem] theorem tis_2_4 (v : Value) (w : World) : (Instr.typeAssert (.iface 22 v) 20 87 true).run Tryd.prog w = .ok (.tuple #[.slice none 0 0, .bool false]) w := by kernel_rfl
@[go_sem] theorem tis_2_5 (v : Value) (w : World) : (Instr.typeAssert (.iface 22 v) 20 88 true).run Tryd.prog w = .ok (.tuple #[.map none, .bool false]) w := by kernel_rfl
@[go_sem] theorem tis_2_7 (v : Value) (w : World) : (Instr.typeAssert (.iface 22 v) 20 3 true).run Tryd.prog w = .ok (.tuple #[.int .i64 0, .bool false]) w := by kernel_rfl
@[go_sem] theorem tis_2_10 (v : Value) (w : World) : (Instr.typeAssert (.iface 22 v) 20 21 true).run Tryd.prog w = .ok (.tuple #[.int .i32 0, .bool false]) w := by kernel_rfl
@[go_sem] theorem tis_2_12 (v : Value) (w : World) : (Instr.typeAssert (.iface 22 v) 20 5 true).run Tryd.prog w = .ok (.tuple #[.int .u8 0, .bool false]) w := by kernel_rfl
@[go_sem] theorem tis_2_14 (v : Value) (w : World) : (Instr.typeAssert (.iface 22 v) 20 101 true).run Tryd.prog w = .ok (.tuple #[.int .u32 0, .bool false]) w := by kernel_rfl
@[go_sem] theorem tis_3_0 (v : Value) (w : World) : (Instr.typeAssert (.iface 9 v) 20 4 true).run Tryd.prog w = .ok (.tuple #[.bool false, .bool false]) w := by kernel_rfl
@[go_sem] theorem tis_3_1 (v : Value) (w : World) : (Instr.typeAssert (.iface 9 v) 20 2 true).run Tryd.prog w = .ok (.tuple #[.int .i64 0, .bool false]) w := by kernel_rfl
@[go_sem] theorem tis_3_2 (v : Value) (w : World) : (Instr.typeAssert (.iface 9 v) 20 22 true).run Tryd.prog w = .ok (.tuple #[.float .f64 0, .bool false]) w := by kernel_rfl
@[go_sem] theorem tis_3_3 (v : Value) (w : World) : (Instr.typeAssert (.iface 9 v) 20 9 true).run Tryd.prog w = .ok (.tuple #[v, .bool true]) w := by kernel_rfl
@[go_sem] theorem tip_3 (v : Value) (w : World) : (Instr.typeAssert (.iface 9 v) 20 9 false).run Tryd.prog w = .ok v w := by kernel_rfl
@[go_sem] theorem tis_3_4 (v : Value) (w : World) : (Instr.typeAssert (.iface 9 v) 20 87 true).run Tryd.prog w = .ok (.tuple #[.slice none 0 0, .bool false]) w := by kernel_rfl
@[go_sem] theorem tis_3_5 (v : Value) (w : World) : (Instr.typeAssert (.iface 9 v) 20 88 true).run Tryd.prog w = .ok (.tuple #[.map none, .bool false]) w := by kernel_rfl
@[go_sem] theorem tis_3_7 (v : Value) (w : World) : (Instr.typeAssert (.iface 9 v) 20 3 true).run Tryd.prog w = .ok (.tuple #[.int .i64 0, .bool false]) w := by kernel_rfl
@[go_sem] theorem tis_3_10 (v : Value) (w : World) : (Instr.typeAssert (.iface 9 v) 20 21 true).run Tryd.prog w = .ok (.tuple #[.int .i32 0, .bool false]) w := by kernel_rfl
@[go_sem] theorem tis_3_12 (v : Value) (w : World) : (Instr.typeAssert (.iface 9 v) 20 5 true).run Tryd.prog w = .ok (.tuple #[.int .u8 0, .bool false]) w := by kernel_rfl
@[go_sem] theorem tis_3_14 (v : Value) (w : World) : (Instr.typeAssert (.iface 9 v) 20 101 true).run Tryd.prog w = .ok (.tuple #[.int .u32 0, .bool false]) w := by kernel_rfl
@[go_sem] theorem tis_4_0 (v : Value) (w : World) : (Instr.typeAssert (.iface 87 v) 20 4 true).run Tryd.prog w = .ok (.tuple #[.bool false, .bool false]) w := by kernel_rfl
@[go_sem] theorem tis_4_1 (v : Value) (w : World) : (Instr.typeAssert (.iface 87 v) 20 2 true).run Tryd.prog w = .ok (.tuple #[.int .i64 0, .bool false]) w := by kernel_rfl
@[go_sem] theorem tis_4_2 (v : Value) (w : World) : (Instr.typeAssert (.iface 87 v) 20 22 true).run Tryd.prog w = .ok (.tuple #[.float .f64 0, .bool false]) w := by kernel_rfl
@[go_sem] theorem tis_4_3 (v : Value) (w : World) : (Instr.typeAssert (.iface 87 v) 20 9 true).run Tryd.prog w = .ok (.tuple #[.string ⟨#[]⟩, .bool false]) w := by kernel_rfl
@[go_sem] theorem tis_4_4 (v : Value) (w : World) : (Instr.typeAssert (.iface 87 v) 20 87 true).run Tryd.prog w = .ok (.tuple #[v, .bool true]) w := by kernel_rfl
@[go_sem] theorem tip_4 (v : Value) (w : World) : (Instr.typeAssert (.iface 87 v) 20 87 false).run Tryd.prog w = .ok v w := by kernel_rfl
@[go_sem] theorem tis_4_5 (v : Value) (w : World) : (Instr.typeAssert (.iface 87 v) 20 88 true).run Tryd.prog w = .ok (.tuple #[.map none, .bool false]) w := by kernel_rfl
@[go_sem] theorem tis_4_7 (v : Value) (w : World) : (Instr.typeAssert (.iface 87 v) 20 3 true).run Tryd.prog w = .ok (.tuple #[.int .i64 0, .bool false]) w := by kernel_rfl
@[go_sem] theorem tis_4_10 (v : Value) (w : World) : (Instr.typeAssert (.iface 87 v) 20 21 true).run Tryd.prog w = .ok (.tuple #[.int .i32 0, .bool false]) w := by kernel_rfl
@[go_sem] theorem tis_4_12 (v : Value) (w : World) : (Instr.typeAssert (.iface 87 v) 20 5 true).run Tryd.prog w = .ok (.tuple #[.int .u8 0, .bool false]) w := by kernel_rfl
@[go_sem] theorem tis_4_14 (v : Value) (w : World) : (Instr.typeAssert (.iface 87 v) 20 101 true).run Tryd.prog w = .ok (.tuple #[.int .u32 0, .bool false]) w := by kernel_rfl
@[go_sem] theorem tis_5_0 (v : Value) (w : World) : (Instr.typeAssert (.iface 88 v) 20 4 true).run Tryd.prog w = .ok (.tuple #[.bool false, .bool false]) w := by kernel_rfl
@[go_sem] theorem tis_5_1 (v : Value) (w : World) : (Instr.typeAssert (.iface 88 v) 20 2 true).run Tryd.prog w = .ok (.tuple #[.int .i64 0, .bool false]) w := by kernel_rfl
@[go_sem] theorem tis_5_2 (v : Value) (w : World) : (Instr.typeAssert (.iface 88 v) 20 22 true).run Tryd.prog w = .ok (.tuple #[.float .f64 0, .bool false]) w := by kernel_rfl
@[go_sem] theorem tis_5_3 (v : Value) (w : World) : (Instr.typeAssert (.iface 88 v) 20 9 true).run Tryd.prog w = .ok (.tuple #[.string ⟨#[]⟩, .bool false]) w := by kernel_rfl
@[go_sem] theorem tis_5_4 (v : Value) (w : World) : (Instr.typeAssert (.iface 88 v) 20 87 true).run Tryd.prog w = .ok (.tuple #[.slice none 0 0, .bool false]) w := by kernel_rfl
@[go_sem] theorem tis_5_5 (v : Value) (w : World) : (Instr.typeAssert (.iface 88 v) 20 88 true).run Tryd.prog w = .ok (.tuple #[v, .bool true]) w := by kernel_rfl
@[go_sem] theorem tip_5 (v : Value) (w : World) : (Instr.typeAssert (.iface 88 v) 20 88 false).run Tryd.prog w = .ok v w := by kernel_rfl
@[go_sem] theorem tis_5_7 (v : Value) (w : World) : (Instr.typeAssert (.iface 88 v) 20 3 true).run Tryd.prog w = .ok (.tuple #[.int .i64 0, .bool false]) w := by kernel_rfl
@[go_sem] theorem tis_5_10 (v : Value) (w : World) : (Instr.typeAssert (.iface 88 v) 20 21 true).run Tryd.prog w = .ok (.tuple #[.int .i32 0, .bool false]) w := by kernel_rfl
@[go_sem] theorem tis_5_12 (v : Value) (w : World) : (Instr.typeAssert (.iface 88 v) 20 5 true).run Tryd.prog w = .ok (.tuple #[.int .u8 0, .bool false]) w := by kernel_rfl
@[go_sem] theorem tis_5_14 (v : Value) (w : World) : (Instr.typeAssert (.iface 88 v) 20 101 true).run Tryd.prog w = .ok (.tuple #[.int .u32 0, .bool false]) w := by kernel_rfl
set_option maxRecDepth 100000 in
theorem is_IsNull (S : Nat → Prop) (t : Tree) (v : Value) (w : World) (hT : RepT S w t v) : Calls Tryd.prog 66 #[.agg #[v]] w fun e w' => e = .returned (.bool (kcode t == 0)) ∧ Ext w w' := by
  rcases hT.kform with ⟨hk, rfl⟩ | ⟨hk, b, rfl⟩ | ⟨hk, n, rfl⟩ | ⟨hk, f, rfl⟩ | ⟨hk, s, rfl⟩ | ⟨hk, a, n, c, rfl⟩ | ⟨hk, r, rfl⟩
  all_goals
    rw [hk]
    clear hT hk
    go_enter Tryd.func66, Tryd.ntmps66
    go_wp2
    go_ret
    exact ⟨rfl, (Ext.refl _).alloc _⟩
set_option maxRecDepth 100000 in
theorem is_IsList (S : Nat → Prop) (t : Tree) (v : Value) (w : World) (hT : RepT S w t v) : Calls Tryd.prog 64 #[.agg #[v]] w fun e w' => e = .returned (.bool (kcode t == 5)) ∧ Ext w w' := by
  rcases hT.kform with ⟨hk, rfl⟩ | ⟨hk, b, rfl⟩ | ⟨hk, n, rfl⟩ | ⟨hk, f, rfl⟩ | ⟨hk, s, rfl⟩ | ⟨hk, a, n, c, rfl⟩ | ⟨hk, r, rfl⟩
  all_goals
    rw [hk]
    clear hT hk
    go_enter Tryd.func64, Tryd.ntmps64
    go_wp2
    go_ret
    exact ⟨rfl, (Ext.refl _).alloc _⟩
set_option maxRecDepth 100000 in
theorem is_IsMap (S : Nat → Prop) (t : Tree) (v : Value) (w : World) (hT : RepT S w t v) : Calls Tryd.prog 65 #[.agg #[v]] w fun e w' => e = .returned (.bool (kcode t == 6)) ∧ Ext w w' := by
  rcases hT.kform with ⟨hk, rfl⟩ | ⟨hk, b, rfl⟩ | ⟨hk, n, rfl⟩ | ⟨hk, f, rfl⟩ | ⟨hk, s, rfl⟩ | ⟨hk, a, n, c, rfl⟩ | ⟨hk, r, rfl⟩
  all_goals
    rw [hk]
    clear hT hk
    go_enter Tryd.func65, Tryd.ntmps65
    go_wp2
    go_ret
    exact ⟨rfl, (Ext.refl _).alloc _⟩
end Go.Proofs.YtempfaefopfobaaDoor
