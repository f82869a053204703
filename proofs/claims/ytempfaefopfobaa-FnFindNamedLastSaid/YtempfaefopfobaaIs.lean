/- Is: of which kind a value of the package is: IsFloat, IsInt, IsString, IsBool, IsList, IsMap, IsNull; AsString, AsBool, AsInt, AsFloat. -/
import Derived.Test.YtempfaefopfobaaVal

namespace Go.Proofs.Ytempfaefopfobaa
open Go.ChangeShapes Go.WideShapes Go.ChangeAt Go.RowKit
set_option linter.unusedVariables false
set_option linter.unusedSimpArgs false

def kcode : Tree → Nat | .null => 0 | .bool _ => 1 | .int _ => 2 | .flt _ => 3 | .str _ => 4 | .list _ => 5 | .map _ => 6
theorem RepT.kform {S : Nat → Prop} {w : World} {t : Tree} {v : Value} (h : RepT S w t v) :
    (kcode t = 0 ∧ v = .nilIface) ∨ (kcode t = 1 ∧ ∃ b, v = .iface 4 (.bool b)) ∨ (kcode t = 2 ∧ ∃ n, v = .iface 2 (.int .i64 n)) ∨ (kcode t = 3 ∧ ∃ f, v = .iface 30 (.float .f64 f)) ∨
    (kcode t = 4 ∧ ∃ s, v = .iface 9 (.string s)) ∨ (kcode t = 5 ∧ ∃ a n c, v = .iface 82 (.slice a n c)) ∨ (kcode t = 6 ∧ ∃ r, v = .iface 159 (.map r)) := by
  cases h
  · exact .inl ⟨rfl, rfl⟩
  · exact .inr (.inl ⟨rfl, _, rfl⟩)
  · exact .inr (.inr (.inl ⟨rfl, _, rfl⟩))
  · exact .inr (.inr (.inr (.inl ⟨rfl, _, rfl⟩)))
  · exact .inr (.inr (.inr (.inr (.inl ⟨rfl, _, rfl⟩))))
  · exact .inr (.inr (.inr (.inr (.inr (.inl ⟨rfl, _, _, _, rfl⟩)))))
  · exact .inr (.inr (.inr (.inr (.inr (.inr ⟨rfl, _, rfl⟩)))))
@[go_sem] theorem tis_0_0 (v : Value) (w : World) : (Instr.typeAssert (.iface 4 v) 20 4 true).run Try.prog w = .ok (.tuple #[v, .bool true]) w := by kernel_rfl
@[go_sem] theorem tip_0 (v : Value) (w : World) : (Instr.typeAssert (.iface 4 v) 20 4 false).run Try.prog w = .ok v w := by kernel_rfl
@[go_sem] theorem tis_0_1 (v : Value) (w : World) : (Instr.typeAssert (.iface 4 v) 20 2 true).run Try.prog w = .ok (.tuple #[.int .i64 0, .bool false]) w := by kernel_rfl
@[go_sem] theorem tis_0_2 (v : Value) (w : World) : (Instr.typeAssert (.iface 4 v) 20 30 true).run Try.prog w = .ok (.tuple #[.float .f64 0, .bool false]) w := by kernel_rfl
@[go_sem] theorem tis_0_3 (v : Value) (w : World) : (Instr.typeAssert (.iface 4 v) 20 9 true).run Try.prog w = .ok (.tuple #[.string ⟨#[]⟩, .bool false]) w := by kernel_rfl
@[go_sem] theorem tis_0_4 (v : Value) (w : World) : (Instr.typeAssert (.iface 4 v) 20 82 true).run Try.prog w = .ok (.tuple #[.slice none 0 0, .bool false]) w := by kernel_rfl
@[go_sem] theorem tis_0_5 (v : Value) (w : World) : (Instr.typeAssert (.iface 4 v) 20 159 true).run Try.prog w = .ok (.tuple #[.map none, .bool false]) w := by kernel_rfl
@[go_sem] theorem tis_0_6 (v : Value) (w : World) : (Instr.typeAssert (.iface 4 v) 20 302 true).run Try.prog w = .ok (.tuple #[.float .f32 0, .bool false]) w := by kernel_rfl
@[go_sem] theorem tis_0_7 (v : Value) (w : World) : (Instr.typeAssert (.iface 4 v) 20 3 true).run Try.prog w = .ok (.tuple #[.int .i64 0, .bool false]) w := by kernel_rfl
@[go_sem] theorem tis_0_8 (v : Value) (w : World) : (Instr.typeAssert (.iface 4 v) 20 304 true).run Try.prog w = .ok (.tuple #[.int .i8 0, .bool false]) w := by kernel_rfl
@[go_sem] theorem tis_0_9 (v : Value) (w : World) : (Instr.typeAssert (.iface 4 v) 20 306 true).run Try.prog w = .ok (.tuple #[.int .i16 0, .bool false]) w := by kernel_rfl
@[go_sem] theorem tis_0_10 (v : Value) (w : World) : (Instr.typeAssert (.iface 4 v) 20 21 true).run Try.prog w = .ok (.tuple #[.int .i32 0, .bool false]) w := by kernel_rfl
@[go_sem] theorem tis_0_11 (v : Value) (w : World) : (Instr.typeAssert (.iface 4 v) 20 309 true).run Try.prog w = .ok (.tuple #[.int .u64 0, .bool false]) w := by kernel_rfl
@[go_sem] theorem tis_0_12 (v : Value) (w : World) : (Instr.typeAssert (.iface 4 v) 20 5 true).run Try.prog w = .ok (.tuple #[.int .u8 0, .bool false]) w := by kernel_rfl
@[go_sem] theorem tis_0_13 (v : Value) (w : World) : (Instr.typeAssert (.iface 4 v) 20 312 true).run Try.prog w = .ok (.tuple #[.int .u16 0, .bool false]) w := by kernel_rfl
@[go_sem] theorem tis_0_14 (v : Value) (w : World) : (Instr.typeAssert (.iface 4 v) 20 280 true).run Try.prog w = .ok (.tuple #[.int .u32 0, .bool false]) w := by kernel_rfl
@[go_sem] theorem tis_1_0 (v : Value) (w : World) : (Instr.typeAssert (.iface 2 v) 20 4 true).run Try.prog w = .ok (.tuple #[.bool false, .bool false]) w := by kernel_rfl
@[go_sem] theorem tis_1_1 (v : Value) (w : World) : (Instr.typeAssert (.iface 2 v) 20 2 true).run Try.prog w = .ok (.tuple #[v, .bool true]) w := by kernel_rfl
@[go_sem] theorem tip_1 (v : Value) (w : World) : (Instr.typeAssert (.iface 2 v) 20 2 false).run Try.prog w = .ok v w := by kernel_rfl
@[go_sem] theorem tis_1_2 (v : Value) (w : World) : (Instr.typeAssert (.iface 2 v) 20 30 true).run Try.prog w = .ok (.tuple #[.float .f64 0, .bool false]) w := by kernel_rfl
@[go_sem] theorem tis_1_3 (v : Value) (w : World) : (Instr.typeAssert (.iface 2 v) 20 9 true).run Try.prog w = .ok (.tuple #[.string ⟨#[]⟩, .bool false]) w := by kernel_rfl
@[go_sem] theorem tis_1_4 (v : Value) (w : World) : (Instr.typeAssert (.iface 2 v) 20 82 true).run Try.prog w = .ok (.tuple #[.slice none 0 0, .bool false]) w := by kernel_rfl
@[go_sem] theorem tis_1_5 (v : Value) (w : World) : (Instr.typeAssert (.iface 2 v) 20 159 true).run Try.prog w = .ok (.tuple #[.map none, .bool false]) w := by kernel_rfl
@[go_sem] theorem tis_1_6 (v : Value) (w : World) : (Instr.typeAssert (.iface 2 v) 20 302 true).run Try.prog w = .ok (.tuple #[.float .f32 0, .bool false]) w := by kernel_rfl
@[go_sem] theorem tis_1_7 (v : Value) (w : World) : (Instr.typeAssert (.iface 2 v) 20 3 true).run Try.prog w = .ok (.tuple #[.int .i64 0, .bool false]) w := by kernel_rfl
@[go_sem] theorem tis_1_8 (v : Value) (w : World) : (Instr.typeAssert (.iface 2 v) 20 304 true).run Try.prog w = .ok (.tuple #[.int .i8 0, .bool false]) w := by kernel_rfl
@[go_sem] theorem tis_1_9 (v : Value) (w : World) : (Instr.typeAssert (.iface 2 v) 20 306 true).run Try.prog w = .ok (.tuple #[.int .i16 0, .bool false]) w := by kernel_rfl
@[go_sem] theorem tis_1_10 (v : Value) (w : World) : (Instr.typeAssert (.iface 2 v) 20 21 true).run Try.prog w = .ok (.tuple #[.int .i32 0, .bool false]) w := by kernel_rfl
@[go_sem] theorem tis_1_11 (v : Value) (w : World) : (Instr.typeAssert (.iface 2 v) 20 309 true).run Try.prog w = .ok (.tuple #[.int .u64 0, .bool false]) w := by kernel_rfl
@[go_sem] theorem tis_1_12 (v : Value) (w : World) : (Instr.typeAssert (.iface 2 v) 20 5 true).run Try.prog w = .ok (.tuple #[.int .u8 0, .bool false]) w := by kernel_rfl
@[go_sem] theorem tis_1_13 (v : Value) (w : World) : (Instr.typeAssert (.iface 2 v) 20 312 true).run Try.prog w = .ok (.tuple #[.int .u16 0, .bool false]) w := by kernel_rfl
@[go_sem] theorem tis_1_14 (v : Value) (w : World) : (Instr.typeAssert (.iface 2 v) 20 280 true).run Try.prog w = .ok (.tuple #[.int .u32 0, .bool false]) w := by kernel_rfl
@[go_sem] theorem tis_2_0 (v : Value) (w : World) : (Instr.typeAssert (.iface 30 v) 20 4 true).run Try.prog w = .ok (.tuple #[.bool false, .bool false]) w := by kernel_rfl
@[go_sem] theorem tis_2_1 (v : Value) (w : World) : (Instr.typeAssert (.iface 30 v) 20 2 true).run Try.prog w = .ok (.tuple #[.int .i64 0, .bool false]) w := by kernel_rfl
@[go_sem] theorem tis_2_2 (v : Value) (w : World) : (Instr.typeAssert (.iface 30 v) 20 30 true).run Try.prog w = .ok (.tuple #[v, .bool true]) w := by kernel_rfl
@[go_sem] theorem tip_2 (v : Value) (w : World) : (Instr.typeAssert (.iface 30 v) 20 30 false).run Try.prog w = .ok v w := by kernel_rfl
@[go_sem] theorem tis_2_3 (v : Value) (w : World) : (Instr.typeAssert (.iface 30 v) 20 9 true).run Try.prog w = .ok (.tuple #[.string ⟨#[]⟩, .bool false]) w := by kernel_rfl
@[go_sem] theorem tis_2_4 (v : Value) (w : World) : (Instr.typeAssert (.iface 30 v) 20 82 true).run Try.prog w = .ok (.tuple #[.slice none 0 0, .bool false]) w := by kernel_rfl
@[go_sem] theorem tis_2_5 (v : Value) (w : World) : (Instr.typeAssert (.iface 30 v) 20 159 true).run Try.prog w = .ok (.tuple #[.map none, .bool false]) w := by kernel_rfl
@[go_sem] theorem tis_2_6 (v : Value) (w : World) : (Instr.typeAssert (.iface 30 v) 20 302 true).run Try.prog w = .ok (.tuple #[.float .f32 0, .bool false]) w := by kernel_rfl
@[go_sem] theorem tis_2_7 (v : Value) (w : World) : (Instr.typeAssert (.iface 30 v) 20 3 true).run Try.prog w = .ok (.tuple #[.int .i64 0, .bool false]) w := by kernel_rfl
@[go_sem] theorem tis_2_8 (v : Value) (w : World) : (Instr.typeAssert (.iface 30 v) 20 304 true).run Try.prog w = .ok (.tuple #[.int .i8 0, .bool false]) w := by kernel_rfl
@[go_sem] theorem tis_2_9 (v : Value) (w : World) : (Instr.typeAssert (.iface 30 v) 20 306 true).run Try.prog w = .ok (.tuple #[.int .i16 0, .bool false]) w := by kernel_rfl
@[go_sem] theorem tis_2_10 (v : Value) (w : World) : (Instr.typeAssert (.iface 30 v) 20 21 true).run Try.prog w = .ok (.tuple #[.int .i32 0, .bool false]) w := by kernel_rfl
@[go_sem] theorem tis_2_11 (v : Value) (w : World) : (Instr.typeAssert (.iface 30 v) 20 309 true).run Try.prog w = .ok (.tuple #[.int .u64 0, .bool false]) w := by kernel_rfl
@[go_sem] theorem tis_2_12 (v : Value) (w : World) : (Instr.typeAssert (.iface 30 v) 20 5 true).run Try.prog w = .ok (.tuple #[.int .u8 0, .bool false]) w := by kernel_rfl
@[go_sem] theorem tis_2_13 (v : Value) (w : World) : (Instr.typeAssert (.iface 30 v) 20 312 true).run Try.prog w = .ok (.tuple #[.int .u16 0, .bool false]) w := by kernel_rfl
@[go_sem] theorem tis_2_14 (v : Value) (w : World) : (Instr.typeAssert (.iface 30 v) 20 280 true).run Try.prog w = .ok (.tuple #[.int .u32 0, .bool false]) w := by kernel_rfl
@[go_sem] theorem tis_3_0 (v : Value) (w : World) : (Instr.typeAssert (.iface 9 v) 20 4 true).run Try.prog w = .ok (.tuple #[.bool false, .bool false]) w := by kernel_rfl
@[go_sem] theorem tis_3_1 (v : Value) (w : World) : (Instr.typeAssert (.iface 9 v) 20 2 true).run Try.prog w = .ok (.tuple #[.int .i64 0, .bool false]) w := by kernel_rfl
@[go_sem] theorem tis_3_2 (v : Value) (w : World) : (Instr.typeAssert (.iface 9 v) 20 30 true).run Try.prog w = .ok (.tuple #[.float .f64 0, .bool false]) w := by kernel_rfl
@[go_sem] theorem tis_3_3 (v : Value) (w : World) : (Instr.typeAssert (.iface 9 v) 20 9 true).run Try.prog w = .ok (.tuple #[v, .bool true]) w := by kernel_rfl
@[go_sem] theorem tip_3 (v : Value) (w : World) : (Instr.typeAssert (.iface 9 v) 20 9 false).run Try.prog w = .ok v w := by kernel_rfl
@[go_sem] theorem tis_3_4 (v : Value) (w : World) : (Instr.typeAssert (.iface 9 v) 20 82 true).run Try.prog w = .ok (.tuple #[.slice none 0 0, .bool false]) w := by kernel_rfl
@[go_sem] theorem tis_3_5 (v : Value) (w : World) : (Instr.typeAssert (.iface 9 v) 20 159 true).run Try.prog w = .ok (.tuple #[.map none, .bool false]) w := by kernel_rfl
@[go_sem] theorem tis_3_6 (v : Value) (w : World) : (Instr.typeAssert (.iface 9 v) 20 302 true).run Try.prog w = .ok (.tuple #[.float .f32 0, .bool false]) w := by kernel_rfl
@[go_sem] theorem tis_3_7 (v : Value) (w : World) : (Instr.typeAssert (.iface 9 v) 20 3 true).run Try.prog w = .ok (.tuple #[.int .i64 0, .bool false]) w := by kernel_rfl
@[go_sem] theorem tis_3_8 (v : Value) (w : World) : (Instr.typeAssert (.iface 9 v) 20 304 true).run Try.prog w = .ok (.tuple #[.int .i8 0, .bool false]) w := by kernel_rfl
@[go_sem] theorem tis_3_9 (v : Value) (w : World) : (Instr.typeAssert (.iface 9 v) 20 306 true).run Try.prog w = .ok (.tuple #[.int .i16 0, .bool false]) w := by kernel_rfl
@[go_sem] theorem tis_3_10 (v : Value) (w : World) : (Instr.typeAssert (.iface 9 v) 20 21 true).run Try.prog w = .ok (.tuple #[.int .i32 0, .bool false]) w := by kernel_rfl
@[go_sem] theorem tis_3_11 (v : Value) (w : World) : (Instr.typeAssert (.iface 9 v) 20 309 true).run Try.prog w = .ok (.tuple #[.int .u64 0, .bool false]) w := by kernel_rfl
@[go_sem] theorem tis_3_12 (v : Value) (w : World) : (Instr.typeAssert (.iface 9 v) 20 5 true).run Try.prog w = .ok (.tuple #[.int .u8 0, .bool false]) w := by kernel_rfl
@[go_sem] theorem tis_3_13 (v : Value) (w : World) : (Instr.typeAssert (.iface 9 v) 20 312 true).run Try.prog w = .ok (.tuple #[.int .u16 0, .bool false]) w := by kernel_rfl
@[go_sem] theorem tis_3_14 (v : Value) (w : World) : (Instr.typeAssert (.iface 9 v) 20 280 true).run Try.prog w = .ok (.tuple #[.int .u32 0, .bool false]) w := by kernel_rfl
@[go_sem] theorem tis_4_0 (v : Value) (w : World) : (Instr.typeAssert (.iface 82 v) 20 4 true).run Try.prog w = .ok (.tuple #[.bool false, .bool false]) w := by kernel_rfl
@[go_sem] theorem tis_4_1 (v : Value) (w : World) : (Instr.typeAssert (.iface 82 v) 20 2 true).run Try.prog w = .ok (.tuple #[.int .i64 0, .bool false]) w := by kernel_rfl
@[go_sem] theorem tis_4_2 (v : Value) (w : World) : (Instr.typeAssert (.iface 82 v) 20 30 true).run Try.prog w = .ok (.tuple #[.float .f64 0, .bool false]) w := by kernel_rfl
@[go_sem] theorem tis_4_3 (v : Value) (w : World) : (Instr.typeAssert (.iface 82 v) 20 9 true).run Try.prog w = .ok (.tuple #[.string ⟨#[]⟩, .bool false]) w := by kernel_rfl
@[go_sem] theorem tis_4_4 (v : Value) (w : World) : (Instr.typeAssert (.iface 82 v) 20 82 true).run Try.prog w = .ok (.tuple #[v, .bool true]) w := by kernel_rfl
@[go_sem] theorem tip_4 (v : Value) (w : World) : (Instr.typeAssert (.iface 82 v) 20 82 false).run Try.prog w = .ok v w := by kernel_rfl
@[go_sem] theorem tis_4_5 (v : Value) (w : World) : (Instr.typeAssert (.iface 82 v) 20 159 true).run Try.prog w = .ok (.tuple #[.map none, .bool false]) w := by kernel_rfl
@[go_sem] theorem tis_4_6 (v : Value) (w : World) : (Instr.typeAssert (.iface 82 v) 20 302 true).run Try.prog w = .ok (.tuple #[.float .f32 0, .bool false]) w := by kernel_rfl
@[go_sem] theorem tis_4_7 (v : Value) (w : World) : (Instr.typeAssert (.iface 82 v) 20 3 true).run Try.prog w = .ok (.tuple #[.int .i64 0, .bool false]) w := by kernel_rfl
@[go_sem] theorem tis_4_8 (v : Value) (w : World) : (Instr.typeAssert (.iface 82 v) 20 304 true).run Try.prog w = .ok (.tuple #[.int .i8 0, .bool false]) w := by kernel_rfl
@[go_sem] theorem tis_4_9 (v : Value) (w : World) : (Instr.typeAssert (.iface 82 v) 20 306 true).run Try.prog w = .ok (.tuple #[.int .i16 0, .bool false]) w := by kernel_rfl
@[go_sem] theorem tis_4_10 (v : Value) (w : World) : (Instr.typeAssert (.iface 82 v) 20 21 true).run Try.prog w = .ok (.tuple #[.int .i32 0, .bool false]) w := by kernel_rfl
@[go_sem] theorem tis_4_11 (v : Value) (w : World) : (Instr.typeAssert (.iface 82 v) 20 309 true).run Try.prog w = .ok (.tuple #[.int .u64 0, .bool false]) w := by kernel_rfl
@[go_sem] theorem tis_4_12 (v : Value) (w : World) : (Instr.typeAssert (.iface 82 v) 20 5 true).run Try.prog w = .ok (.tuple #[.int .u8 0, .bool false]) w := by kernel_rfl
@[go_sem] theorem tis_4_13 (v : Value) (w : World) : (Instr.typeAssert (.iface 82 v) 20 312 true).run Try.prog w = .ok (.tuple #[.int .u16 0, .bool false]) w := by kernel_rfl
@[go_sem] theorem tis_4_14 (v : Value) (w : World) : (Instr.typeAssert (.iface 82 v) 20 280 true).run Try.prog w = .ok (.tuple #[.int .u32 0, .bool false]) w := by kernel_rfl
@[go_sem] theorem tis_5_0 (v : Value) (w : World) : (Instr.typeAssert (.iface 159 v) 20 4 true).run Try.prog w = .ok (.tuple #[.bool false, .bool false]) w := by kernel_rfl
@[go_sem] theorem tis_5_1 (v : Value) (w : World) : (Instr.typeAssert (.iface 159 v) 20 2 true).run Try.prog w = .ok (.tuple #[.int .i64 0, .bool false]) w := by kernel_rfl
@[go_sem] theorem tis_5_2 (v : Value) (w : World) : (Instr.typeAssert (.iface 159 v) 20 30 true).run Try.prog w = .ok (.tuple #[.float .f64 0, .bool false]) w := by kernel_rfl
@[go_sem] theorem tis_5_3 (v : Value) (w : World) : (Instr.typeAssert (.iface 159 v) 20 9 true).run Try.prog w = .ok (.tuple #[.string ⟨#[]⟩, .bool false]) w := by kernel_rfl
@[go_sem] theorem tis_5_4 (v : Value) (w : World) : (Instr.typeAssert (.iface 159 v) 20 82 true).run Try.prog w = .ok (.tuple #[.slice none 0 0, .bool false]) w := by kernel_rfl
@[go_sem] theorem tis_5_5 (v : Value) (w : World) : (Instr.typeAssert (.iface 159 v) 20 159 true).run Try.prog w = .ok (.tuple #[v, .bool true]) w := by kernel_rfl
@[go_sem] theorem tip_5 (v : Value) (w : World) : (Instr.typeAssert (.iface 159 v) 20 159 false).run Try.prog w = .ok v w := by kernel_rfl
@[go_sem] theorem tis_5_6 (v : Value) (w : World) : (Instr.typeAssert (.iface 159 v) 20 302 true).run Try.prog w = .ok (.tuple #[.float .f32 0, .bool false]) w := by kernel_rfl
@[go_sem] theorem tis_5_7 (v : Value) (w : World) : (Instr.typeAssert (.iface 159 v) 20 3 true).run Try.prog w = .ok (.tuple #[.int .i64 0, .bool false]) w := by kernel_rfl
@[go_sem] theorem tis_5_8 (v : Value) (w : World) : (Instr.typeAssert (.iface 159 v) 20 304 true).run Try.prog w = .ok (.tuple #[.int .i8 0, .bool false]) w := by kernel_rfl
@[go_sem] theorem tis_5_9 (v : Value) (w : World) : (Instr.typeAssert (.iface 159 v) 20 306 true).run Try.prog w = .ok (.tuple #[.int .i16 0, .bool false]) w := by kernel_rfl
@[go_sem] theorem tis_5_10 (v : Value) (w : World) : (Instr.typeAssert (.iface 159 v) 20 21 true).run Try.prog w = .ok (.tuple #[.int .i32 0, .bool false]) w := by kernel_rfl
@[go_sem] theorem tis_5_11 (v : Value) (w : World) : (Instr.typeAssert (.iface 159 v) 20 309 true).run Try.prog w = .ok (.tuple #[.int .u64 0, .bool false]) w := by kernel_rfl
@[go_sem] theorem tis_5_12 (v : Value) (w : World) : (Instr.typeAssert (.iface 159 v) 20 5 true).run Try.prog w = .ok (.tuple #[.int .u8 0, .bool false]) w := by kernel_rfl
@[go_sem] theorem tis_5_13 (v : Value) (w : World) : (Instr.typeAssert (.iface 159 v) 20 312 true).run Try.prog w = .ok (.tuple #[.int .u16 0, .bool false]) w := by kernel_rfl
@[go_sem] theorem tis_5_14 (v : Value) (w : World) : (Instr.typeAssert (.iface 159 v) 20 280 true).run Try.prog w = .ok (.tuple #[.int .u32 0, .bool false]) w := by kernel_rfl
set_option maxRecDepth 100000 in
theorem is_IsNull (S : Nat → Prop) (t : Tree) (v : Value) (w : World) (hT : RepT S w t v) : Calls Try.prog 188 #[.agg #[v]] w fun e w' => e = .returned (.bool (kcode t == 0)) ∧ Ext w w' := by
  rcases hT.kform with ⟨hk, rfl⟩ | ⟨hk, b, rfl⟩ | ⟨hk, n, rfl⟩ | ⟨hk, f, rfl⟩ | ⟨hk, s, rfl⟩ | ⟨hk, a, n, c, rfl⟩ | ⟨hk, r, rfl⟩
  all_goals
    rw [hk]
    clear hT hk
    go_enter Try.func188, Try.ntmps188
    go_wp2
    go_ret
    exact ⟨rfl, (Ext.refl _).alloc _⟩
set_option maxRecDepth 100000 in
theorem is_IsBool (S : Nat → Prop) (t : Tree) (v : Value) (w : World) (hT : RepT S w t v) : Calls Try.prog 183 #[.agg #[v]] w fun e w' => e = .returned (.bool (kcode t == 1)) ∧ Ext w w' := by
  rcases hT.kform with ⟨hk, rfl⟩ | ⟨hk, b, rfl⟩ | ⟨hk, n, rfl⟩ | ⟨hk, f, rfl⟩ | ⟨hk, s, rfl⟩ | ⟨hk, a, n, c, rfl⟩ | ⟨hk, r, rfl⟩
  all_goals
    rw [hk]
    clear hT hk
    go_enter Try.func183, Try.ntmps183
    go_wp2
    go_ret
    exact ⟨rfl, (Ext.refl _).alloc _⟩
set_option maxRecDepth 100000 in
theorem is_IsInt (S : Nat → Prop) (t : Tree) (v : Value) (w : World) (hT : RepT S w t v) : Calls Try.prog 185 #[.agg #[v]] w fun e w' => e = .returned (.bool (kcode t == 2)) ∧ Ext w w' := by
  rcases hT.kform with ⟨hk, rfl⟩ | ⟨hk, b, rfl⟩ | ⟨hk, n, rfl⟩ | ⟨hk, f, rfl⟩ | ⟨hk, s, rfl⟩ | ⟨hk, a, n, c, rfl⟩ | ⟨hk, r, rfl⟩
  all_goals
    rw [hk]
    clear hT hk
    go_enter Try.func185, Try.ntmps185
    go_wp2
    go_ret
    exact ⟨rfl, (Ext.refl _).alloc _⟩
set_option maxRecDepth 100000 in
theorem is_IsFloat (S : Nat → Prop) (t : Tree) (v : Value) (w : World) (hT : RepT S w t v) : Calls Try.prog 184 #[.agg #[v]] w fun e w' => e = .returned (.bool (kcode t == 3)) ∧ Ext w w' := by
  rcases hT.kform with ⟨hk, rfl⟩ | ⟨hk, b, rfl⟩ | ⟨hk, n, rfl⟩ | ⟨hk, f, rfl⟩ | ⟨hk, s, rfl⟩ | ⟨hk, a, n, c, rfl⟩ | ⟨hk, r, rfl⟩
  all_goals
    rw [hk]
    clear hT hk
    go_enter Try.func184, Try.ntmps184
    go_wp2
    go_ret
    exact ⟨rfl, (Ext.refl _).alloc _⟩
set_option maxRecDepth 100000 in
theorem is_IsString (S : Nat → Prop) (t : Tree) (v : Value) (w : World) (hT : RepT S w t v) : Calls Try.prog 189 #[.agg #[v]] w fun e w' => e = .returned (.bool (kcode t == 4)) ∧ Ext w w' := by
  rcases hT.kform with ⟨hk, rfl⟩ | ⟨hk, b, rfl⟩ | ⟨hk, n, rfl⟩ | ⟨hk, f, rfl⟩ | ⟨hk, s, rfl⟩ | ⟨hk, a, n, c, rfl⟩ | ⟨hk, r, rfl⟩
  all_goals
    rw [hk]
    clear hT hk
    go_enter Try.func189, Try.ntmps189
    go_wp2
    go_ret
    exact ⟨rfl, (Ext.refl _).alloc _⟩
set_option maxRecDepth 100000 in
theorem is_IsList (S : Nat → Prop) (t : Tree) (v : Value) (w : World) (hT : RepT S w t v) : Calls Try.prog 186 #[.agg #[v]] w fun e w' => e = .returned (.bool (kcode t == 5)) ∧ Ext w w' := by
  rcases hT.kform with ⟨hk, rfl⟩ | ⟨hk, b, rfl⟩ | ⟨hk, n, rfl⟩ | ⟨hk, f, rfl⟩ | ⟨hk, s, rfl⟩ | ⟨hk, a, n, c, rfl⟩ | ⟨hk, r, rfl⟩
  all_goals
    rw [hk]
    clear hT hk
    go_enter Try.func186, Try.ntmps186
    go_wp2
    go_ret
    exact ⟨rfl, (Ext.refl _).alloc _⟩
set_option maxRecDepth 100000 in
theorem is_IsMap (S : Nat → Prop) (t : Tree) (v : Value) (w : World) (hT : RepT S w t v) : Calls Try.prog 187 #[.agg #[v]] w fun e w' => e = .returned (.bool (kcode t == 6)) ∧ Ext w w' := by
  rcases hT.kform with ⟨hk, rfl⟩ | ⟨hk, b, rfl⟩ | ⟨hk, n, rfl⟩ | ⟨hk, f, rfl⟩ | ⟨hk, s, rfl⟩ | ⟨hk, a, n, c, rfl⟩ | ⟨hk, r, rfl⟩
  all_goals
    rw [hk]
    clear hT hk
    go_enter Try.func187, Try.ntmps187
    go_wp2
    go_ret
    exact ⟨rfl, (Ext.refl _).alloc _⟩
set_option maxRecDepth 100000 in
theorem as_AsBool (b : Bool) (w : World) : Calls Try.prog 175 #[.agg #[.iface 4 (.bool b)]] w fun e w' => e = .returned (.bool b) ∧ Ext w w' := by
  go_enter Try.func175, Try.ntmps175
  go_wp2
  go_ret
  exact ⟨rfl, (Ext.refl _).alloc _⟩
set_option maxRecDepth 100000 in
theorem as_AsInt (n : Int) (w : World) : Calls Try.prog 177 #[.agg #[.iface 2 (.int .i64 n)]] w fun e w' => e = .returned (.int .i64 n) ∧ Ext w w' := by
  go_enter Try.func177, Try.ntmps177
  go_wp2
  go_ret
  exact ⟨rfl, (Ext.refl _).alloc _⟩
set_option maxRecDepth 100000 in
theorem as_AsFloat (f : Nat) (w : World) : Calls Try.prog 176 #[.agg #[.iface 30 (.float .f64 f)]] w fun e w' => e = .returned (.float .f64 f) ∧ Ext w w' := by
  go_enter Try.func176, Try.ntmps176
  go_wp2
  go_ret
  exact ⟨rfl, (Ext.refl _).alloc _⟩
set_option maxRecDepth 100000 in
theorem as_AsString (s : ByteArray) (w : World) : Calls Try.prog 182 #[.agg #[.iface 9 (.string s)]] w fun e w' => e = .returned (.string s) ∧ Ext w w' := by
  go_enter Try.func182, Try.ntmps182
  go_wp2
  go_ret
  exact ⟨rfl, (Ext.refl _).alloc _⟩
end Go.Proofs.Ytempfaefopfobaa
