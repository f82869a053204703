/- FnIntAs: a number of one of Go's whole number types is a whole number to the package, with the value that it has in that type; for every input. -/
import Derived.Test.YtbcdddiknhiigaaBase
namespace Go.Proofs.Ytbcdddiknhiigaa.fnIntAs
open Go.ChangeShapes Go.WideShapes Go.ChangeAt Go.RowKit
set_option linter.unusedSimpArgs false
set_option linter.unusedVariables false

theorem loadVU (b : Nat) (x : Value) (w : World) (h : w.cell? ⟨b, 0, none⟩ = some x) : (loadVar 104 ⟨b, 0, none⟩).run Try.prog w = .ok (.agg #[x]) w := by
  simp [loadVar, go_sem, h]
@[go_sem] theorem meth_isint (b : Nat) (x : Value) (w : World) (h : w.cell? ⟨b, 0, none⟩ = some x) :
    (method 294 83 (.pointer (some ⟨b, 0, none⟩)) "IsInt").run Try.prog w = .ok (74, .agg #[x]) w :=
  run_method_ptrval (by kernel_rfl) Try.underlying83 (loadVU b x w h)
@[go_sem] theorem meth_asint (b : Nat) (x : Value) (w : World) (h : w.cell? ⟨b, 0, none⟩ = some x) :
    (method 294 83 (.pointer (some ⟨b, 0, none⟩)) "AsInt").run Try.prog w = .ok (66, .agg #[x]) w :=
  run_method_ptrval (by kernel_rfl) Try.underlying83 (loadVU b x w h)

@[go_sem] theorem ta_int_int (v : Value) (w : World) : (Instr.typeAssert (.iface 3 v) 20 3 true).run Try.prog w = .ok (.tuple #[v, .bool true]) w := by kernel_rfl
@[go_sem] theorem ta_int_int8 (v : Value) (w : World) : (Instr.typeAssert (.iface 3 v) 20 22 true).run Try.prog w = .ok (.tuple #[.int .i8 0, .bool false]) w := by kernel_rfl
@[go_sem] theorem ta_int_int16 (v : Value) (w : World) : (Instr.typeAssert (.iface 3 v) 20 23 true).run Try.prog w = .ok (.tuple #[.int .i16 0, .bool false]) w := by kernel_rfl
@[go_sem] theorem ta_int_int32 (v : Value) (w : World) : (Instr.typeAssert (.iface 3 v) 20 21 true).run Try.prog w = .ok (.tuple #[.int .i32 0, .bool false]) w := by kernel_rfl
@[go_sem] theorem ta_int_uint (v : Value) (w : World) : (Instr.typeAssert (.iface 3 v) 20 88 true).run Try.prog w = .ok (.tuple #[.int .u64 0, .bool false]) w := by kernel_rfl
@[go_sem] theorem ta_int_uint8 (v : Value) (w : World) : (Instr.typeAssert (.iface 3 v) 20 5 true).run Try.prog w = .ok (.tuple #[.int .u8 0, .bool false]) w := by kernel_rfl
@[go_sem] theorem ta_int_uint16 (v : Value) (w : World) : (Instr.typeAssert (.iface 3 v) 20 24 true).run Try.prog w = .ok (.tuple #[.int .u16 0, .bool false]) w := by kernel_rfl
@[go_sem] theorem ta_int_uint32 (v : Value) (w : World) : (Instr.typeAssert (.iface 3 v) 20 25 true).run Try.prog w = .ok (.tuple #[.int .u32 0, .bool false]) w := by kernel_rfl
@[go_sem] theorem ta_int8_int (v : Value) (w : World) : (Instr.typeAssert (.iface 22 v) 20 3 true).run Try.prog w = .ok (.tuple #[.int .i64 0, .bool false]) w := by kernel_rfl
@[go_sem] theorem ta_int8_int8 (v : Value) (w : World) : (Instr.typeAssert (.iface 22 v) 20 22 true).run Try.prog w = .ok (.tuple #[v, .bool true]) w := by kernel_rfl
@[go_sem] theorem ta_int8_int16 (v : Value) (w : World) : (Instr.typeAssert (.iface 22 v) 20 23 true).run Try.prog w = .ok (.tuple #[.int .i16 0, .bool false]) w := by kernel_rfl
@[go_sem] theorem ta_int8_int32 (v : Value) (w : World) : (Instr.typeAssert (.iface 22 v) 20 21 true).run Try.prog w = .ok (.tuple #[.int .i32 0, .bool false]) w := by kernel_rfl
@[go_sem] theorem ta_int8_uint (v : Value) (w : World) : (Instr.typeAssert (.iface 22 v) 20 88 true).run Try.prog w = .ok (.tuple #[.int .u64 0, .bool false]) w := by kernel_rfl
@[go_sem] theorem ta_int8_uint8 (v : Value) (w : World) : (Instr.typeAssert (.iface 22 v) 20 5 true).run Try.prog w = .ok (.tuple #[.int .u8 0, .bool false]) w := by kernel_rfl
@[go_sem] theorem ta_int8_uint16 (v : Value) (w : World) : (Instr.typeAssert (.iface 22 v) 20 24 true).run Try.prog w = .ok (.tuple #[.int .u16 0, .bool false]) w := by kernel_rfl
@[go_sem] theorem ta_int8_uint32 (v : Value) (w : World) : (Instr.typeAssert (.iface 22 v) 20 25 true).run Try.prog w = .ok (.tuple #[.int .u32 0, .bool false]) w := by kernel_rfl
@[go_sem] theorem ta_int16_int (v : Value) (w : World) : (Instr.typeAssert (.iface 23 v) 20 3 true).run Try.prog w = .ok (.tuple #[.int .i64 0, .bool false]) w := by kernel_rfl
@[go_sem] theorem ta_int16_int8 (v : Value) (w : World) : (Instr.typeAssert (.iface 23 v) 20 22 true).run Try.prog w = .ok (.tuple #[.int .i8 0, .bool false]) w := by kernel_rfl
@[go_sem] theorem ta_int16_int16 (v : Value) (w : World) : (Instr.typeAssert (.iface 23 v) 20 23 true).run Try.prog w = .ok (.tuple #[v, .bool true]) w := by kernel_rfl
@[go_sem] theorem ta_int16_int32 (v : Value) (w : World) : (Instr.typeAssert (.iface 23 v) 20 21 true).run Try.prog w = .ok (.tuple #[.int .i32 0, .bool false]) w := by kernel_rfl
@[go_sem] theorem ta_int16_uint (v : Value) (w : World) : (Instr.typeAssert (.iface 23 v) 20 88 true).run Try.prog w = .ok (.tuple #[.int .u64 0, .bool false]) w := by kernel_rfl
@[go_sem] theorem ta_int16_uint8 (v : Value) (w : World) : (Instr.typeAssert (.iface 23 v) 20 5 true).run Try.prog w = .ok (.tuple #[.int .u8 0, .bool false]) w := by kernel_rfl
@[go_sem] theorem ta_int16_uint16 (v : Value) (w : World) : (Instr.typeAssert (.iface 23 v) 20 24 true).run Try.prog w = .ok (.tuple #[.int .u16 0, .bool false]) w := by kernel_rfl
@[go_sem] theorem ta_int16_uint32 (v : Value) (w : World) : (Instr.typeAssert (.iface 23 v) 20 25 true).run Try.prog w = .ok (.tuple #[.int .u32 0, .bool false]) w := by kernel_rfl
@[go_sem] theorem ta_int32_int (v : Value) (w : World) : (Instr.typeAssert (.iface 21 v) 20 3 true).run Try.prog w = .ok (.tuple #[.int .i64 0, .bool false]) w := by kernel_rfl
@[go_sem] theorem ta_int32_int8 (v : Value) (w : World) : (Instr.typeAssert (.iface 21 v) 20 22 true).run Try.prog w = .ok (.tuple #[.int .i8 0, .bool false]) w := by kernel_rfl
@[go_sem] theorem ta_int32_int16 (v : Value) (w : World) : (Instr.typeAssert (.iface 21 v) 20 23 true).run Try.prog w = .ok (.tuple #[.int .i16 0, .bool false]) w := by kernel_rfl
@[go_sem] theorem ta_int32_int32 (v : Value) (w : World) : (Instr.typeAssert (.iface 21 v) 20 21 true).run Try.prog w = .ok (.tuple #[v, .bool true]) w := by kernel_rfl
@[go_sem] theorem ta_int32_uint (v : Value) (w : World) : (Instr.typeAssert (.iface 21 v) 20 88 true).run Try.prog w = .ok (.tuple #[.int .u64 0, .bool false]) w := by kernel_rfl
@[go_sem] theorem ta_int32_uint8 (v : Value) (w : World) : (Instr.typeAssert (.iface 21 v) 20 5 true).run Try.prog w = .ok (.tuple #[.int .u8 0, .bool false]) w := by kernel_rfl
@[go_sem] theorem ta_int32_uint16 (v : Value) (w : World) : (Instr.typeAssert (.iface 21 v) 20 24 true).run Try.prog w = .ok (.tuple #[.int .u16 0, .bool false]) w := by kernel_rfl
@[go_sem] theorem ta_int32_uint32 (v : Value) (w : World) : (Instr.typeAssert (.iface 21 v) 20 25 true).run Try.prog w = .ok (.tuple #[.int .u32 0, .bool false]) w := by kernel_rfl
@[go_sem] theorem ta_int64_int (v : Value) (w : World) : (Instr.typeAssert (.iface 2 v) 20 3 true).run Try.prog w = .ok (.tuple #[.int .i64 0, .bool false]) w := by kernel_rfl
@[go_sem] theorem ta_int64_int8 (v : Value) (w : World) : (Instr.typeAssert (.iface 2 v) 20 22 true).run Try.prog w = .ok (.tuple #[.int .i8 0, .bool false]) w := by kernel_rfl
@[go_sem] theorem ta_int64_int16 (v : Value) (w : World) : (Instr.typeAssert (.iface 2 v) 20 23 true).run Try.prog w = .ok (.tuple #[.int .i16 0, .bool false]) w := by kernel_rfl
@[go_sem] theorem ta_int64_int32 (v : Value) (w : World) : (Instr.typeAssert (.iface 2 v) 20 21 true).run Try.prog w = .ok (.tuple #[.int .i32 0, .bool false]) w := by kernel_rfl
@[go_sem] theorem ta_int64_int64 (v : Value) (w : World) : (Instr.typeAssert (.iface 2 v) 20 2 true).run Try.prog w = .ok (.tuple #[v, .bool true]) w := by kernel_rfl
@[go_sem] theorem ta_int64_uint (v : Value) (w : World) : (Instr.typeAssert (.iface 2 v) 20 88 true).run Try.prog w = .ok (.tuple #[.int .u64 0, .bool false]) w := by kernel_rfl
@[go_sem] theorem ta_int64_uint8 (v : Value) (w : World) : (Instr.typeAssert (.iface 2 v) 20 5 true).run Try.prog w = .ok (.tuple #[.int .u8 0, .bool false]) w := by kernel_rfl
@[go_sem] theorem ta_int64_uint16 (v : Value) (w : World) : (Instr.typeAssert (.iface 2 v) 20 24 true).run Try.prog w = .ok (.tuple #[.int .u16 0, .bool false]) w := by kernel_rfl
@[go_sem] theorem ta_int64_uint32 (v : Value) (w : World) : (Instr.typeAssert (.iface 2 v) 20 25 true).run Try.prog w = .ok (.tuple #[.int .u32 0, .bool false]) w := by kernel_rfl
@[go_sem] theorem ta_uint8_int (v : Value) (w : World) : (Instr.typeAssert (.iface 5 v) 20 3 true).run Try.prog w = .ok (.tuple #[.int .i64 0, .bool false]) w := by kernel_rfl
@[go_sem] theorem ta_uint8_int8 (v : Value) (w : World) : (Instr.typeAssert (.iface 5 v) 20 22 true).run Try.prog w = .ok (.tuple #[.int .i8 0, .bool false]) w := by kernel_rfl
@[go_sem] theorem ta_uint8_int16 (v : Value) (w : World) : (Instr.typeAssert (.iface 5 v) 20 23 true).run Try.prog w = .ok (.tuple #[.int .i16 0, .bool false]) w := by kernel_rfl
@[go_sem] theorem ta_uint8_int32 (v : Value) (w : World) : (Instr.typeAssert (.iface 5 v) 20 21 true).run Try.prog w = .ok (.tuple #[.int .i32 0, .bool false]) w := by kernel_rfl
@[go_sem] theorem ta_uint8_int64 (v : Value) (w : World) : (Instr.typeAssert (.iface 5 v) 20 2 true).run Try.prog w = .ok (.tuple #[.int .i64 0, .bool false]) w := by kernel_rfl
@[go_sem] theorem ta_uint8_uint (v : Value) (w : World) : (Instr.typeAssert (.iface 5 v) 20 88 true).run Try.prog w = .ok (.tuple #[.int .u64 0, .bool false]) w := by kernel_rfl
@[go_sem] theorem ta_uint8_uint8 (v : Value) (w : World) : (Instr.typeAssert (.iface 5 v) 20 5 true).run Try.prog w = .ok (.tuple #[v, .bool true]) w := by kernel_rfl
@[go_sem] theorem ta_uint8_uint16 (v : Value) (w : World) : (Instr.typeAssert (.iface 5 v) 20 24 true).run Try.prog w = .ok (.tuple #[.int .u16 0, .bool false]) w := by kernel_rfl
@[go_sem] theorem ta_uint8_uint32 (v : Value) (w : World) : (Instr.typeAssert (.iface 5 v) 20 25 true).run Try.prog w = .ok (.tuple #[.int .u32 0, .bool false]) w := by kernel_rfl
@[go_sem] theorem ta_uint16_int (v : Value) (w : World) : (Instr.typeAssert (.iface 24 v) 20 3 true).run Try.prog w = .ok (.tuple #[.int .i64 0, .bool false]) w := by kernel_rfl
@[go_sem] theorem ta_uint16_int8 (v : Value) (w : World) : (Instr.typeAssert (.iface 24 v) 20 22 true).run Try.prog w = .ok (.tuple #[.int .i8 0, .bool false]) w := by kernel_rfl
@[go_sem] theorem ta_uint16_int16 (v : Value) (w : World) : (Instr.typeAssert (.iface 24 v) 20 23 true).run Try.prog w = .ok (.tuple #[.int .i16 0, .bool false]) w := by kernel_rfl
@[go_sem] theorem ta_uint16_int32 (v : Value) (w : World) : (Instr.typeAssert (.iface 24 v) 20 21 true).run Try.prog w = .ok (.tuple #[.int .i32 0, .bool false]) w := by kernel_rfl
@[go_sem] theorem ta_uint16_int64 (v : Value) (w : World) : (Instr.typeAssert (.iface 24 v) 20 2 true).run Try.prog w = .ok (.tuple #[.int .i64 0, .bool false]) w := by kernel_rfl
@[go_sem] theorem ta_uint16_uint (v : Value) (w : World) : (Instr.typeAssert (.iface 24 v) 20 88 true).run Try.prog w = .ok (.tuple #[.int .u64 0, .bool false]) w := by kernel_rfl
@[go_sem] theorem ta_uint16_uint8 (v : Value) (w : World) : (Instr.typeAssert (.iface 24 v) 20 5 true).run Try.prog w = .ok (.tuple #[.int .u8 0, .bool false]) w := by kernel_rfl
@[go_sem] theorem ta_uint16_uint16 (v : Value) (w : World) : (Instr.typeAssert (.iface 24 v) 20 24 true).run Try.prog w = .ok (.tuple #[v, .bool true]) w := by kernel_rfl
@[go_sem] theorem ta_uint16_uint32 (v : Value) (w : World) : (Instr.typeAssert (.iface 24 v) 20 25 true).run Try.prog w = .ok (.tuple #[.int .u32 0, .bool false]) w := by kernel_rfl
@[go_sem] theorem ta_uint32_int (v : Value) (w : World) : (Instr.typeAssert (.iface 25 v) 20 3 true).run Try.prog w = .ok (.tuple #[.int .i64 0, .bool false]) w := by kernel_rfl
@[go_sem] theorem ta_uint32_int8 (v : Value) (w : World) : (Instr.typeAssert (.iface 25 v) 20 22 true).run Try.prog w = .ok (.tuple #[.int .i8 0, .bool false]) w := by kernel_rfl
@[go_sem] theorem ta_uint32_int16 (v : Value) (w : World) : (Instr.typeAssert (.iface 25 v) 20 23 true).run Try.prog w = .ok (.tuple #[.int .i16 0, .bool false]) w := by kernel_rfl
@[go_sem] theorem ta_uint32_int32 (v : Value) (w : World) : (Instr.typeAssert (.iface 25 v) 20 21 true).run Try.prog w = .ok (.tuple #[.int .i32 0, .bool false]) w := by kernel_rfl
@[go_sem] theorem ta_uint32_int64 (v : Value) (w : World) : (Instr.typeAssert (.iface 25 v) 20 2 true).run Try.prog w = .ok (.tuple #[.int .i64 0, .bool false]) w := by kernel_rfl
@[go_sem] theorem ta_uint32_uint (v : Value) (w : World) : (Instr.typeAssert (.iface 25 v) 20 88 true).run Try.prog w = .ok (.tuple #[.int .u64 0, .bool false]) w := by kernel_rfl
@[go_sem] theorem ta_uint32_uint8 (v : Value) (w : World) : (Instr.typeAssert (.iface 25 v) 20 5 true).run Try.prog w = .ok (.tuple #[.int .u8 0, .bool false]) w := by kernel_rfl
@[go_sem] theorem ta_uint32_uint16 (v : Value) (w : World) : (Instr.typeAssert (.iface 25 v) 20 24 true).run Try.prog w = .ok (.tuple #[.int .u16 0, .bool false]) w := by kernel_rfl
@[go_sem] theorem ta_uint32_uint32 (v : Value) (w : World) : (Instr.typeAssert (.iface 25 v) 20 25 true).run Try.prog w = .ok (.tuple #[v, .bool true]) w := by kernel_rfl
@[go_sem] theorem tp_int64 (v : Value) (w : World) : (Instr.typeAssert (.iface 2 v) 20 2 false).run Try.prog w = .ok v w := by kernel_rfl

set_option maxRecDepth 100000 in
theorem isint_int (n : Int) (w : World) : Calls Try.prog 74 #[.agg #[.iface 3 (.int .i64 n)]] w fun e w' => e = .returned (.bool true) ∧ Ext w w' := by
  go_enter Try.func74, Try.ntmps74
  go_wp2
  go_ret
  exact ⟨rfl, (Ext.refl _).alloc _⟩
set_option maxRecDepth 100000 in
theorem asint_int (n : Int) (hn : wrap64 n = n) (w : World) : Calls Try.prog 66 #[.agg #[.iface 3 (.int .i64 n)]] w fun e w' => e = .returned (.int .i64 n) ∧ Ext w w' := by
  have H := hid hn
  clear hn
  go_enter Try.func66, Try.ntmps66
  go_wp2
  go_ret
  refine ⟨?_, (Ext.refl _).alloc _⟩
  first | rfl | exact congrArg (fun x => Ending.returned (.int .i64 x)) H.out

set_option maxRecDepth 100000 in
theorem isint_int8 (n : Int) (w : World) : Calls Try.prog 74 #[.agg #[.iface 22 (.int .i8 n)]] w fun e w' => e = .returned (.bool true) ∧ Ext w w' := by
  go_enter Try.func74, Try.ntmps74
  go_wp2
  go_ret
  exact ⟨rfl, (Ext.refl _).alloc _⟩
set_option maxRecDepth 100000 in
theorem asint_int8 (n : Int) (hn : wrap64 n = n) (w : World) : Calls Try.prog 66 #[.agg #[.iface 22 (.int .i8 n)]] w fun e w' => e = .returned (.int .i64 n) ∧ Ext w w' := by
  have H := hid hn
  clear hn
  go_enter Try.func66, Try.ntmps66
  go_wp2
  go_ret
  refine ⟨?_, (Ext.refl _).alloc _⟩
  first | rfl | exact congrArg (fun x => Ending.returned (.int .i64 x)) H.out

set_option maxRecDepth 100000 in
theorem isint_int16 (n : Int) (w : World) : Calls Try.prog 74 #[.agg #[.iface 23 (.int .i16 n)]] w fun e w' => e = .returned (.bool true) ∧ Ext w w' := by
  go_enter Try.func74, Try.ntmps74
  go_wp2
  go_ret
  exact ⟨rfl, (Ext.refl _).alloc _⟩
set_option maxRecDepth 100000 in
theorem asint_int16 (n : Int) (hn : wrap64 n = n) (w : World) : Calls Try.prog 66 #[.agg #[.iface 23 (.int .i16 n)]] w fun e w' => e = .returned (.int .i64 n) ∧ Ext w w' := by
  have H := hid hn
  clear hn
  go_enter Try.func66, Try.ntmps66
  go_wp2
  go_ret
  refine ⟨?_, (Ext.refl _).alloc _⟩
  first | rfl | exact congrArg (fun x => Ending.returned (.int .i64 x)) H.out

set_option maxRecDepth 100000 in
theorem isint_int32 (n : Int) (w : World) : Calls Try.prog 74 #[.agg #[.iface 21 (.int .i32 n)]] w fun e w' => e = .returned (.bool true) ∧ Ext w w' := by
  go_enter Try.func74, Try.ntmps74
  go_wp2
  go_ret
  exact ⟨rfl, (Ext.refl _).alloc _⟩
set_option maxRecDepth 100000 in
theorem asint_int32 (n : Int) (hn : wrap64 n = n) (w : World) : Calls Try.prog 66 #[.agg #[.iface 21 (.int .i32 n)]] w fun e w' => e = .returned (.int .i64 n) ∧ Ext w w' := by
  have H := hid hn
  clear hn
  go_enter Try.func66, Try.ntmps66
  go_wp2
  go_ret
  refine ⟨?_, (Ext.refl _).alloc _⟩
  first | rfl | exact congrArg (fun x => Ending.returned (.int .i64 x)) H.out

set_option maxRecDepth 100000 in
theorem isint_int64 (n : Int) (w : World) : Calls Try.prog 74 #[.agg #[.iface 2 (.int .i64 n)]] w fun e w' => e = .returned (.bool true) ∧ Ext w w' := by
  go_enter Try.func74, Try.ntmps74
  go_wp2
  go_ret
  exact ⟨rfl, (Ext.refl _).alloc _⟩
set_option maxRecDepth 100000 in
theorem asint_int64 (n : Int) (hn : wrap64 n = n) (w : World) : Calls Try.prog 66 #[.agg #[.iface 2 (.int .i64 n)]] w fun e w' => e = .returned (.int .i64 n) ∧ Ext w w' := by
  have H := hid hn
  clear hn
  go_enter Try.func66, Try.ntmps66
  go_wp2
  go_ret
  refine ⟨?_, (Ext.refl _).alloc _⟩
  first | rfl | exact congrArg (fun x => Ending.returned (.int .i64 x)) H.out

set_option maxRecDepth 100000 in
theorem isint_uint8 (n : Int) (w : World) : Calls Try.prog 74 #[.agg #[.iface 5 (.int .u8 n)]] w fun e w' => e = .returned (.bool true) ∧ Ext w w' := by
  go_enter Try.func74, Try.ntmps74
  go_wp2
  go_ret
  exact ⟨rfl, (Ext.refl _).alloc _⟩
set_option maxRecDepth 100000 in
theorem asint_uint8 (n : Int) (hn : wrap64 n = n) (w : World) : Calls Try.prog 66 #[.agg #[.iface 5 (.int .u8 n)]] w fun e w' => e = .returned (.int .i64 n) ∧ Ext w w' := by
  have H := hid hn
  clear hn
  go_enter Try.func66, Try.ntmps66
  go_wp2
  go_ret
  refine ⟨?_, (Ext.refl _).alloc _⟩
  first | rfl | exact congrArg (fun x => Ending.returned (.int .i64 x)) H.out

set_option maxRecDepth 100000 in
theorem isint_uint16 (n : Int) (w : World) : Calls Try.prog 74 #[.agg #[.iface 24 (.int .u16 n)]] w fun e w' => e = .returned (.bool true) ∧ Ext w w' := by
  go_enter Try.func74, Try.ntmps74
  go_wp2
  go_ret
  exact ⟨rfl, (Ext.refl _).alloc _⟩
set_option maxRecDepth 100000 in
theorem asint_uint16 (n : Int) (hn : wrap64 n = n) (w : World) : Calls Try.prog 66 #[.agg #[.iface 24 (.int .u16 n)]] w fun e w' => e = .returned (.int .i64 n) ∧ Ext w w' := by
  have H := hid hn
  clear hn
  go_enter Try.func66, Try.ntmps66
  go_wp2
  go_ret
  refine ⟨?_, (Ext.refl _).alloc _⟩
  first | rfl | exact congrArg (fun x => Ending.returned (.int .i64 x)) H.out

set_option maxRecDepth 100000 in
theorem isint_uint32 (n : Int) (w : World) : Calls Try.prog 74 #[.agg #[.iface 25 (.int .u32 n)]] w fun e w' => e = .returned (.bool true) ∧ Ext w w' := by
  go_enter Try.func74, Try.ntmps74
  go_wp2
  go_ret
  exact ⟨rfl, (Ext.refl _).alloc _⟩
set_option maxRecDepth 100000 in
theorem asint_uint32 (n : Int) (hn : wrap64 n = n) (w : World) : Calls Try.prog 66 #[.agg #[.iface 25 (.int .u32 n)]] w fun e w' => e = .returned (.int .i64 n) ∧ Ext w w' := by
  have H := hid hn
  clear hn
  go_enter Try.func66, Try.ntmps66
  go_wp2
  go_ret
  refine ⟨?_, (Ext.refl _).alloc _⟩
  first | rfl | exact congrArg (fun x => Ending.returned (.int .i64 x)) H.out

theorem nvi_any (t : TypeId) (x : Value) (w : World) :
    Calls Try.prog 14 #[.iface t x] w fun e w' => ∃ b, e = .returned (.iface 83 (.pointer (some ⟨b, 0, none⟩))) ∧ w'.cell? ⟨b, 0, none⟩ = some (.iface t x) ∧ Ext w w' := by
  go_enter Try.func14, Try.ntmps14
  go_wp2
  go_ret
  exact ⟨w.heap.size + 1, rfl, by simp, ((Ext.refl _).alloc _).alloc _⟩

set_option maxRecDepth 100000 in
theorem number_int (n : Int) (hn : wrap64 n = n) (w : World) : Calls Try.prog 15 #[.int .i64 0, .int .i64 n] w fun e w' => e = .returned (.iface 3 (.int .i64 (n))) ∧ w = w' := by
  go_enter Try.func15, Try.ntmps15
  go_wp2
  go_ret
  exact ⟨rfl, rfl⟩
theorem wrapw_int (n : Int) (hn : wrap64 n = n) : wrap64 (n) = n := by first | exact hn | (simp [wrap64, wrap32, IntKind.wrap, IntKind.signed, IntKind.bits]; omega)
set_option maxRecDepth 100000 in
theorem intas_int (n : Int) (hn : wrap64 n = n) (w : World) : Calls Try.prog 6 #[.int .i64 0, .int .i64 n] w fun e w' => e = .returned (.tuple #[.int .i64 (n), .bool true]) ∧ Ext w w' := by
  go_enter Try.func6, Try.ntmps6
  go_wp2_with (first | (go_at_call 15; refine (number_int n hn _).mono ?_; rintro e w' ⟨rfl, rfl⟩) | (go_at_call 14; refine (nvi_any _ _ _).mono ?_; rintro e w' ⟨b, rfl, hc, hg⟩) | (go_at_call 74; refine (isint_int _ _).mono ?_; rintro e w2 ⟨rfl, hg2⟩; have hc2 := hg2.cellS hc) | (go_at_call 66; refine (asint_int _ (wrapw_int n hn) _).mono ?_; rintro e w3 ⟨rfl, hg3⟩))
  go_ret2
  exact ⟨rfl, (hg.trans hg2).trans hg3⟩

set_option maxRecDepth 100000 in
theorem number_int8 (n : Int) (hn : wrap64 n = n) (w : World) : Calls Try.prog 15 #[.int .i64 1, .int .i64 n] w fun e w' => e = .returned (.iface 22 (.int .i8 (IntKind.i8.wrap n))) ∧ w = w' := by
  go_enter Try.func15, Try.ntmps15
  go_wp2
  go_ret
  exact ⟨rfl, rfl⟩
theorem wrapw_int8 (n : Int) (hn : wrap64 n = n) : wrap64 (IntKind.i8.wrap n) = IntKind.i8.wrap n := by first | exact hn | (simp [wrap64, wrap32, IntKind.wrap, IntKind.signed, IntKind.bits]; omega)
set_option maxRecDepth 100000 in
theorem intas_int8 (n : Int) (hn : wrap64 n = n) (w : World) : Calls Try.prog 6 #[.int .i64 1, .int .i64 n] w fun e w' => e = .returned (.tuple #[.int .i64 (IntKind.i8.wrap n), .bool true]) ∧ Ext w w' := by
  go_enter Try.func6, Try.ntmps6
  go_wp2_with (first | (go_at_call 15; refine (number_int8 n hn _).mono ?_; rintro e w' ⟨rfl, rfl⟩) | (go_at_call 14; refine (nvi_any _ _ _).mono ?_; rintro e w' ⟨b, rfl, hc, hg⟩) | (go_at_call 74; refine (isint_int8 _ _).mono ?_; rintro e w2 ⟨rfl, hg2⟩; have hc2 := hg2.cellS hc) | (go_at_call 66; refine (asint_int8 _ (wrapw_int8 n hn) _).mono ?_; rintro e w3 ⟨rfl, hg3⟩))
  go_ret2
  exact ⟨rfl, (hg.trans hg2).trans hg3⟩

set_option maxRecDepth 100000 in
theorem number_int16 (n : Int) (hn : wrap64 n = n) (w : World) : Calls Try.prog 15 #[.int .i64 2, .int .i64 n] w fun e w' => e = .returned (.iface 23 (.int .i16 (IntKind.i16.wrap n))) ∧ w = w' := by
  go_enter Try.func15, Try.ntmps15
  go_wp2
  go_ret
  exact ⟨rfl, rfl⟩
theorem wrapw_int16 (n : Int) (hn : wrap64 n = n) : wrap64 (IntKind.i16.wrap n) = IntKind.i16.wrap n := by first | exact hn | (simp [wrap64, wrap32, IntKind.wrap, IntKind.signed, IntKind.bits]; omega)
set_option maxRecDepth 100000 in
theorem intas_int16 (n : Int) (hn : wrap64 n = n) (w : World) : Calls Try.prog 6 #[.int .i64 2, .int .i64 n] w fun e w' => e = .returned (.tuple #[.int .i64 (IntKind.i16.wrap n), .bool true]) ∧ Ext w w' := by
  go_enter Try.func6, Try.ntmps6
  go_wp2_with (first | (go_at_call 15; refine (number_int16 n hn _).mono ?_; rintro e w' ⟨rfl, rfl⟩) | (go_at_call 14; refine (nvi_any _ _ _).mono ?_; rintro e w' ⟨b, rfl, hc, hg⟩) | (go_at_call 74; refine (isint_int16 _ _).mono ?_; rintro e w2 ⟨rfl, hg2⟩; have hc2 := hg2.cellS hc) | (go_at_call 66; refine (asint_int16 _ (wrapw_int16 n hn) _).mono ?_; rintro e w3 ⟨rfl, hg3⟩))
  go_ret2
  exact ⟨rfl, (hg.trans hg2).trans hg3⟩

set_option maxRecDepth 100000 in
theorem number_int32 (n : Int) (hn : wrap64 n = n) (w : World) : Calls Try.prog 15 #[.int .i64 3, .int .i64 n] w fun e w' => e = .returned (.iface 21 (.int .i32 (wrap32 n))) ∧ w = w' := by
  go_enter Try.func15, Try.ntmps15
  go_wp2
  go_ret
  exact ⟨rfl, rfl⟩
theorem wrapw_int32 (n : Int) (hn : wrap64 n = n) : wrap64 (wrap32 n) = wrap32 n := by first | exact hn | (simp [wrap64, wrap32, IntKind.wrap, IntKind.signed, IntKind.bits]; omega)
set_option maxRecDepth 100000 in
theorem intas_int32 (n : Int) (hn : wrap64 n = n) (w : World) : Calls Try.prog 6 #[.int .i64 3, .int .i64 n] w fun e w' => e = .returned (.tuple #[.int .i64 (wrap32 n), .bool true]) ∧ Ext w w' := by
  go_enter Try.func6, Try.ntmps6
  go_wp2_with (first | (go_at_call 15; refine (number_int32 n hn _).mono ?_; rintro e w' ⟨rfl, rfl⟩) | (go_at_call 14; refine (nvi_any _ _ _).mono ?_; rintro e w' ⟨b, rfl, hc, hg⟩) | (go_at_call 74; refine (isint_int32 _ _).mono ?_; rintro e w2 ⟨rfl, hg2⟩; have hc2 := hg2.cellS hc) | (go_at_call 66; refine (asint_int32 _ (wrapw_int32 n hn) _).mono ?_; rintro e w3 ⟨rfl, hg3⟩))
  go_ret2
  exact ⟨rfl, (hg.trans hg2).trans hg3⟩

set_option maxRecDepth 100000 in
theorem number_uint8 (n : Int) (hn : wrap64 n = n) (w : World) : Calls Try.prog 15 #[.int .i64 6, .int .i64 n] w fun e w' => e = .returned (.iface 5 (.int .u8 (IntKind.u8.wrap n))) ∧ w = w' := by
  go_enter Try.func15, Try.ntmps15
  go_wp2
  go_ret
  exact ⟨rfl, rfl⟩
theorem wrapw_uint8 (n : Int) (hn : wrap64 n = n) : wrap64 (IntKind.u8.wrap n) = IntKind.u8.wrap n := by first | exact hn | (simp [wrap64, wrap32, IntKind.wrap, IntKind.signed, IntKind.bits]; omega)
set_option maxRecDepth 100000 in
theorem intas_uint8 (n : Int) (hn : wrap64 n = n) (w : World) : Calls Try.prog 6 #[.int .i64 6, .int .i64 n] w fun e w' => e = .returned (.tuple #[.int .i64 (IntKind.u8.wrap n), .bool true]) ∧ Ext w w' := by
  go_enter Try.func6, Try.ntmps6
  go_wp2_with (first | (go_at_call 15; refine (number_uint8 n hn _).mono ?_; rintro e w' ⟨rfl, rfl⟩) | (go_at_call 14; refine (nvi_any _ _ _).mono ?_; rintro e w' ⟨b, rfl, hc, hg⟩) | (go_at_call 74; refine (isint_uint8 _ _).mono ?_; rintro e w2 ⟨rfl, hg2⟩; have hc2 := hg2.cellS hc) | (go_at_call 66; refine (asint_uint8 _ (wrapw_uint8 n hn) _).mono ?_; rintro e w3 ⟨rfl, hg3⟩))
  go_ret2
  exact ⟨rfl, (hg.trans hg2).trans hg3⟩

set_option maxRecDepth 100000 in
theorem number_uint16 (n : Int) (hn : wrap64 n = n) (w : World) : Calls Try.prog 15 #[.int .i64 7, .int .i64 n] w fun e w' => e = .returned (.iface 24 (.int .u16 (IntKind.u16.wrap n))) ∧ w = w' := by
  go_enter Try.func15, Try.ntmps15
  go_wp2
  go_ret
  exact ⟨rfl, rfl⟩
theorem wrapw_uint16 (n : Int) (hn : wrap64 n = n) : wrap64 (IntKind.u16.wrap n) = IntKind.u16.wrap n := by first | exact hn | (simp [wrap64, wrap32, IntKind.wrap, IntKind.signed, IntKind.bits]; omega)
set_option maxRecDepth 100000 in
theorem intas_uint16 (n : Int) (hn : wrap64 n = n) (w : World) : Calls Try.prog 6 #[.int .i64 7, .int .i64 n] w fun e w' => e = .returned (.tuple #[.int .i64 (IntKind.u16.wrap n), .bool true]) ∧ Ext w w' := by
  go_enter Try.func6, Try.ntmps6
  go_wp2_with (first | (go_at_call 15; refine (number_uint16 n hn _).mono ?_; rintro e w' ⟨rfl, rfl⟩) | (go_at_call 14; refine (nvi_any _ _ _).mono ?_; rintro e w' ⟨b, rfl, hc, hg⟩) | (go_at_call 74; refine (isint_uint16 _ _).mono ?_; rintro e w2 ⟨rfl, hg2⟩; have hc2 := hg2.cellS hc) | (go_at_call 66; refine (asint_uint16 _ (wrapw_uint16 n hn) _).mono ?_; rintro e w3 ⟨rfl, hg3⟩))
  go_ret2
  exact ⟨rfl, (hg.trans hg2).trans hg3⟩

set_option maxRecDepth 100000 in
theorem number_uint32 (n : Int) (hn : wrap64 n = n) (w : World) : Calls Try.prog 15 #[.int .i64 8, .int .i64 n] w fun e w' => e = .returned (.iface 25 (.int .u32 (IntKind.u32.wrap n))) ∧ w = w' := by
  go_enter Try.func15, Try.ntmps15
  go_wp2
  go_ret
  exact ⟨rfl, rfl⟩
theorem wrapw_uint32 (n : Int) (hn : wrap64 n = n) : wrap64 (IntKind.u32.wrap n) = IntKind.u32.wrap n := by first | exact hn | (simp [wrap64, wrap32, IntKind.wrap, IntKind.signed, IntKind.bits]; omega)
set_option maxRecDepth 100000 in
theorem intas_uint32 (n : Int) (hn : wrap64 n = n) (w : World) : Calls Try.prog 6 #[.int .i64 8, .int .i64 n] w fun e w' => e = .returned (.tuple #[.int .i64 (IntKind.u32.wrap n), .bool true]) ∧ Ext w w' := by
  go_enter Try.func6, Try.ntmps6
  go_wp2_with (first | (go_at_call 15; refine (number_uint32 n hn _).mono ?_; rintro e w' ⟨rfl, rfl⟩) | (go_at_call 14; refine (nvi_any _ _ _).mono ?_; rintro e w' ⟨b, rfl, hc, hg⟩) | (go_at_call 74; refine (isint_uint32 _ _).mono ?_; rintro e w2 ⟨rfl, hg2⟩; have hc2 := hg2.cellS hc) | (go_at_call 66; refine (asint_uint32 _ (wrapw_uint32 n hn) _).mono ?_; rintro e w3 ⟨rfl, hg3⟩))
  go_ret2
  exact ⟨rfl, (hg.trans hg2).trans hg3⟩

set_option maxRecDepth 100000 in
theorem number_int64 (n : Int) (hn : wrap64 n = n) (c : Int) (h0 : c ≠ 0) (h1 : c ≠ 1) (h2 : c ≠ 2) (h3 : c ≠ 3) (h5 : c ≠ 5) (h6 : c ≠ 6) (h7 : c ≠ 7) (h8 : c ≠ 8) (w : World) : Calls Try.prog 15 #[.int .i64 c, .int .i64 n] w fun e w' => e = .returned (.iface 2 (.int .i64 (n))) ∧ w = w' := by
  go_enter Try.func15, Try.ntmps15
  go_wp2
  go_ret
  exact ⟨rfl, rfl⟩
theorem wrapw_int64 (n : Int) (hn : wrap64 n = n) : wrap64 (n) = n := by first | exact hn | (simp [wrap64, wrap32, IntKind.wrap, IntKind.signed, IntKind.bits]; omega)
set_option maxRecDepth 100000 in
theorem intas_int64 (n : Int) (hn : wrap64 n = n) (c : Int) (h0 : c ≠ 0) (h1 : c ≠ 1) (h2 : c ≠ 2) (h3 : c ≠ 3) (h5 : c ≠ 5) (h6 : c ≠ 6) (h7 : c ≠ 7) (h8 : c ≠ 8) (w : World) : Calls Try.prog 6 #[.int .i64 c, .int .i64 n] w fun e w' => e = .returned (.tuple #[.int .i64 (n), .bool true]) ∧ Ext w w' := by
  go_enter Try.func6, Try.ntmps6
  go_wp2_with (first | (go_at_call 15; refine (number_int64 n hn c h0 h1 h2 h3 h5 h6 h7 h8 _).mono ?_; rintro e w' ⟨rfl, rfl⟩) | (go_at_call 14; refine (nvi_any _ _ _).mono ?_; rintro e w' ⟨b, rfl, hc, hg⟩) | (go_at_call 74; refine (isint_int64 _ _).mono ?_; rintro e w2 ⟨rfl, hg2⟩; have hc2 := hg2.cellS hc) | (go_at_call 66; refine (asint_int64 _ (wrapw_int64 n hn) _).mono ?_; rintro e w3 ⟨rfl, hg3⟩))
  go_ret2
  exact ⟨rfl, (hg.trans hg2).trans hg3⟩

set_option maxRecDepth 100000 in
theorem law_int (n : Int) (hn : wrap64 n = n) (w : World) : Calls Try.prog 3 #[.int .i64 0, .int .i64 n] w fun e w' => e = .returned (.bool true) ∧ Ext w w' := by
  have hr := wrapw_int n hn
  go_enter Try.func3, Try.ntmps3
  go_wp2_with (go_at_call 6; refine (intas_int n hn _).mono ?_; rintro e w' ⟨rfl, hg⟩)
  go_ret
  exact ⟨by simp, hg⟩

set_option maxRecDepth 100000 in
theorem law_int8 (n : Int) (hn : wrap64 n = n) (w : World) : Calls Try.prog 3 #[.int .i64 1, .int .i64 n] w fun e w' => e = .returned (.bool true) ∧ Ext w w' := by
  have hr := wrapw_int8 n hn
  go_enter Try.func3, Try.ntmps3
  go_wp2_with (go_at_call 6; refine (intas_int8 n hn _).mono ?_; rintro e w' ⟨rfl, hg⟩)
  go_ret
  exact ⟨by simp, hg⟩

set_option maxRecDepth 100000 in
theorem law_int16 (n : Int) (hn : wrap64 n = n) (w : World) : Calls Try.prog 3 #[.int .i64 2, .int .i64 n] w fun e w' => e = .returned (.bool true) ∧ Ext w w' := by
  have hr := wrapw_int16 n hn
  go_enter Try.func3, Try.ntmps3
  go_wp2_with (go_at_call 6; refine (intas_int16 n hn _).mono ?_; rintro e w' ⟨rfl, hg⟩)
  go_ret
  exact ⟨by simp, hg⟩

set_option maxRecDepth 100000 in
theorem law_int32 (n : Int) (hn : wrap64 n = n) (w : World) : Calls Try.prog 3 #[.int .i64 3, .int .i64 n] w fun e w' => e = .returned (.bool true) ∧ Ext w w' := by
  have hr := wrapw_int32 n hn
  go_enter Try.func3, Try.ntmps3
  go_wp2_with (go_at_call 6; refine (intas_int32 n hn _).mono ?_; rintro e w' ⟨rfl, hg⟩)
  go_ret
  exact ⟨by simp, hg⟩

set_option maxRecDepth 100000 in
theorem law_uint8 (n : Int) (hn : wrap64 n = n) (w : World) : Calls Try.prog 3 #[.int .i64 6, .int .i64 n] w fun e w' => e = .returned (.bool true) ∧ Ext w w' := by
  have hr := wrapw_uint8 n hn
  go_enter Try.func3, Try.ntmps3
  go_wp2_with (go_at_call 6; refine (intas_uint8 n hn _).mono ?_; rintro e w' ⟨rfl, hg⟩)
  go_ret
  exact ⟨by simp, hg⟩

set_option maxRecDepth 100000 in
theorem law_uint16 (n : Int) (hn : wrap64 n = n) (w : World) : Calls Try.prog 3 #[.int .i64 7, .int .i64 n] w fun e w' => e = .returned (.bool true) ∧ Ext w w' := by
  have hr := wrapw_uint16 n hn
  go_enter Try.func3, Try.ntmps3
  go_wp2_with (go_at_call 6; refine (intas_uint16 n hn _).mono ?_; rintro e w' ⟨rfl, hg⟩)
  go_ret
  exact ⟨by simp, hg⟩

set_option maxRecDepth 100000 in
theorem law_uint32 (n : Int) (hn : wrap64 n = n) (w : World) : Calls Try.prog 3 #[.int .i64 8, .int .i64 n] w fun e w' => e = .returned (.bool true) ∧ Ext w w' := by
  have hr := wrapw_uint32 n hn
  go_enter Try.func3, Try.ntmps3
  go_wp2_with (go_at_call 6; refine (intas_uint32 n hn _).mono ?_; rintro e w' ⟨rfl, hg⟩)
  go_ret
  exact ⟨by simp, hg⟩

set_option maxRecDepth 100000 in
theorem law_int64 (n : Int) (hn : wrap64 n = n) (c : Int) (h0 : c ≠ 0) (h1 : c ≠ 1) (h2 : c ≠ 2) (h3 : c ≠ 3) (h5 : c ≠ 5) (h6 : c ≠ 6) (h7 : c ≠ 7) (h8 : c ≠ 8) (w : World) : Calls Try.prog 3 #[.int .i64 c, .int .i64 n] w fun e w' => e = .returned (.bool true) ∧ Ext w w' := by
  have hr := wrapw_int64 n hn
  go_enter Try.func3, Try.ntmps3
  go_wp2_with (go_at_call 6; refine (intas_int64 n hn c h0 h1 h2 h3 h5 h6 h7 h8 _).mono ?_; rintro e w' ⟨rfl, hg⟩)
  go_ret
  exact ⟨by simp, hg⟩

set_option maxRecDepth 100000 in
theorem law_uint (n : Int) (w : World) : Calls Try.prog 3 #[.int .i64 5, .int .i64 n] w fun e w' => e = .returned (.bool true) ∧ Ext w w' := by
  go_enter Try.func3, Try.ntmps3
  go_wp2_with fail
  go_ret
  exact ⟨rfl, Ext.refl _⟩
theorem walk (c n : Int) (hn : wrap64 n = n) (w : World) : Calls Try.prog 3 #[.int .i64 c, .int .i64 n] w fun e w' => e = .returned (.bool true) ∧ Ext w w' := by
  by_cases h0 : c = 0
  · subst h0; exact law_int n hn w
  by_cases h1 : c = 1
  · subst h1; exact law_int8 n hn w
  by_cases h2 : c = 2
  · subst h2; exact law_int16 n hn w
  by_cases h3 : c = 3
  · subst h3; exact law_int32 n hn w
  by_cases h5 : c = 5
  · subst h5; exact law_uint n w
  by_cases h6 : c = 6
  · subst h6; exact law_uint8 n hn w
  by_cases h7 : c = 7
  · subst h7; exact law_uint16 n hn w
  by_cases h8 : c = 8
  · subst h8; exact law_uint32 n hn w
  exact law_int64 n hn c h0 h1 h2 h3 h5 h6 h7 h8 w


theorem own : ownKnob Try.prog.godebug = none := by kernel_rfl
set_option maxRecDepth 100000 in
theorem lifted (os : Os) (started : os.Started) (H : Type) (enc : TypeId × Value → H) :
    ReturnsInHanded {} Try.checked os 3 .any (Rows.fnIntAsSpec.pre6 enc Try.prog Try.f3 Rows.fnIntAsRow.domain false) (Rows.fnIntAsSpec.post enc Try.prog Try.f3 false true false false) := by
  refine law_lifted (C := Try.checked) own started (by kernel_rfl) Try.func3 (by kernel_rfl)
    (fun t ht => by rw [Try.params3] at ht; simp at ht; rcases ht with rfl | rfl <;> exact ⟨by kernel_rfl, of_decide_eq_true (by kernel_rfl)⟩) (by kernel_rfl) rfl
    (fun ds hl => by rw [Try.params3] at hl; match ds, hl with | [d1, d2], _ => exact ⟨rfl, rfl, rfl⟩)
    (ChangeSpec.witness6 (enc := enc) (C := Try.checked) false ⟨#[], #[.int .i64 0, .int .i64 0], []⟩ 8 (by kernel_rfl) (by kernel_rfl) (by kernel_rfl) (by kernel_rfl)) ?_
  intro W base args ds p hval hA _
  rw [Try.params3] at hA hval
  obtain ⟨v0, v1, d0, d1, p0, p1, rfl, rfl, rfl, h0, h1⟩ := trodAll_two hA
  obtain ⟨a0, rfl, rfl, rfl, w0⟩ := open_int Try.underlying3 (hval 0 3 v0 rfl rfl) h0
  obtain ⟨a1, rfl, rfl, rfl, w1⟩ := open_int Try.underlying2 (hval 1 2 v1 rfl rfl) h1
  exact walk a0 a1 (by simp [Lit.wf, IntKind.min, IntKind.max, IntKind.bits, IntKind.signed] at w1; simp [wrap64]; omega) W

theorem over : Rows.fnIntAsRow.holds Try.pinned (OpenSpec.ofChange Rows.fnIntAsSpec) :=
  OpenClaim.holds_of_wide 3 Try.f3 rfl rfl rfl rfl rfl rfl rfl ⟨rfl, rfl, rfl, rfl, rfl⟩ rfl rfl rfl rfl rfl (by kernel_rfl) Try.func3 (by kernel_rfl)
    (of_decide_eq_true (by kernel_rfl)) (by unfold Func.isWrapper; first | (rw [if_pos (by decide +kernel)]; kernel_rfl) | (rw [if_neg (by decide +kernel)]; exact ⟨rfl, rfl⟩))
    (fun os started H enc _ => lifted os started H enc)

theorem proved : Rows.FnIntAsSaid :=
  over
#print axioms proved
end Go.Proofs.Ytbcdddiknhiigaa.fnIntAs
