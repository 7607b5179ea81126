/- What a type assertion with ok gives in this program, for each pair of a dynamic type and an asserted type that the walks meet: closed facts, by the kernel. No statement is proved here. -/
import Derived.Test.YtlfpmjjdocknhaaFmtRows
import Derived.WalkKit
namespace Go.Proofs.YtlfpmjjdocknhaaFmt

@[go_sem] theorem ta_28_28 (v : Value) (w : World) : (Instr.typeAssert (.iface 28 v) 20 28 true).run Tryf.prog w = .ok (.tuple #[v, .bool true]) w := by kernel_rfl
@[go_sem] theorem ta_23_28 (v : Value) (w : World) : (Instr.typeAssert (.iface 23 v) 20 28 true).run Tryf.prog w = .ok (.tuple #[.float .f32 0, .bool false]) w := by kernel_rfl
@[go_sem] theorem ta_3_28 (v : Value) (w : World) : (Instr.typeAssert (.iface 3 v) 20 28 true).run Tryf.prog w = .ok (.tuple #[.float .f32 0, .bool false]) w := by kernel_rfl
@[go_sem] theorem ta_31_28 (v : Value) (w : World) : (Instr.typeAssert (.iface 31 v) 20 28 true).run Tryf.prog w = .ok (.tuple #[.float .f32 0, .bool false]) w := by kernel_rfl
@[go_sem] theorem ta_32_28 (v : Value) (w : World) : (Instr.typeAssert (.iface 32 v) 20 28 true).run Tryf.prog w = .ok (.tuple #[.float .f32 0, .bool false]) w := by kernel_rfl
@[go_sem] theorem ta_21_28 (v : Value) (w : World) : (Instr.typeAssert (.iface 21 v) 20 28 true).run Tryf.prog w = .ok (.tuple #[.float .f32 0, .bool false]) w := by kernel_rfl
@[go_sem] theorem ta_2_28 (v : Value) (w : World) : (Instr.typeAssert (.iface 2 v) 20 28 true).run Tryf.prog w = .ok (.tuple #[.float .f32 0, .bool false]) w := by kernel_rfl
@[go_sem] theorem ta_34_28 (v : Value) (w : World) : (Instr.typeAssert (.iface 34 v) 20 28 true).run Tryf.prog w = .ok (.tuple #[.float .f32 0, .bool false]) w := by kernel_rfl
@[go_sem] theorem ta_5_28 (v : Value) (w : World) : (Instr.typeAssert (.iface 5 v) 20 28 true).run Tryf.prog w = .ok (.tuple #[.float .f32 0, .bool false]) w := by kernel_rfl
@[go_sem] theorem ta_35_28 (v : Value) (w : World) : (Instr.typeAssert (.iface 35 v) 20 28 true).run Tryf.prog w = .ok (.tuple #[.float .f32 0, .bool false]) w := by kernel_rfl
@[go_sem] theorem ta_33_28 (v : Value) (w : World) : (Instr.typeAssert (.iface 33 v) 20 28 true).run Tryf.prog w = .ok (.tuple #[.float .f32 0, .bool false]) w := by kernel_rfl
@[go_sem] theorem ta_22_28 (v : Value) (w : World) : (Instr.typeAssert (.iface 22 v) 20 28 true).run Tryf.prog w = .ok (.tuple #[.float .f32 0, .bool false]) w := by kernel_rfl
@[go_sem] theorem ta_28_23 (v : Value) (w : World) : (Instr.typeAssert (.iface 28 v) 20 23 true).run Tryf.prog w = .ok (.tuple #[.float .f64 0, .bool false]) w := by kernel_rfl
@[go_sem] theorem ta_23_23 (v : Value) (w : World) : (Instr.typeAssert (.iface 23 v) 20 23 true).run Tryf.prog w = .ok (.tuple #[v, .bool true]) w := by kernel_rfl
@[go_sem] theorem ta_3_23 (v : Value) (w : World) : (Instr.typeAssert (.iface 3 v) 20 23 true).run Tryf.prog w = .ok (.tuple #[.float .f64 0, .bool false]) w := by kernel_rfl
@[go_sem] theorem ta_31_23 (v : Value) (w : World) : (Instr.typeAssert (.iface 31 v) 20 23 true).run Tryf.prog w = .ok (.tuple #[.float .f64 0, .bool false]) w := by kernel_rfl
@[go_sem] theorem ta_32_23 (v : Value) (w : World) : (Instr.typeAssert (.iface 32 v) 20 23 true).run Tryf.prog w = .ok (.tuple #[.float .f64 0, .bool false]) w := by kernel_rfl
@[go_sem] theorem ta_21_23 (v : Value) (w : World) : (Instr.typeAssert (.iface 21 v) 20 23 true).run Tryf.prog w = .ok (.tuple #[.float .f64 0, .bool false]) w := by kernel_rfl
@[go_sem] theorem ta_2_23 (v : Value) (w : World) : (Instr.typeAssert (.iface 2 v) 20 23 true).run Tryf.prog w = .ok (.tuple #[.float .f64 0, .bool false]) w := by kernel_rfl
@[go_sem] theorem ta_34_23 (v : Value) (w : World) : (Instr.typeAssert (.iface 34 v) 20 23 true).run Tryf.prog w = .ok (.tuple #[.float .f64 0, .bool false]) w := by kernel_rfl
@[go_sem] theorem ta_5_23 (v : Value) (w : World) : (Instr.typeAssert (.iface 5 v) 20 23 true).run Tryf.prog w = .ok (.tuple #[.float .f64 0, .bool false]) w := by kernel_rfl
@[go_sem] theorem ta_35_23 (v : Value) (w : World) : (Instr.typeAssert (.iface 35 v) 20 23 true).run Tryf.prog w = .ok (.tuple #[.float .f64 0, .bool false]) w := by kernel_rfl
@[go_sem] theorem ta_33_23 (v : Value) (w : World) : (Instr.typeAssert (.iface 33 v) 20 23 true).run Tryf.prog w = .ok (.tuple #[.float .f64 0, .bool false]) w := by kernel_rfl
@[go_sem] theorem ta_22_23 (v : Value) (w : World) : (Instr.typeAssert (.iface 22 v) 20 23 true).run Tryf.prog w = .ok (.tuple #[.float .f64 0, .bool false]) w := by kernel_rfl
@[go_sem] theorem ta_28_3 (v : Value) (w : World) : (Instr.typeAssert (.iface 28 v) 20 3 true).run Tryf.prog w = .ok (.tuple #[.int .i64 0, .bool false]) w := by kernel_rfl
@[go_sem] theorem ta_23_3 (v : Value) (w : World) : (Instr.typeAssert (.iface 23 v) 20 3 true).run Tryf.prog w = .ok (.tuple #[.int .i64 0, .bool false]) w := by kernel_rfl
@[go_sem] theorem ta_3_3 (v : Value) (w : World) : (Instr.typeAssert (.iface 3 v) 20 3 true).run Tryf.prog w = .ok (.tuple #[v, .bool true]) w := by kernel_rfl
@[go_sem] theorem ta_31_3 (v : Value) (w : World) : (Instr.typeAssert (.iface 31 v) 20 3 true).run Tryf.prog w = .ok (.tuple #[.int .i64 0, .bool false]) w := by kernel_rfl
@[go_sem] theorem ta_32_3 (v : Value) (w : World) : (Instr.typeAssert (.iface 32 v) 20 3 true).run Tryf.prog w = .ok (.tuple #[.int .i64 0, .bool false]) w := by kernel_rfl
@[go_sem] theorem ta_21_3 (v : Value) (w : World) : (Instr.typeAssert (.iface 21 v) 20 3 true).run Tryf.prog w = .ok (.tuple #[.int .i64 0, .bool false]) w := by kernel_rfl
@[go_sem] theorem ta_2_3 (v : Value) (w : World) : (Instr.typeAssert (.iface 2 v) 20 3 true).run Tryf.prog w = .ok (.tuple #[.int .i64 0, .bool false]) w := by kernel_rfl
@[go_sem] theorem ta_34_3 (v : Value) (w : World) : (Instr.typeAssert (.iface 34 v) 20 3 true).run Tryf.prog w = .ok (.tuple #[.int .i64 0, .bool false]) w := by kernel_rfl
@[go_sem] theorem ta_5_3 (v : Value) (w : World) : (Instr.typeAssert (.iface 5 v) 20 3 true).run Tryf.prog w = .ok (.tuple #[.int .i64 0, .bool false]) w := by kernel_rfl
@[go_sem] theorem ta_35_3 (v : Value) (w : World) : (Instr.typeAssert (.iface 35 v) 20 3 true).run Tryf.prog w = .ok (.tuple #[.int .i64 0, .bool false]) w := by kernel_rfl
@[go_sem] theorem ta_33_3 (v : Value) (w : World) : (Instr.typeAssert (.iface 33 v) 20 3 true).run Tryf.prog w = .ok (.tuple #[.int .i64 0, .bool false]) w := by kernel_rfl
@[go_sem] theorem ta_22_3 (v : Value) (w : World) : (Instr.typeAssert (.iface 22 v) 20 3 true).run Tryf.prog w = .ok (.tuple #[.int .i64 0, .bool false]) w := by kernel_rfl
@[go_sem] theorem ta_28_31 (v : Value) (w : World) : (Instr.typeAssert (.iface 28 v) 20 31 true).run Tryf.prog w = .ok (.tuple #[.int .i8 0, .bool false]) w := by kernel_rfl
@[go_sem] theorem ta_23_31 (v : Value) (w : World) : (Instr.typeAssert (.iface 23 v) 20 31 true).run Tryf.prog w = .ok (.tuple #[.int .i8 0, .bool false]) w := by kernel_rfl
@[go_sem] theorem ta_3_31 (v : Value) (w : World) : (Instr.typeAssert (.iface 3 v) 20 31 true).run Tryf.prog w = .ok (.tuple #[.int .i8 0, .bool false]) w := by kernel_rfl
@[go_sem] theorem ta_31_31 (v : Value) (w : World) : (Instr.typeAssert (.iface 31 v) 20 31 true).run Tryf.prog w = .ok (.tuple #[v, .bool true]) w := by kernel_rfl
@[go_sem] theorem ta_32_31 (v : Value) (w : World) : (Instr.typeAssert (.iface 32 v) 20 31 true).run Tryf.prog w = .ok (.tuple #[.int .i8 0, .bool false]) w := by kernel_rfl
@[go_sem] theorem ta_21_31 (v : Value) (w : World) : (Instr.typeAssert (.iface 21 v) 20 31 true).run Tryf.prog w = .ok (.tuple #[.int .i8 0, .bool false]) w := by kernel_rfl
@[go_sem] theorem ta_2_31 (v : Value) (w : World) : (Instr.typeAssert (.iface 2 v) 20 31 true).run Tryf.prog w = .ok (.tuple #[.int .i8 0, .bool false]) w := by kernel_rfl
@[go_sem] theorem ta_34_31 (v : Value) (w : World) : (Instr.typeAssert (.iface 34 v) 20 31 true).run Tryf.prog w = .ok (.tuple #[.int .i8 0, .bool false]) w := by kernel_rfl
@[go_sem] theorem ta_5_31 (v : Value) (w : World) : (Instr.typeAssert (.iface 5 v) 20 31 true).run Tryf.prog w = .ok (.tuple #[.int .i8 0, .bool false]) w := by kernel_rfl
@[go_sem] theorem ta_35_31 (v : Value) (w : World) : (Instr.typeAssert (.iface 35 v) 20 31 true).run Tryf.prog w = .ok (.tuple #[.int .i8 0, .bool false]) w := by kernel_rfl
@[go_sem] theorem ta_33_31 (v : Value) (w : World) : (Instr.typeAssert (.iface 33 v) 20 31 true).run Tryf.prog w = .ok (.tuple #[.int .i8 0, .bool false]) w := by kernel_rfl
@[go_sem] theorem ta_22_31 (v : Value) (w : World) : (Instr.typeAssert (.iface 22 v) 20 31 true).run Tryf.prog w = .ok (.tuple #[.int .i8 0, .bool false]) w := by kernel_rfl
@[go_sem] theorem ta_28_32 (v : Value) (w : World) : (Instr.typeAssert (.iface 28 v) 20 32 true).run Tryf.prog w = .ok (.tuple #[.int .i16 0, .bool false]) w := by kernel_rfl
@[go_sem] theorem ta_23_32 (v : Value) (w : World) : (Instr.typeAssert (.iface 23 v) 20 32 true).run Tryf.prog w = .ok (.tuple #[.int .i16 0, .bool false]) w := by kernel_rfl
@[go_sem] theorem ta_3_32 (v : Value) (w : World) : (Instr.typeAssert (.iface 3 v) 20 32 true).run Tryf.prog w = .ok (.tuple #[.int .i16 0, .bool false]) w := by kernel_rfl
@[go_sem] theorem ta_31_32 (v : Value) (w : World) : (Instr.typeAssert (.iface 31 v) 20 32 true).run Tryf.prog w = .ok (.tuple #[.int .i16 0, .bool false]) w := by kernel_rfl
@[go_sem] theorem ta_32_32 (v : Value) (w : World) : (Instr.typeAssert (.iface 32 v) 20 32 true).run Tryf.prog w = .ok (.tuple #[v, .bool true]) w := by kernel_rfl
@[go_sem] theorem ta_21_32 (v : Value) (w : World) : (Instr.typeAssert (.iface 21 v) 20 32 true).run Tryf.prog w = .ok (.tuple #[.int .i16 0, .bool false]) w := by kernel_rfl
@[go_sem] theorem ta_2_32 (v : Value) (w : World) : (Instr.typeAssert (.iface 2 v) 20 32 true).run Tryf.prog w = .ok (.tuple #[.int .i16 0, .bool false]) w := by kernel_rfl
@[go_sem] theorem ta_34_32 (v : Value) (w : World) : (Instr.typeAssert (.iface 34 v) 20 32 true).run Tryf.prog w = .ok (.tuple #[.int .i16 0, .bool false]) w := by kernel_rfl
@[go_sem] theorem ta_5_32 (v : Value) (w : World) : (Instr.typeAssert (.iface 5 v) 20 32 true).run Tryf.prog w = .ok (.tuple #[.int .i16 0, .bool false]) w := by kernel_rfl
@[go_sem] theorem ta_35_32 (v : Value) (w : World) : (Instr.typeAssert (.iface 35 v) 20 32 true).run Tryf.prog w = .ok (.tuple #[.int .i16 0, .bool false]) w := by kernel_rfl
@[go_sem] theorem ta_33_32 (v : Value) (w : World) : (Instr.typeAssert (.iface 33 v) 20 32 true).run Tryf.prog w = .ok (.tuple #[.int .i16 0, .bool false]) w := by kernel_rfl
@[go_sem] theorem ta_22_32 (v : Value) (w : World) : (Instr.typeAssert (.iface 22 v) 20 32 true).run Tryf.prog w = .ok (.tuple #[.int .i16 0, .bool false]) w := by kernel_rfl
@[go_sem] theorem ta_28_21 (v : Value) (w : World) : (Instr.typeAssert (.iface 28 v) 20 21 true).run Tryf.prog w = .ok (.tuple #[.int .i32 0, .bool false]) w := by kernel_rfl
@[go_sem] theorem ta_23_21 (v : Value) (w : World) : (Instr.typeAssert (.iface 23 v) 20 21 true).run Tryf.prog w = .ok (.tuple #[.int .i32 0, .bool false]) w := by kernel_rfl
@[go_sem] theorem ta_3_21 (v : Value) (w : World) : (Instr.typeAssert (.iface 3 v) 20 21 true).run Tryf.prog w = .ok (.tuple #[.int .i32 0, .bool false]) w := by kernel_rfl
@[go_sem] theorem ta_31_21 (v : Value) (w : World) : (Instr.typeAssert (.iface 31 v) 20 21 true).run Tryf.prog w = .ok (.tuple #[.int .i32 0, .bool false]) w := by kernel_rfl
@[go_sem] theorem ta_32_21 (v : Value) (w : World) : (Instr.typeAssert (.iface 32 v) 20 21 true).run Tryf.prog w = .ok (.tuple #[.int .i32 0, .bool false]) w := by kernel_rfl
@[go_sem] theorem ta_21_21 (v : Value) (w : World) : (Instr.typeAssert (.iface 21 v) 20 21 true).run Tryf.prog w = .ok (.tuple #[v, .bool true]) w := by kernel_rfl
@[go_sem] theorem ta_2_21 (v : Value) (w : World) : (Instr.typeAssert (.iface 2 v) 20 21 true).run Tryf.prog w = .ok (.tuple #[.int .i32 0, .bool false]) w := by kernel_rfl
@[go_sem] theorem ta_34_21 (v : Value) (w : World) : (Instr.typeAssert (.iface 34 v) 20 21 true).run Tryf.prog w = .ok (.tuple #[.int .i32 0, .bool false]) w := by kernel_rfl
@[go_sem] theorem ta_5_21 (v : Value) (w : World) : (Instr.typeAssert (.iface 5 v) 20 21 true).run Tryf.prog w = .ok (.tuple #[.int .i32 0, .bool false]) w := by kernel_rfl
@[go_sem] theorem ta_35_21 (v : Value) (w : World) : (Instr.typeAssert (.iface 35 v) 20 21 true).run Tryf.prog w = .ok (.tuple #[.int .i32 0, .bool false]) w := by kernel_rfl
@[go_sem] theorem ta_33_21 (v : Value) (w : World) : (Instr.typeAssert (.iface 33 v) 20 21 true).run Tryf.prog w = .ok (.tuple #[.int .i32 0, .bool false]) w := by kernel_rfl
@[go_sem] theorem ta_22_21 (v : Value) (w : World) : (Instr.typeAssert (.iface 22 v) 20 21 true).run Tryf.prog w = .ok (.tuple #[.int .i32 0, .bool false]) w := by kernel_rfl
@[go_sem] theorem ta_28_2 (v : Value) (w : World) : (Instr.typeAssert (.iface 28 v) 20 2 true).run Tryf.prog w = .ok (.tuple #[.int .i64 0, .bool false]) w := by kernel_rfl
@[go_sem] theorem ta_23_2 (v : Value) (w : World) : (Instr.typeAssert (.iface 23 v) 20 2 true).run Tryf.prog w = .ok (.tuple #[.int .i64 0, .bool false]) w := by kernel_rfl
@[go_sem] theorem ta_3_2 (v : Value) (w : World) : (Instr.typeAssert (.iface 3 v) 20 2 true).run Tryf.prog w = .ok (.tuple #[.int .i64 0, .bool false]) w := by kernel_rfl
@[go_sem] theorem ta_31_2 (v : Value) (w : World) : (Instr.typeAssert (.iface 31 v) 20 2 true).run Tryf.prog w = .ok (.tuple #[.int .i64 0, .bool false]) w := by kernel_rfl
@[go_sem] theorem ta_32_2 (v : Value) (w : World) : (Instr.typeAssert (.iface 32 v) 20 2 true).run Tryf.prog w = .ok (.tuple #[.int .i64 0, .bool false]) w := by kernel_rfl
@[go_sem] theorem ta_21_2 (v : Value) (w : World) : (Instr.typeAssert (.iface 21 v) 20 2 true).run Tryf.prog w = .ok (.tuple #[.int .i64 0, .bool false]) w := by kernel_rfl
@[go_sem] theorem ta_2_2 (v : Value) (w : World) : (Instr.typeAssert (.iface 2 v) 20 2 true).run Tryf.prog w = .ok (.tuple #[v, .bool true]) w := by kernel_rfl
@[go_sem] theorem ta_34_2 (v : Value) (w : World) : (Instr.typeAssert (.iface 34 v) 20 2 true).run Tryf.prog w = .ok (.tuple #[.int .i64 0, .bool false]) w := by kernel_rfl
@[go_sem] theorem ta_5_2 (v : Value) (w : World) : (Instr.typeAssert (.iface 5 v) 20 2 true).run Tryf.prog w = .ok (.tuple #[.int .i64 0, .bool false]) w := by kernel_rfl
@[go_sem] theorem ta_35_2 (v : Value) (w : World) : (Instr.typeAssert (.iface 35 v) 20 2 true).run Tryf.prog w = .ok (.tuple #[.int .i64 0, .bool false]) w := by kernel_rfl
@[go_sem] theorem ta_33_2 (v : Value) (w : World) : (Instr.typeAssert (.iface 33 v) 20 2 true).run Tryf.prog w = .ok (.tuple #[.int .i64 0, .bool false]) w := by kernel_rfl
@[go_sem] theorem ta_22_2 (v : Value) (w : World) : (Instr.typeAssert (.iface 22 v) 20 2 true).run Tryf.prog w = .ok (.tuple #[.int .i64 0, .bool false]) w := by kernel_rfl
@[go_sem] theorem ta_28_34 (v : Value) (w : World) : (Instr.typeAssert (.iface 28 v) 20 34 true).run Tryf.prog w = .ok (.tuple #[.int .u64 0, .bool false]) w := by kernel_rfl
@[go_sem] theorem ta_23_34 (v : Value) (w : World) : (Instr.typeAssert (.iface 23 v) 20 34 true).run Tryf.prog w = .ok (.tuple #[.int .u64 0, .bool false]) w := by kernel_rfl
@[go_sem] theorem ta_3_34 (v : Value) (w : World) : (Instr.typeAssert (.iface 3 v) 20 34 true).run Tryf.prog w = .ok (.tuple #[.int .u64 0, .bool false]) w := by kernel_rfl
@[go_sem] theorem ta_31_34 (v : Value) (w : World) : (Instr.typeAssert (.iface 31 v) 20 34 true).run Tryf.prog w = .ok (.tuple #[.int .u64 0, .bool false]) w := by kernel_rfl
@[go_sem] theorem ta_32_34 (v : Value) (w : World) : (Instr.typeAssert (.iface 32 v) 20 34 true).run Tryf.prog w = .ok (.tuple #[.int .u64 0, .bool false]) w := by kernel_rfl
@[go_sem] theorem ta_21_34 (v : Value) (w : World) : (Instr.typeAssert (.iface 21 v) 20 34 true).run Tryf.prog w = .ok (.tuple #[.int .u64 0, .bool false]) w := by kernel_rfl
@[go_sem] theorem ta_2_34 (v : Value) (w : World) : (Instr.typeAssert (.iface 2 v) 20 34 true).run Tryf.prog w = .ok (.tuple #[.int .u64 0, .bool false]) w := by kernel_rfl
@[go_sem] theorem ta_34_34 (v : Value) (w : World) : (Instr.typeAssert (.iface 34 v) 20 34 true).run Tryf.prog w = .ok (.tuple #[v, .bool true]) w := by kernel_rfl
@[go_sem] theorem ta_5_34 (v : Value) (w : World) : (Instr.typeAssert (.iface 5 v) 20 34 true).run Tryf.prog w = .ok (.tuple #[.int .u64 0, .bool false]) w := by kernel_rfl
@[go_sem] theorem ta_35_34 (v : Value) (w : World) : (Instr.typeAssert (.iface 35 v) 20 34 true).run Tryf.prog w = .ok (.tuple #[.int .u64 0, .bool false]) w := by kernel_rfl
@[go_sem] theorem ta_33_34 (v : Value) (w : World) : (Instr.typeAssert (.iface 33 v) 20 34 true).run Tryf.prog w = .ok (.tuple #[.int .u64 0, .bool false]) w := by kernel_rfl
@[go_sem] theorem ta_22_34 (v : Value) (w : World) : (Instr.typeAssert (.iface 22 v) 20 34 true).run Tryf.prog w = .ok (.tuple #[.int .u64 0, .bool false]) w := by kernel_rfl
@[go_sem] theorem ta_28_5 (v : Value) (w : World) : (Instr.typeAssert (.iface 28 v) 20 5 true).run Tryf.prog w = .ok (.tuple #[.int .u8 0, .bool false]) w := by kernel_rfl
@[go_sem] theorem ta_23_5 (v : Value) (w : World) : (Instr.typeAssert (.iface 23 v) 20 5 true).run Tryf.prog w = .ok (.tuple #[.int .u8 0, .bool false]) w := by kernel_rfl
@[go_sem] theorem ta_3_5 (v : Value) (w : World) : (Instr.typeAssert (.iface 3 v) 20 5 true).run Tryf.prog w = .ok (.tuple #[.int .u8 0, .bool false]) w := by kernel_rfl
@[go_sem] theorem ta_31_5 (v : Value) (w : World) : (Instr.typeAssert (.iface 31 v) 20 5 true).run Tryf.prog w = .ok (.tuple #[.int .u8 0, .bool false]) w := by kernel_rfl
@[go_sem] theorem ta_32_5 (v : Value) (w : World) : (Instr.typeAssert (.iface 32 v) 20 5 true).run Tryf.prog w = .ok (.tuple #[.int .u8 0, .bool false]) w := by kernel_rfl
@[go_sem] theorem ta_21_5 (v : Value) (w : World) : (Instr.typeAssert (.iface 21 v) 20 5 true).run Tryf.prog w = .ok (.tuple #[.int .u8 0, .bool false]) w := by kernel_rfl
@[go_sem] theorem ta_2_5 (v : Value) (w : World) : (Instr.typeAssert (.iface 2 v) 20 5 true).run Tryf.prog w = .ok (.tuple #[.int .u8 0, .bool false]) w := by kernel_rfl
@[go_sem] theorem ta_34_5 (v : Value) (w : World) : (Instr.typeAssert (.iface 34 v) 20 5 true).run Tryf.prog w = .ok (.tuple #[.int .u8 0, .bool false]) w := by kernel_rfl
@[go_sem] theorem ta_5_5 (v : Value) (w : World) : (Instr.typeAssert (.iface 5 v) 20 5 true).run Tryf.prog w = .ok (.tuple #[v, .bool true]) w := by kernel_rfl
@[go_sem] theorem ta_35_5 (v : Value) (w : World) : (Instr.typeAssert (.iface 35 v) 20 5 true).run Tryf.prog w = .ok (.tuple #[.int .u8 0, .bool false]) w := by kernel_rfl
@[go_sem] theorem ta_33_5 (v : Value) (w : World) : (Instr.typeAssert (.iface 33 v) 20 5 true).run Tryf.prog w = .ok (.tuple #[.int .u8 0, .bool false]) w := by kernel_rfl
@[go_sem] theorem ta_22_5 (v : Value) (w : World) : (Instr.typeAssert (.iface 22 v) 20 5 true).run Tryf.prog w = .ok (.tuple #[.int .u8 0, .bool false]) w := by kernel_rfl
@[go_sem] theorem ta_28_35 (v : Value) (w : World) : (Instr.typeAssert (.iface 28 v) 20 35 true).run Tryf.prog w = .ok (.tuple #[.int .u16 0, .bool false]) w := by kernel_rfl
@[go_sem] theorem ta_23_35 (v : Value) (w : World) : (Instr.typeAssert (.iface 23 v) 20 35 true).run Tryf.prog w = .ok (.tuple #[.int .u16 0, .bool false]) w := by kernel_rfl
@[go_sem] theorem ta_3_35 (v : Value) (w : World) : (Instr.typeAssert (.iface 3 v) 20 35 true).run Tryf.prog w = .ok (.tuple #[.int .u16 0, .bool false]) w := by kernel_rfl
@[go_sem] theorem ta_31_35 (v : Value) (w : World) : (Instr.typeAssert (.iface 31 v) 20 35 true).run Tryf.prog w = .ok (.tuple #[.int .u16 0, .bool false]) w := by kernel_rfl
@[go_sem] theorem ta_32_35 (v : Value) (w : World) : (Instr.typeAssert (.iface 32 v) 20 35 true).run Tryf.prog w = .ok (.tuple #[.int .u16 0, .bool false]) w := by kernel_rfl
@[go_sem] theorem ta_21_35 (v : Value) (w : World) : (Instr.typeAssert (.iface 21 v) 20 35 true).run Tryf.prog w = .ok (.tuple #[.int .u16 0, .bool false]) w := by kernel_rfl
@[go_sem] theorem ta_2_35 (v : Value) (w : World) : (Instr.typeAssert (.iface 2 v) 20 35 true).run Tryf.prog w = .ok (.tuple #[.int .u16 0, .bool false]) w := by kernel_rfl
@[go_sem] theorem ta_34_35 (v : Value) (w : World) : (Instr.typeAssert (.iface 34 v) 20 35 true).run Tryf.prog w = .ok (.tuple #[.int .u16 0, .bool false]) w := by kernel_rfl
@[go_sem] theorem ta_5_35 (v : Value) (w : World) : (Instr.typeAssert (.iface 5 v) 20 35 true).run Tryf.prog w = .ok (.tuple #[.int .u16 0, .bool false]) w := by kernel_rfl
@[go_sem] theorem ta_35_35 (v : Value) (w : World) : (Instr.typeAssert (.iface 35 v) 20 35 true).run Tryf.prog w = .ok (.tuple #[v, .bool true]) w := by kernel_rfl
@[go_sem] theorem ta_33_35 (v : Value) (w : World) : (Instr.typeAssert (.iface 33 v) 20 35 true).run Tryf.prog w = .ok (.tuple #[.int .u16 0, .bool false]) w := by kernel_rfl
@[go_sem] theorem ta_22_35 (v : Value) (w : World) : (Instr.typeAssert (.iface 22 v) 20 35 true).run Tryf.prog w = .ok (.tuple #[.int .u16 0, .bool false]) w := by kernel_rfl
@[go_sem] theorem ta_28_33 (v : Value) (w : World) : (Instr.typeAssert (.iface 28 v) 20 33 true).run Tryf.prog w = .ok (.tuple #[.int .u32 0, .bool false]) w := by kernel_rfl
@[go_sem] theorem ta_23_33 (v : Value) (w : World) : (Instr.typeAssert (.iface 23 v) 20 33 true).run Tryf.prog w = .ok (.tuple #[.int .u32 0, .bool false]) w := by kernel_rfl
@[go_sem] theorem ta_3_33 (v : Value) (w : World) : (Instr.typeAssert (.iface 3 v) 20 33 true).run Tryf.prog w = .ok (.tuple #[.int .u32 0, .bool false]) w := by kernel_rfl
@[go_sem] theorem ta_31_33 (v : Value) (w : World) : (Instr.typeAssert (.iface 31 v) 20 33 true).run Tryf.prog w = .ok (.tuple #[.int .u32 0, .bool false]) w := by kernel_rfl
@[go_sem] theorem ta_32_33 (v : Value) (w : World) : (Instr.typeAssert (.iface 32 v) 20 33 true).run Tryf.prog w = .ok (.tuple #[.int .u32 0, .bool false]) w := by kernel_rfl
@[go_sem] theorem ta_21_33 (v : Value) (w : World) : (Instr.typeAssert (.iface 21 v) 20 33 true).run Tryf.prog w = .ok (.tuple #[.int .u32 0, .bool false]) w := by kernel_rfl
@[go_sem] theorem ta_2_33 (v : Value) (w : World) : (Instr.typeAssert (.iface 2 v) 20 33 true).run Tryf.prog w = .ok (.tuple #[.int .u32 0, .bool false]) w := by kernel_rfl
@[go_sem] theorem ta_34_33 (v : Value) (w : World) : (Instr.typeAssert (.iface 34 v) 20 33 true).run Tryf.prog w = .ok (.tuple #[.int .u32 0, .bool false]) w := by kernel_rfl
@[go_sem] theorem ta_5_33 (v : Value) (w : World) : (Instr.typeAssert (.iface 5 v) 20 33 true).run Tryf.prog w = .ok (.tuple #[.int .u32 0, .bool false]) w := by kernel_rfl
@[go_sem] theorem ta_35_33 (v : Value) (w : World) : (Instr.typeAssert (.iface 35 v) 20 33 true).run Tryf.prog w = .ok (.tuple #[.int .u32 0, .bool false]) w := by kernel_rfl
@[go_sem] theorem ta_33_33 (v : Value) (w : World) : (Instr.typeAssert (.iface 33 v) 20 33 true).run Tryf.prog w = .ok (.tuple #[v, .bool true]) w := by kernel_rfl
@[go_sem] theorem ta_22_33 (v : Value) (w : World) : (Instr.typeAssert (.iface 22 v) 20 33 true).run Tryf.prog w = .ok (.tuple #[.int .u32 0, .bool false]) w := by kernel_rfl
@[go_sem] theorem ta_28_22 (v : Value) (w : World) : (Instr.typeAssert (.iface 28 v) 20 22 true).run Tryf.prog w = .ok (.tuple #[.int .u64 0, .bool false]) w := by kernel_rfl
@[go_sem] theorem ta_23_22 (v : Value) (w : World) : (Instr.typeAssert (.iface 23 v) 20 22 true).run Tryf.prog w = .ok (.tuple #[.int .u64 0, .bool false]) w := by kernel_rfl
@[go_sem] theorem ta_3_22 (v : Value) (w : World) : (Instr.typeAssert (.iface 3 v) 20 22 true).run Tryf.prog w = .ok (.tuple #[.int .u64 0, .bool false]) w := by kernel_rfl
@[go_sem] theorem ta_31_22 (v : Value) (w : World) : (Instr.typeAssert (.iface 31 v) 20 22 true).run Tryf.prog w = .ok (.tuple #[.int .u64 0, .bool false]) w := by kernel_rfl
@[go_sem] theorem ta_32_22 (v : Value) (w : World) : (Instr.typeAssert (.iface 32 v) 20 22 true).run Tryf.prog w = .ok (.tuple #[.int .u64 0, .bool false]) w := by kernel_rfl
@[go_sem] theorem ta_21_22 (v : Value) (w : World) : (Instr.typeAssert (.iface 21 v) 20 22 true).run Tryf.prog w = .ok (.tuple #[.int .u64 0, .bool false]) w := by kernel_rfl
@[go_sem] theorem ta_2_22 (v : Value) (w : World) : (Instr.typeAssert (.iface 2 v) 20 22 true).run Tryf.prog w = .ok (.tuple #[.int .u64 0, .bool false]) w := by kernel_rfl
@[go_sem] theorem ta_34_22 (v : Value) (w : World) : (Instr.typeAssert (.iface 34 v) 20 22 true).run Tryf.prog w = .ok (.tuple #[.int .u64 0, .bool false]) w := by kernel_rfl
@[go_sem] theorem ta_5_22 (v : Value) (w : World) : (Instr.typeAssert (.iface 5 v) 20 22 true).run Tryf.prog w = .ok (.tuple #[.int .u64 0, .bool false]) w := by kernel_rfl
@[go_sem] theorem ta_35_22 (v : Value) (w : World) : (Instr.typeAssert (.iface 35 v) 20 22 true).run Tryf.prog w = .ok (.tuple #[.int .u64 0, .bool false]) w := by kernel_rfl
@[go_sem] theorem ta_33_22 (v : Value) (w : World) : (Instr.typeAssert (.iface 33 v) 20 22 true).run Tryf.prog w = .ok (.tuple #[.int .u64 0, .bool false]) w := by kernel_rfl
@[go_sem] theorem ta_22_22 (v : Value) (w : World) : (Instr.typeAssert (.iface 22 v) 20 22 true).run Tryf.prog w = .ok (.tuple #[v, .bool true]) w := by kernel_rfl
end Go.Proofs.YtlfpmjjdocknhaaFmt
