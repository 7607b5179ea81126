/- What a type assertion with ok gives in this program, for each pair of a dynamic type and an asserted type that the walks meet: closed facts, by the kernel. No statement is proved here. -/
import Derived.Test.YtjhflbfpdgciiaaFmtRows
import Derived.WalkKit
namespace Go.Proofs.YtjhflbfpdgciiaaFmt

@[go_sem] theorem ta_3_3 (v : Value) (w : World) : (Instr.typeAssert (.iface 3 v) 20 3 true).run Tryf.prog w = .ok (.tuple #[v, .bool true]) w := by kernel_rfl
@[go_sem] theorem ta_33_3 (v : Value) (w : World) : (Instr.typeAssert (.iface 33 v) 20 3 true).run Tryf.prog w = .ok (.tuple #[.int .i64 0, .bool false]) w := by kernel_rfl
@[go_sem] theorem ta_35_3 (v : Value) (w : World) : (Instr.typeAssert (.iface 35 v) 20 3 true).run Tryf.prog w = .ok (.tuple #[.int .i64 0, .bool false]) w := by kernel_rfl
@[go_sem] theorem ta_21_3 (v : Value) (w : World) : (Instr.typeAssert (.iface 21 v) 20 3 true).run Tryf.prog w = .ok (.tuple #[.int .i64 0, .bool false]) w := by kernel_rfl
@[go_sem] theorem ta_2_3 (v : Value) (w : World) : (Instr.typeAssert (.iface 2 v) 20 3 true).run Tryf.prog w = .ok (.tuple #[.int .i64 0, .bool false]) w := by kernel_rfl
@[go_sem] theorem ta_45_3 (v : Value) (w : World) : (Instr.typeAssert (.iface 45 v) 20 3 true).run Tryf.prog w = .ok (.tuple #[.int .i64 0, .bool false]) w := by kernel_rfl
@[go_sem] theorem ta_5_3 (v : Value) (w : World) : (Instr.typeAssert (.iface 5 v) 20 3 true).run Tryf.prog w = .ok (.tuple #[.int .i64 0, .bool false]) w := by kernel_rfl
@[go_sem] theorem ta_41_3 (v : Value) (w : World) : (Instr.typeAssert (.iface 41 v) 20 3 true).run Tryf.prog w = .ok (.tuple #[.int .i64 0, .bool false]) w := by kernel_rfl
@[go_sem] theorem ta_43_3 (v : Value) (w : World) : (Instr.typeAssert (.iface 43 v) 20 3 true).run Tryf.prog w = .ok (.tuple #[.int .i64 0, .bool false]) w := by kernel_rfl
@[go_sem] theorem ta_29_3 (v : Value) (w : World) : (Instr.typeAssert (.iface 29 v) 20 3 true).run Tryf.prog w = .ok (.tuple #[.int .i64 0, .bool false]) w := by kernel_rfl
@[go_sem] theorem ta_9_3 (v : Value) (w : World) : (Instr.typeAssert (.iface 9 v) 20 3 true).run Tryf.prog w = .ok (.tuple #[.int .i64 0, .bool false]) w := by kernel_rfl
@[go_sem] theorem ta_22_3 (v : Value) (w : World) : (Instr.typeAssert (.iface 22 v) 20 3 true).run Tryf.prog w = .ok (.tuple #[.int .i64 0, .bool false]) w := by kernel_rfl
@[go_sem] theorem ta_4_3 (v : Value) (w : World) : (Instr.typeAssert (.iface 4 v) 20 3 true).run Tryf.prog w = .ok (.tuple #[.int .i64 0, .bool false]) w := by kernel_rfl
@[go_sem] theorem ta_nil_3 (w : World) : (Instr.typeAssert .nilIface 20 3 true).run Tryf.prog w = .ok (.tuple #[.int .i64 0, .bool false]) w := by kernel_rfl
@[go_sem] theorem ta_3_33 (v : Value) (w : World) : (Instr.typeAssert (.iface 3 v) 20 33 true).run Tryf.prog w = .ok (.tuple #[.int .i8 0, .bool false]) w := by kernel_rfl
@[go_sem] theorem ta_33_33 (v : Value) (w : World) : (Instr.typeAssert (.iface 33 v) 20 33 true).run Tryf.prog w = .ok (.tuple #[v, .bool true]) w := by kernel_rfl
@[go_sem] theorem ta_35_33 (v : Value) (w : World) : (Instr.typeAssert (.iface 35 v) 20 33 true).run Tryf.prog w = .ok (.tuple #[.int .i8 0, .bool false]) w := by kernel_rfl
@[go_sem] theorem ta_21_33 (v : Value) (w : World) : (Instr.typeAssert (.iface 21 v) 20 33 true).run Tryf.prog w = .ok (.tuple #[.int .i8 0, .bool false]) w := by kernel_rfl
@[go_sem] theorem ta_2_33 (v : Value) (w : World) : (Instr.typeAssert (.iface 2 v) 20 33 true).run Tryf.prog w = .ok (.tuple #[.int .i8 0, .bool false]) w := by kernel_rfl
@[go_sem] theorem ta_45_33 (v : Value) (w : World) : (Instr.typeAssert (.iface 45 v) 20 33 true).run Tryf.prog w = .ok (.tuple #[.int .i8 0, .bool false]) w := by kernel_rfl
@[go_sem] theorem ta_5_33 (v : Value) (w : World) : (Instr.typeAssert (.iface 5 v) 20 33 true).run Tryf.prog w = .ok (.tuple #[.int .i8 0, .bool false]) w := by kernel_rfl
@[go_sem] theorem ta_41_33 (v : Value) (w : World) : (Instr.typeAssert (.iface 41 v) 20 33 true).run Tryf.prog w = .ok (.tuple #[.int .i8 0, .bool false]) w := by kernel_rfl
@[go_sem] theorem ta_43_33 (v : Value) (w : World) : (Instr.typeAssert (.iface 43 v) 20 33 true).run Tryf.prog w = .ok (.tuple #[.int .i8 0, .bool false]) w := by kernel_rfl
@[go_sem] theorem ta_29_33 (v : Value) (w : World) : (Instr.typeAssert (.iface 29 v) 20 33 true).run Tryf.prog w = .ok (.tuple #[.int .i8 0, .bool false]) w := by kernel_rfl
@[go_sem] theorem ta_9_33 (v : Value) (w : World) : (Instr.typeAssert (.iface 9 v) 20 33 true).run Tryf.prog w = .ok (.tuple #[.int .i8 0, .bool false]) w := by kernel_rfl
@[go_sem] theorem ta_22_33 (v : Value) (w : World) : (Instr.typeAssert (.iface 22 v) 20 33 true).run Tryf.prog w = .ok (.tuple #[.int .i8 0, .bool false]) w := by kernel_rfl
@[go_sem] theorem ta_4_33 (v : Value) (w : World) : (Instr.typeAssert (.iface 4 v) 20 33 true).run Tryf.prog w = .ok (.tuple #[.int .i8 0, .bool false]) w := by kernel_rfl
@[go_sem] theorem ta_nil_33 (w : World) : (Instr.typeAssert .nilIface 20 33 true).run Tryf.prog w = .ok (.tuple #[.int .i8 0, .bool false]) w := by kernel_rfl
@[go_sem] theorem ta_3_35 (v : Value) (w : World) : (Instr.typeAssert (.iface 3 v) 20 35 true).run Tryf.prog w = .ok (.tuple #[.int .i16 0, .bool false]) w := by kernel_rfl
@[go_sem] theorem ta_33_35 (v : Value) (w : World) : (Instr.typeAssert (.iface 33 v) 20 35 true).run Tryf.prog w = .ok (.tuple #[.int .i16 0, .bool false]) w := by kernel_rfl
@[go_sem] theorem ta_35_35 (v : Value) (w : World) : (Instr.typeAssert (.iface 35 v) 20 35 true).run Tryf.prog w = .ok (.tuple #[v, .bool true]) w := by kernel_rfl
@[go_sem] theorem ta_21_35 (v : Value) (w : World) : (Instr.typeAssert (.iface 21 v) 20 35 true).run Tryf.prog w = .ok (.tuple #[.int .i16 0, .bool false]) w := by kernel_rfl
@[go_sem] theorem ta_2_35 (v : Value) (w : World) : (Instr.typeAssert (.iface 2 v) 20 35 true).run Tryf.prog w = .ok (.tuple #[.int .i16 0, .bool false]) w := by kernel_rfl
@[go_sem] theorem ta_45_35 (v : Value) (w : World) : (Instr.typeAssert (.iface 45 v) 20 35 true).run Tryf.prog w = .ok (.tuple #[.int .i16 0, .bool false]) w := by kernel_rfl
@[go_sem] theorem ta_5_35 (v : Value) (w : World) : (Instr.typeAssert (.iface 5 v) 20 35 true).run Tryf.prog w = .ok (.tuple #[.int .i16 0, .bool false]) w := by kernel_rfl
@[go_sem] theorem ta_41_35 (v : Value) (w : World) : (Instr.typeAssert (.iface 41 v) 20 35 true).run Tryf.prog w = .ok (.tuple #[.int .i16 0, .bool false]) w := by kernel_rfl
@[go_sem] theorem ta_43_35 (v : Value) (w : World) : (Instr.typeAssert (.iface 43 v) 20 35 true).run Tryf.prog w = .ok (.tuple #[.int .i16 0, .bool false]) w := by kernel_rfl
@[go_sem] theorem ta_29_35 (v : Value) (w : World) : (Instr.typeAssert (.iface 29 v) 20 35 true).run Tryf.prog w = .ok (.tuple #[.int .i16 0, .bool false]) w := by kernel_rfl
@[go_sem] theorem ta_9_35 (v : Value) (w : World) : (Instr.typeAssert (.iface 9 v) 20 35 true).run Tryf.prog w = .ok (.tuple #[.int .i16 0, .bool false]) w := by kernel_rfl
@[go_sem] theorem ta_22_35 (v : Value) (w : World) : (Instr.typeAssert (.iface 22 v) 20 35 true).run Tryf.prog w = .ok (.tuple #[.int .i16 0, .bool false]) w := by kernel_rfl
@[go_sem] theorem ta_4_35 (v : Value) (w : World) : (Instr.typeAssert (.iface 4 v) 20 35 true).run Tryf.prog w = .ok (.tuple #[.int .i16 0, .bool false]) w := by kernel_rfl
@[go_sem] theorem ta_nil_35 (w : World) : (Instr.typeAssert .nilIface 20 35 true).run Tryf.prog w = .ok (.tuple #[.int .i16 0, .bool false]) w := by kernel_rfl
@[go_sem] theorem ta_3_21 (v : Value) (w : World) : (Instr.typeAssert (.iface 3 v) 20 21 true).run Tryf.prog w = .ok (.tuple #[.int .i32 0, .bool false]) w := by kernel_rfl
@[go_sem] theorem ta_33_21 (v : Value) (w : World) : (Instr.typeAssert (.iface 33 v) 20 21 true).run Tryf.prog w = .ok (.tuple #[.int .i32 0, .bool false]) w := by kernel_rfl
@[go_sem] theorem ta_35_21 (v : Value) (w : World) : (Instr.typeAssert (.iface 35 v) 20 21 true).run Tryf.prog w = .ok (.tuple #[.int .i32 0, .bool false]) w := by kernel_rfl
@[go_sem] theorem ta_21_21 (v : Value) (w : World) : (Instr.typeAssert (.iface 21 v) 20 21 true).run Tryf.prog w = .ok (.tuple #[v, .bool true]) w := by kernel_rfl
@[go_sem] theorem ta_2_21 (v : Value) (w : World) : (Instr.typeAssert (.iface 2 v) 20 21 true).run Tryf.prog w = .ok (.tuple #[.int .i32 0, .bool false]) w := by kernel_rfl
@[go_sem] theorem ta_45_21 (v : Value) (w : World) : (Instr.typeAssert (.iface 45 v) 20 21 true).run Tryf.prog w = .ok (.tuple #[.int .i32 0, .bool false]) w := by kernel_rfl
@[go_sem] theorem ta_5_21 (v : Value) (w : World) : (Instr.typeAssert (.iface 5 v) 20 21 true).run Tryf.prog w = .ok (.tuple #[.int .i32 0, .bool false]) w := by kernel_rfl
@[go_sem] theorem ta_41_21 (v : Value) (w : World) : (Instr.typeAssert (.iface 41 v) 20 21 true).run Tryf.prog w = .ok (.tuple #[.int .i32 0, .bool false]) w := by kernel_rfl
@[go_sem] theorem ta_43_21 (v : Value) (w : World) : (Instr.typeAssert (.iface 43 v) 20 21 true).run Tryf.prog w = .ok (.tuple #[.int .i32 0, .bool false]) w := by kernel_rfl
@[go_sem] theorem ta_29_21 (v : Value) (w : World) : (Instr.typeAssert (.iface 29 v) 20 21 true).run Tryf.prog w = .ok (.tuple #[.int .i32 0, .bool false]) w := by kernel_rfl
@[go_sem] theorem ta_9_21 (v : Value) (w : World) : (Instr.typeAssert (.iface 9 v) 20 21 true).run Tryf.prog w = .ok (.tuple #[.int .i32 0, .bool false]) w := by kernel_rfl
@[go_sem] theorem ta_22_21 (v : Value) (w : World) : (Instr.typeAssert (.iface 22 v) 20 21 true).run Tryf.prog w = .ok (.tuple #[.int .i32 0, .bool false]) w := by kernel_rfl
@[go_sem] theorem ta_4_21 (v : Value) (w : World) : (Instr.typeAssert (.iface 4 v) 20 21 true).run Tryf.prog w = .ok (.tuple #[.int .i32 0, .bool false]) w := by kernel_rfl
@[go_sem] theorem ta_nil_21 (w : World) : (Instr.typeAssert .nilIface 20 21 true).run Tryf.prog w = .ok (.tuple #[.int .i32 0, .bool false]) w := by kernel_rfl
@[go_sem] theorem ta_3_2 (v : Value) (w : World) : (Instr.typeAssert (.iface 3 v) 20 2 true).run Tryf.prog w = .ok (.tuple #[.int .i64 0, .bool false]) w := by kernel_rfl
@[go_sem] theorem ta_33_2 (v : Value) (w : World) : (Instr.typeAssert (.iface 33 v) 20 2 true).run Tryf.prog w = .ok (.tuple #[.int .i64 0, .bool false]) w := by kernel_rfl
@[go_sem] theorem ta_35_2 (v : Value) (w : World) : (Instr.typeAssert (.iface 35 v) 20 2 true).run Tryf.prog w = .ok (.tuple #[.int .i64 0, .bool false]) w := by kernel_rfl
@[go_sem] theorem ta_21_2 (v : Value) (w : World) : (Instr.typeAssert (.iface 21 v) 20 2 true).run Tryf.prog w = .ok (.tuple #[.int .i64 0, .bool false]) w := by kernel_rfl
@[go_sem] theorem ta_2_2 (v : Value) (w : World) : (Instr.typeAssert (.iface 2 v) 20 2 true).run Tryf.prog w = .ok (.tuple #[v, .bool true]) w := by kernel_rfl
@[go_sem] theorem ta_45_2 (v : Value) (w : World) : (Instr.typeAssert (.iface 45 v) 20 2 true).run Tryf.prog w = .ok (.tuple #[.int .i64 0, .bool false]) w := by kernel_rfl
@[go_sem] theorem ta_5_2 (v : Value) (w : World) : (Instr.typeAssert (.iface 5 v) 20 2 true).run Tryf.prog w = .ok (.tuple #[.int .i64 0, .bool false]) w := by kernel_rfl
@[go_sem] theorem ta_41_2 (v : Value) (w : World) : (Instr.typeAssert (.iface 41 v) 20 2 true).run Tryf.prog w = .ok (.tuple #[.int .i64 0, .bool false]) w := by kernel_rfl
@[go_sem] theorem ta_43_2 (v : Value) (w : World) : (Instr.typeAssert (.iface 43 v) 20 2 true).run Tryf.prog w = .ok (.tuple #[.int .i64 0, .bool false]) w := by kernel_rfl
@[go_sem] theorem ta_29_2 (v : Value) (w : World) : (Instr.typeAssert (.iface 29 v) 20 2 true).run Tryf.prog w = .ok (.tuple #[.int .i64 0, .bool false]) w := by kernel_rfl
@[go_sem] theorem ta_9_2 (v : Value) (w : World) : (Instr.typeAssert (.iface 9 v) 20 2 true).run Tryf.prog w = .ok (.tuple #[.int .i64 0, .bool false]) w := by kernel_rfl
@[go_sem] theorem ta_22_2 (v : Value) (w : World) : (Instr.typeAssert (.iface 22 v) 20 2 true).run Tryf.prog w = .ok (.tuple #[.int .i64 0, .bool false]) w := by kernel_rfl
@[go_sem] theorem ta_4_2 (v : Value) (w : World) : (Instr.typeAssert (.iface 4 v) 20 2 true).run Tryf.prog w = .ok (.tuple #[.int .i64 0, .bool false]) w := by kernel_rfl
@[go_sem] theorem ta_nil_2 (w : World) : (Instr.typeAssert .nilIface 20 2 true).run Tryf.prog w = .ok (.tuple #[.int .i64 0, .bool false]) w := by kernel_rfl
@[go_sem] theorem ta_3_45 (v : Value) (w : World) : (Instr.typeAssert (.iface 3 v) 20 45 true).run Tryf.prog w = .ok (.tuple #[.int .u64 0, .bool false]) w := by kernel_rfl
@[go_sem] theorem ta_33_45 (v : Value) (w : World) : (Instr.typeAssert (.iface 33 v) 20 45 true).run Tryf.prog w = .ok (.tuple #[.int .u64 0, .bool false]) w := by kernel_rfl
@[go_sem] theorem ta_35_45 (v : Value) (w : World) : (Instr.typeAssert (.iface 35 v) 20 45 true).run Tryf.prog w = .ok (.tuple #[.int .u64 0, .bool false]) w := by kernel_rfl
@[go_sem] theorem ta_21_45 (v : Value) (w : World) : (Instr.typeAssert (.iface 21 v) 20 45 true).run Tryf.prog w = .ok (.tuple #[.int .u64 0, .bool false]) w := by kernel_rfl
@[go_sem] theorem ta_2_45 (v : Value) (w : World) : (Instr.typeAssert (.iface 2 v) 20 45 true).run Tryf.prog w = .ok (.tuple #[.int .u64 0, .bool false]) w := by kernel_rfl
@[go_sem] theorem ta_45_45 (v : Value) (w : World) : (Instr.typeAssert (.iface 45 v) 20 45 true).run Tryf.prog w = .ok (.tuple #[v, .bool true]) w := by kernel_rfl
@[go_sem] theorem ta_5_45 (v : Value) (w : World) : (Instr.typeAssert (.iface 5 v) 20 45 true).run Tryf.prog w = .ok (.tuple #[.int .u64 0, .bool false]) w := by kernel_rfl
@[go_sem] theorem ta_41_45 (v : Value) (w : World) : (Instr.typeAssert (.iface 41 v) 20 45 true).run Tryf.prog w = .ok (.tuple #[.int .u64 0, .bool false]) w := by kernel_rfl
@[go_sem] theorem ta_43_45 (v : Value) (w : World) : (Instr.typeAssert (.iface 43 v) 20 45 true).run Tryf.prog w = .ok (.tuple #[.int .u64 0, .bool false]) w := by kernel_rfl
@[go_sem] theorem ta_29_45 (v : Value) (w : World) : (Instr.typeAssert (.iface 29 v) 20 45 true).run Tryf.prog w = .ok (.tuple #[.int .u64 0, .bool false]) w := by kernel_rfl
@[go_sem] theorem ta_9_45 (v : Value) (w : World) : (Instr.typeAssert (.iface 9 v) 20 45 true).run Tryf.prog w = .ok (.tuple #[.int .u64 0, .bool false]) w := by kernel_rfl
@[go_sem] theorem ta_22_45 (v : Value) (w : World) : (Instr.typeAssert (.iface 22 v) 20 45 true).run Tryf.prog w = .ok (.tuple #[.int .u64 0, .bool false]) w := by kernel_rfl
@[go_sem] theorem ta_4_45 (v : Value) (w : World) : (Instr.typeAssert (.iface 4 v) 20 45 true).run Tryf.prog w = .ok (.tuple #[.int .u64 0, .bool false]) w := by kernel_rfl
@[go_sem] theorem ta_nil_45 (w : World) : (Instr.typeAssert .nilIface 20 45 true).run Tryf.prog w = .ok (.tuple #[.int .u64 0, .bool false]) w := by kernel_rfl
@[go_sem] theorem ta_3_5 (v : Value) (w : World) : (Instr.typeAssert (.iface 3 v) 20 5 true).run Tryf.prog w = .ok (.tuple #[.int .u8 0, .bool false]) w := by kernel_rfl
@[go_sem] theorem ta_33_5 (v : Value) (w : World) : (Instr.typeAssert (.iface 33 v) 20 5 true).run Tryf.prog w = .ok (.tuple #[.int .u8 0, .bool false]) w := by kernel_rfl
@[go_sem] theorem ta_35_5 (v : Value) (w : World) : (Instr.typeAssert (.iface 35 v) 20 5 true).run Tryf.prog w = .ok (.tuple #[.int .u8 0, .bool false]) w := by kernel_rfl
@[go_sem] theorem ta_21_5 (v : Value) (w : World) : (Instr.typeAssert (.iface 21 v) 20 5 true).run Tryf.prog w = .ok (.tuple #[.int .u8 0, .bool false]) w := by kernel_rfl
@[go_sem] theorem ta_2_5 (v : Value) (w : World) : (Instr.typeAssert (.iface 2 v) 20 5 true).run Tryf.prog w = .ok (.tuple #[.int .u8 0, .bool false]) w := by kernel_rfl
@[go_sem] theorem ta_45_5 (v : Value) (w : World) : (Instr.typeAssert (.iface 45 v) 20 5 true).run Tryf.prog w = .ok (.tuple #[.int .u8 0, .bool false]) w := by kernel_rfl
@[go_sem] theorem ta_5_5 (v : Value) (w : World) : (Instr.typeAssert (.iface 5 v) 20 5 true).run Tryf.prog w = .ok (.tuple #[v, .bool true]) w := by kernel_rfl
@[go_sem] theorem ta_41_5 (v : Value) (w : World) : (Instr.typeAssert (.iface 41 v) 20 5 true).run Tryf.prog w = .ok (.tuple #[.int .u8 0, .bool false]) w := by kernel_rfl
@[go_sem] theorem ta_43_5 (v : Value) (w : World) : (Instr.typeAssert (.iface 43 v) 20 5 true).run Tryf.prog w = .ok (.tuple #[.int .u8 0, .bool false]) w := by kernel_rfl
@[go_sem] theorem ta_29_5 (v : Value) (w : World) : (Instr.typeAssert (.iface 29 v) 20 5 true).run Tryf.prog w = .ok (.tuple #[.int .u8 0, .bool false]) w := by kernel_rfl
@[go_sem] theorem ta_9_5 (v : Value) (w : World) : (Instr.typeAssert (.iface 9 v) 20 5 true).run Tryf.prog w = .ok (.tuple #[.int .u8 0, .bool false]) w := by kernel_rfl
@[go_sem] theorem ta_22_5 (v : Value) (w : World) : (Instr.typeAssert (.iface 22 v) 20 5 true).run Tryf.prog w = .ok (.tuple #[.int .u8 0, .bool false]) w := by kernel_rfl
@[go_sem] theorem ta_4_5 (v : Value) (w : World) : (Instr.typeAssert (.iface 4 v) 20 5 true).run Tryf.prog w = .ok (.tuple #[.int .u8 0, .bool false]) w := by kernel_rfl
@[go_sem] theorem ta_nil_5 (w : World) : (Instr.typeAssert .nilIface 20 5 true).run Tryf.prog w = .ok (.tuple #[.int .u8 0, .bool false]) w := by kernel_rfl
@[go_sem] theorem ta_3_41 (v : Value) (w : World) : (Instr.typeAssert (.iface 3 v) 20 41 true).run Tryf.prog w = .ok (.tuple #[.int .u16 0, .bool false]) w := by kernel_rfl
@[go_sem] theorem ta_33_41 (v : Value) (w : World) : (Instr.typeAssert (.iface 33 v) 20 41 true).run Tryf.prog w = .ok (.tuple #[.int .u16 0, .bool false]) w := by kernel_rfl
@[go_sem] theorem ta_35_41 (v : Value) (w : World) : (Instr.typeAssert (.iface 35 v) 20 41 true).run Tryf.prog w = .ok (.tuple #[.int .u16 0, .bool false]) w := by kernel_rfl
@[go_sem] theorem ta_21_41 (v : Value) (w : World) : (Instr.typeAssert (.iface 21 v) 20 41 true).run Tryf.prog w = .ok (.tuple #[.int .u16 0, .bool false]) w := by kernel_rfl
@[go_sem] theorem ta_2_41 (v : Value) (w : World) : (Instr.typeAssert (.iface 2 v) 20 41 true).run Tryf.prog w = .ok (.tuple #[.int .u16 0, .bool false]) w := by kernel_rfl
@[go_sem] theorem ta_45_41 (v : Value) (w : World) : (Instr.typeAssert (.iface 45 v) 20 41 true).run Tryf.prog w = .ok (.tuple #[.int .u16 0, .bool false]) w := by kernel_rfl
@[go_sem] theorem ta_5_41 (v : Value) (w : World) : (Instr.typeAssert (.iface 5 v) 20 41 true).run Tryf.prog w = .ok (.tuple #[.int .u16 0, .bool false]) w := by kernel_rfl
@[go_sem] theorem ta_41_41 (v : Value) (w : World) : (Instr.typeAssert (.iface 41 v) 20 41 true).run Tryf.prog w = .ok (.tuple #[v, .bool true]) w := by kernel_rfl
@[go_sem] theorem ta_43_41 (v : Value) (w : World) : (Instr.typeAssert (.iface 43 v) 20 41 true).run Tryf.prog w = .ok (.tuple #[.int .u16 0, .bool false]) w := by kernel_rfl
@[go_sem] theorem ta_29_41 (v : Value) (w : World) : (Instr.typeAssert (.iface 29 v) 20 41 true).run Tryf.prog w = .ok (.tuple #[.int .u16 0, .bool false]) w := by kernel_rfl
@[go_sem] theorem ta_9_41 (v : Value) (w : World) : (Instr.typeAssert (.iface 9 v) 20 41 true).run Tryf.prog w = .ok (.tuple #[.int .u16 0, .bool false]) w := by kernel_rfl
@[go_sem] theorem ta_22_41 (v : Value) (w : World) : (Instr.typeAssert (.iface 22 v) 20 41 true).run Tryf.prog w = .ok (.tuple #[.int .u16 0, .bool false]) w := by kernel_rfl
@[go_sem] theorem ta_4_41 (v : Value) (w : World) : (Instr.typeAssert (.iface 4 v) 20 41 true).run Tryf.prog w = .ok (.tuple #[.int .u16 0, .bool false]) w := by kernel_rfl
@[go_sem] theorem ta_nil_41 (w : World) : (Instr.typeAssert .nilIface 20 41 true).run Tryf.prog w = .ok (.tuple #[.int .u16 0, .bool false]) w := by kernel_rfl
@[go_sem] theorem ta_3_43 (v : Value) (w : World) : (Instr.typeAssert (.iface 3 v) 20 43 true).run Tryf.prog w = .ok (.tuple #[.int .u32 0, .bool false]) w := by kernel_rfl
@[go_sem] theorem ta_33_43 (v : Value) (w : World) : (Instr.typeAssert (.iface 33 v) 20 43 true).run Tryf.prog w = .ok (.tuple #[.int .u32 0, .bool false]) w := by kernel_rfl
@[go_sem] theorem ta_35_43 (v : Value) (w : World) : (Instr.typeAssert (.iface 35 v) 20 43 true).run Tryf.prog w = .ok (.tuple #[.int .u32 0, .bool false]) w := by kernel_rfl
@[go_sem] theorem ta_21_43 (v : Value) (w : World) : (Instr.typeAssert (.iface 21 v) 20 43 true).run Tryf.prog w = .ok (.tuple #[.int .u32 0, .bool false]) w := by kernel_rfl
@[go_sem] theorem ta_2_43 (v : Value) (w : World) : (Instr.typeAssert (.iface 2 v) 20 43 true).run Tryf.prog w = .ok (.tuple #[.int .u32 0, .bool false]) w := by kernel_rfl
@[go_sem] theorem ta_45_43 (v : Value) (w : World) : (Instr.typeAssert (.iface 45 v) 20 43 true).run Tryf.prog w = .ok (.tuple #[.int .u32 0, .bool false]) w := by kernel_rfl
@[go_sem] theorem ta_5_43 (v : Value) (w : World) : (Instr.typeAssert (.iface 5 v) 20 43 true).run Tryf.prog w = .ok (.tuple #[.int .u32 0, .bool false]) w := by kernel_rfl
@[go_sem] theorem ta_41_43 (v : Value) (w : World) : (Instr.typeAssert (.iface 41 v) 20 43 true).run Tryf.prog w = .ok (.tuple #[.int .u32 0, .bool false]) w := by kernel_rfl
@[go_sem] theorem ta_43_43 (v : Value) (w : World) : (Instr.typeAssert (.iface 43 v) 20 43 true).run Tryf.prog w = .ok (.tuple #[v, .bool true]) w := by kernel_rfl
@[go_sem] theorem ta_29_43 (v : Value) (w : World) : (Instr.typeAssert (.iface 29 v) 20 43 true).run Tryf.prog w = .ok (.tuple #[.int .u32 0, .bool false]) w := by kernel_rfl
@[go_sem] theorem ta_9_43 (v : Value) (w : World) : (Instr.typeAssert (.iface 9 v) 20 43 true).run Tryf.prog w = .ok (.tuple #[.int .u32 0, .bool false]) w := by kernel_rfl
@[go_sem] theorem ta_22_43 (v : Value) (w : World) : (Instr.typeAssert (.iface 22 v) 20 43 true).run Tryf.prog w = .ok (.tuple #[.int .u32 0, .bool false]) w := by kernel_rfl
@[go_sem] theorem ta_4_43 (v : Value) (w : World) : (Instr.typeAssert (.iface 4 v) 20 43 true).run Tryf.prog w = .ok (.tuple #[.int .u32 0, .bool false]) w := by kernel_rfl
@[go_sem] theorem ta_nil_43 (w : World) : (Instr.typeAssert .nilIface 20 43 true).run Tryf.prog w = .ok (.tuple #[.int .u32 0, .bool false]) w := by kernel_rfl
@[go_sem] theorem ta_3_29 (v : Value) (w : World) : (Instr.typeAssert (.iface 3 v) 20 29 true).run Tryf.prog w = .ok (.tuple #[.int .u64 0, .bool false]) w := by kernel_rfl
@[go_sem] theorem ta_33_29 (v : Value) (w : World) : (Instr.typeAssert (.iface 33 v) 20 29 true).run Tryf.prog w = .ok (.tuple #[.int .u64 0, .bool false]) w := by kernel_rfl
@[go_sem] theorem ta_35_29 (v : Value) (w : World) : (Instr.typeAssert (.iface 35 v) 20 29 true).run Tryf.prog w = .ok (.tuple #[.int .u64 0, .bool false]) w := by kernel_rfl
@[go_sem] theorem ta_21_29 (v : Value) (w : World) : (Instr.typeAssert (.iface 21 v) 20 29 true).run Tryf.prog w = .ok (.tuple #[.int .u64 0, .bool false]) w := by kernel_rfl
@[go_sem] theorem ta_2_29 (v : Value) (w : World) : (Instr.typeAssert (.iface 2 v) 20 29 true).run Tryf.prog w = .ok (.tuple #[.int .u64 0, .bool false]) w := by kernel_rfl
@[go_sem] theorem ta_45_29 (v : Value) (w : World) : (Instr.typeAssert (.iface 45 v) 20 29 true).run Tryf.prog w = .ok (.tuple #[.int .u64 0, .bool false]) w := by kernel_rfl
@[go_sem] theorem ta_5_29 (v : Value) (w : World) : (Instr.typeAssert (.iface 5 v) 20 29 true).run Tryf.prog w = .ok (.tuple #[.int .u64 0, .bool false]) w := by kernel_rfl
@[go_sem] theorem ta_41_29 (v : Value) (w : World) : (Instr.typeAssert (.iface 41 v) 20 29 true).run Tryf.prog w = .ok (.tuple #[.int .u64 0, .bool false]) w := by kernel_rfl
@[go_sem] theorem ta_43_29 (v : Value) (w : World) : (Instr.typeAssert (.iface 43 v) 20 29 true).run Tryf.prog w = .ok (.tuple #[.int .u64 0, .bool false]) w := by kernel_rfl
@[go_sem] theorem ta_29_29 (v : Value) (w : World) : (Instr.typeAssert (.iface 29 v) 20 29 true).run Tryf.prog w = .ok (.tuple #[v, .bool true]) w := by kernel_rfl
@[go_sem] theorem ta_9_29 (v : Value) (w : World) : (Instr.typeAssert (.iface 9 v) 20 29 true).run Tryf.prog w = .ok (.tuple #[.int .u64 0, .bool false]) w := by kernel_rfl
@[go_sem] theorem ta_22_29 (v : Value) (w : World) : (Instr.typeAssert (.iface 22 v) 20 29 true).run Tryf.prog w = .ok (.tuple #[.int .u64 0, .bool false]) w := by kernel_rfl
@[go_sem] theorem ta_4_29 (v : Value) (w : World) : (Instr.typeAssert (.iface 4 v) 20 29 true).run Tryf.prog w = .ok (.tuple #[.int .u64 0, .bool false]) w := by kernel_rfl
@[go_sem] theorem ta_nil_29 (w : World) : (Instr.typeAssert .nilIface 20 29 true).run Tryf.prog w = .ok (.tuple #[.int .u64 0, .bool false]) w := by kernel_rfl
end Go.Proofs.YtjhflbfpdgciiaaFmt
