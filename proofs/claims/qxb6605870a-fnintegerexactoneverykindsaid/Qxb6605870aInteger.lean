/-
  amqp.Integer at each dynamic type, and its shims: contracts (functions 5 to 19).
-/
import Derived.Test.Qxb6605870aRows
import Derived.WalkKit
import Derived.WalkSpells
import Derived.WalkLawsBesides
namespace Go.Proofs.Qxb6605870a
open Go.RowKit
set_option linter.unusedVariables false
set_option linter.unusedSimpArgs false

theorem hit_22 (v : Value) (w : World) : (Instr.typeAssert (.iface 22 v) 20 22 true).run Try.prog w = .ok (.tuple #[v, .bool true]) w := by kernel_rfl
theorem miss_5_22 (v : Value) (w : World) : (Instr.typeAssert (.iface 5 v) 20 22 true).run Try.prog w = .ok (.tuple #[.int .i8 0, .bool false]) w := by kernel_rfl
theorem miss_23_22 (v : Value) (w : World) : (Instr.typeAssert (.iface 23 v) 20 22 true).run Try.prog w = .ok (.tuple #[.int .i8 0, .bool false]) w := by kernel_rfl
theorem miss_24_22 (v : Value) (w : World) : (Instr.typeAssert (.iface 24 v) 20 22 true).run Try.prog w = .ok (.tuple #[.int .i8 0, .bool false]) w := by kernel_rfl
theorem miss_21_22 (v : Value) (w : World) : (Instr.typeAssert (.iface 21 v) 20 22 true).run Try.prog w = .ok (.tuple #[.int .i8 0, .bool false]) w := by kernel_rfl
theorem miss_25_22 (v : Value) (w : World) : (Instr.typeAssert (.iface 25 v) 20 22 true).run Try.prog w = .ok (.tuple #[.int .i8 0, .bool false]) w := by kernel_rfl
theorem miss_2_22 (v : Value) (w : World) : (Instr.typeAssert (.iface 2 v) 20 22 true).run Try.prog w = .ok (.tuple #[.int .i8 0, .bool false]) w := by kernel_rfl
theorem miss_3_22 (v : Value) (w : World) : (Instr.typeAssert (.iface 3 v) 20 22 true).run Try.prog w = .ok (.tuple #[.int .i8 0, .bool false]) w := by kernel_rfl
theorem miss_26_22 (v : Value) (w : World) : (Instr.typeAssert (.iface 26 v) 20 22 true).run Try.prog w = .ok (.tuple #[.int .i8 0, .bool false]) w := by kernel_rfl
theorem miss_27_22 (v : Value) (w : World) : (Instr.typeAssert (.iface 27 v) 20 22 true).run Try.prog w = .ok (.tuple #[.int .i8 0, .bool false]) w := by kernel_rfl
theorem miss_28_22 (v : Value) (w : World) : (Instr.typeAssert (.iface 28 v) 20 22 true).run Try.prog w = .ok (.tuple #[.int .i8 0, .bool false]) w := by kernel_rfl
theorem miss_9_22 (v : Value) (w : World) : (Instr.typeAssert (.iface 9 v) 20 22 true).run Try.prog w = .ok (.tuple #[.int .i8 0, .bool false]) w := by kernel_rfl
theorem miss_4_22 (v : Value) (w : World) : (Instr.typeAssert (.iface 4 v) 20 22 true).run Try.prog w = .ok (.tuple #[.int .i8 0, .bool false]) w := by kernel_rfl
theorem miss_nil_22 (w : World) : (Instr.typeAssert .nilIface 20 22 true).run Try.prog w = .ok (.tuple #[.int .i8 0, .bool false]) w := by kernel_rfl
theorem hit_5 (v : Value) (w : World) : (Instr.typeAssert (.iface 5 v) 20 5 true).run Try.prog w = .ok (.tuple #[v, .bool true]) w := by kernel_rfl
theorem miss_22_5 (v : Value) (w : World) : (Instr.typeAssert (.iface 22 v) 20 5 true).run Try.prog w = .ok (.tuple #[.int .u8 0, .bool false]) w := by kernel_rfl
theorem miss_23_5 (v : Value) (w : World) : (Instr.typeAssert (.iface 23 v) 20 5 true).run Try.prog w = .ok (.tuple #[.int .u8 0, .bool false]) w := by kernel_rfl
theorem miss_24_5 (v : Value) (w : World) : (Instr.typeAssert (.iface 24 v) 20 5 true).run Try.prog w = .ok (.tuple #[.int .u8 0, .bool false]) w := by kernel_rfl
theorem miss_21_5 (v : Value) (w : World) : (Instr.typeAssert (.iface 21 v) 20 5 true).run Try.prog w = .ok (.tuple #[.int .u8 0, .bool false]) w := by kernel_rfl
theorem miss_25_5 (v : Value) (w : World) : (Instr.typeAssert (.iface 25 v) 20 5 true).run Try.prog w = .ok (.tuple #[.int .u8 0, .bool false]) w := by kernel_rfl
theorem miss_2_5 (v : Value) (w : World) : (Instr.typeAssert (.iface 2 v) 20 5 true).run Try.prog w = .ok (.tuple #[.int .u8 0, .bool false]) w := by kernel_rfl
theorem miss_3_5 (v : Value) (w : World) : (Instr.typeAssert (.iface 3 v) 20 5 true).run Try.prog w = .ok (.tuple #[.int .u8 0, .bool false]) w := by kernel_rfl
theorem miss_26_5 (v : Value) (w : World) : (Instr.typeAssert (.iface 26 v) 20 5 true).run Try.prog w = .ok (.tuple #[.int .u8 0, .bool false]) w := by kernel_rfl
theorem miss_27_5 (v : Value) (w : World) : (Instr.typeAssert (.iface 27 v) 20 5 true).run Try.prog w = .ok (.tuple #[.int .u8 0, .bool false]) w := by kernel_rfl
theorem miss_28_5 (v : Value) (w : World) : (Instr.typeAssert (.iface 28 v) 20 5 true).run Try.prog w = .ok (.tuple #[.int .u8 0, .bool false]) w := by kernel_rfl
theorem miss_9_5 (v : Value) (w : World) : (Instr.typeAssert (.iface 9 v) 20 5 true).run Try.prog w = .ok (.tuple #[.int .u8 0, .bool false]) w := by kernel_rfl
theorem miss_4_5 (v : Value) (w : World) : (Instr.typeAssert (.iface 4 v) 20 5 true).run Try.prog w = .ok (.tuple #[.int .u8 0, .bool false]) w := by kernel_rfl
theorem miss_nil_5 (w : World) : (Instr.typeAssert .nilIface 20 5 true).run Try.prog w = .ok (.tuple #[.int .u8 0, .bool false]) w := by kernel_rfl
theorem hit_23 (v : Value) (w : World) : (Instr.typeAssert (.iface 23 v) 20 23 true).run Try.prog w = .ok (.tuple #[v, .bool true]) w := by kernel_rfl
theorem miss_22_23 (v : Value) (w : World) : (Instr.typeAssert (.iface 22 v) 20 23 true).run Try.prog w = .ok (.tuple #[.int .i16 0, .bool false]) w := by kernel_rfl
theorem miss_5_23 (v : Value) (w : World) : (Instr.typeAssert (.iface 5 v) 20 23 true).run Try.prog w = .ok (.tuple #[.int .i16 0, .bool false]) w := by kernel_rfl
theorem miss_24_23 (v : Value) (w : World) : (Instr.typeAssert (.iface 24 v) 20 23 true).run Try.prog w = .ok (.tuple #[.int .i16 0, .bool false]) w := by kernel_rfl
theorem miss_21_23 (v : Value) (w : World) : (Instr.typeAssert (.iface 21 v) 20 23 true).run Try.prog w = .ok (.tuple #[.int .i16 0, .bool false]) w := by kernel_rfl
theorem miss_25_23 (v : Value) (w : World) : (Instr.typeAssert (.iface 25 v) 20 23 true).run Try.prog w = .ok (.tuple #[.int .i16 0, .bool false]) w := by kernel_rfl
theorem miss_2_23 (v : Value) (w : World) : (Instr.typeAssert (.iface 2 v) 20 23 true).run Try.prog w = .ok (.tuple #[.int .i16 0, .bool false]) w := by kernel_rfl
theorem miss_3_23 (v : Value) (w : World) : (Instr.typeAssert (.iface 3 v) 20 23 true).run Try.prog w = .ok (.tuple #[.int .i16 0, .bool false]) w := by kernel_rfl
theorem miss_26_23 (v : Value) (w : World) : (Instr.typeAssert (.iface 26 v) 20 23 true).run Try.prog w = .ok (.tuple #[.int .i16 0, .bool false]) w := by kernel_rfl
theorem miss_27_23 (v : Value) (w : World) : (Instr.typeAssert (.iface 27 v) 20 23 true).run Try.prog w = .ok (.tuple #[.int .i16 0, .bool false]) w := by kernel_rfl
theorem miss_28_23 (v : Value) (w : World) : (Instr.typeAssert (.iface 28 v) 20 23 true).run Try.prog w = .ok (.tuple #[.int .i16 0, .bool false]) w := by kernel_rfl
theorem miss_9_23 (v : Value) (w : World) : (Instr.typeAssert (.iface 9 v) 20 23 true).run Try.prog w = .ok (.tuple #[.int .i16 0, .bool false]) w := by kernel_rfl
theorem miss_4_23 (v : Value) (w : World) : (Instr.typeAssert (.iface 4 v) 20 23 true).run Try.prog w = .ok (.tuple #[.int .i16 0, .bool false]) w := by kernel_rfl
theorem miss_nil_23 (w : World) : (Instr.typeAssert .nilIface 20 23 true).run Try.prog w = .ok (.tuple #[.int .i16 0, .bool false]) w := by kernel_rfl
theorem hit_24 (v : Value) (w : World) : (Instr.typeAssert (.iface 24 v) 20 24 true).run Try.prog w = .ok (.tuple #[v, .bool true]) w := by kernel_rfl
theorem miss_22_24 (v : Value) (w : World) : (Instr.typeAssert (.iface 22 v) 20 24 true).run Try.prog w = .ok (.tuple #[.int .u16 0, .bool false]) w := by kernel_rfl
theorem miss_5_24 (v : Value) (w : World) : (Instr.typeAssert (.iface 5 v) 20 24 true).run Try.prog w = .ok (.tuple #[.int .u16 0, .bool false]) w := by kernel_rfl
theorem miss_23_24 (v : Value) (w : World) : (Instr.typeAssert (.iface 23 v) 20 24 true).run Try.prog w = .ok (.tuple #[.int .u16 0, .bool false]) w := by kernel_rfl
theorem miss_21_24 (v : Value) (w : World) : (Instr.typeAssert (.iface 21 v) 20 24 true).run Try.prog w = .ok (.tuple #[.int .u16 0, .bool false]) w := by kernel_rfl
theorem miss_25_24 (v : Value) (w : World) : (Instr.typeAssert (.iface 25 v) 20 24 true).run Try.prog w = .ok (.tuple #[.int .u16 0, .bool false]) w := by kernel_rfl
theorem miss_2_24 (v : Value) (w : World) : (Instr.typeAssert (.iface 2 v) 20 24 true).run Try.prog w = .ok (.tuple #[.int .u16 0, .bool false]) w := by kernel_rfl
theorem miss_3_24 (v : Value) (w : World) : (Instr.typeAssert (.iface 3 v) 20 24 true).run Try.prog w = .ok (.tuple #[.int .u16 0, .bool false]) w := by kernel_rfl
theorem miss_26_24 (v : Value) (w : World) : (Instr.typeAssert (.iface 26 v) 20 24 true).run Try.prog w = .ok (.tuple #[.int .u16 0, .bool false]) w := by kernel_rfl
theorem miss_27_24 (v : Value) (w : World) : (Instr.typeAssert (.iface 27 v) 20 24 true).run Try.prog w = .ok (.tuple #[.int .u16 0, .bool false]) w := by kernel_rfl
theorem miss_28_24 (v : Value) (w : World) : (Instr.typeAssert (.iface 28 v) 20 24 true).run Try.prog w = .ok (.tuple #[.int .u16 0, .bool false]) w := by kernel_rfl
theorem miss_9_24 (v : Value) (w : World) : (Instr.typeAssert (.iface 9 v) 20 24 true).run Try.prog w = .ok (.tuple #[.int .u16 0, .bool false]) w := by kernel_rfl
theorem miss_4_24 (v : Value) (w : World) : (Instr.typeAssert (.iface 4 v) 20 24 true).run Try.prog w = .ok (.tuple #[.int .u16 0, .bool false]) w := by kernel_rfl
theorem miss_nil_24 (w : World) : (Instr.typeAssert .nilIface 20 24 true).run Try.prog w = .ok (.tuple #[.int .u16 0, .bool false]) w := by kernel_rfl
theorem hit_21 (v : Value) (w : World) : (Instr.typeAssert (.iface 21 v) 20 21 true).run Try.prog w = .ok (.tuple #[v, .bool true]) w := by kernel_rfl
theorem miss_22_21 (v : Value) (w : World) : (Instr.typeAssert (.iface 22 v) 20 21 true).run Try.prog w = .ok (.tuple #[.int .i32 0, .bool false]) w := by kernel_rfl
theorem miss_5_21 (v : Value) (w : World) : (Instr.typeAssert (.iface 5 v) 20 21 true).run Try.prog w = .ok (.tuple #[.int .i32 0, .bool false]) w := by kernel_rfl
theorem miss_23_21 (v : Value) (w : World) : (Instr.typeAssert (.iface 23 v) 20 21 true).run Try.prog w = .ok (.tuple #[.int .i32 0, .bool false]) w := by kernel_rfl
theorem miss_24_21 (v : Value) (w : World) : (Instr.typeAssert (.iface 24 v) 20 21 true).run Try.prog w = .ok (.tuple #[.int .i32 0, .bool false]) w := by kernel_rfl
theorem miss_25_21 (v : Value) (w : World) : (Instr.typeAssert (.iface 25 v) 20 21 true).run Try.prog w = .ok (.tuple #[.int .i32 0, .bool false]) w := by kernel_rfl
theorem miss_2_21 (v : Value) (w : World) : (Instr.typeAssert (.iface 2 v) 20 21 true).run Try.prog w = .ok (.tuple #[.int .i32 0, .bool false]) w := by kernel_rfl
theorem miss_3_21 (v : Value) (w : World) : (Instr.typeAssert (.iface 3 v) 20 21 true).run Try.prog w = .ok (.tuple #[.int .i32 0, .bool false]) w := by kernel_rfl
theorem miss_26_21 (v : Value) (w : World) : (Instr.typeAssert (.iface 26 v) 20 21 true).run Try.prog w = .ok (.tuple #[.int .i32 0, .bool false]) w := by kernel_rfl
theorem miss_27_21 (v : Value) (w : World) : (Instr.typeAssert (.iface 27 v) 20 21 true).run Try.prog w = .ok (.tuple #[.int .i32 0, .bool false]) w := by kernel_rfl
theorem miss_28_21 (v : Value) (w : World) : (Instr.typeAssert (.iface 28 v) 20 21 true).run Try.prog w = .ok (.tuple #[.int .i32 0, .bool false]) w := by kernel_rfl
theorem miss_9_21 (v : Value) (w : World) : (Instr.typeAssert (.iface 9 v) 20 21 true).run Try.prog w = .ok (.tuple #[.int .i32 0, .bool false]) w := by kernel_rfl
theorem miss_4_21 (v : Value) (w : World) : (Instr.typeAssert (.iface 4 v) 20 21 true).run Try.prog w = .ok (.tuple #[.int .i32 0, .bool false]) w := by kernel_rfl
theorem miss_nil_21 (w : World) : (Instr.typeAssert .nilIface 20 21 true).run Try.prog w = .ok (.tuple #[.int .i32 0, .bool false]) w := by kernel_rfl
theorem hit_25 (v : Value) (w : World) : (Instr.typeAssert (.iface 25 v) 20 25 true).run Try.prog w = .ok (.tuple #[v, .bool true]) w := by kernel_rfl
theorem miss_22_25 (v : Value) (w : World) : (Instr.typeAssert (.iface 22 v) 20 25 true).run Try.prog w = .ok (.tuple #[.int .u32 0, .bool false]) w := by kernel_rfl
theorem miss_5_25 (v : Value) (w : World) : (Instr.typeAssert (.iface 5 v) 20 25 true).run Try.prog w = .ok (.tuple #[.int .u32 0, .bool false]) w := by kernel_rfl
theorem miss_23_25 (v : Value) (w : World) : (Instr.typeAssert (.iface 23 v) 20 25 true).run Try.prog w = .ok (.tuple #[.int .u32 0, .bool false]) w := by kernel_rfl
theorem miss_24_25 (v : Value) (w : World) : (Instr.typeAssert (.iface 24 v) 20 25 true).run Try.prog w = .ok (.tuple #[.int .u32 0, .bool false]) w := by kernel_rfl
theorem miss_21_25 (v : Value) (w : World) : (Instr.typeAssert (.iface 21 v) 20 25 true).run Try.prog w = .ok (.tuple #[.int .u32 0, .bool false]) w := by kernel_rfl
theorem miss_2_25 (v : Value) (w : World) : (Instr.typeAssert (.iface 2 v) 20 25 true).run Try.prog w = .ok (.tuple #[.int .u32 0, .bool false]) w := by kernel_rfl
theorem miss_3_25 (v : Value) (w : World) : (Instr.typeAssert (.iface 3 v) 20 25 true).run Try.prog w = .ok (.tuple #[.int .u32 0, .bool false]) w := by kernel_rfl
theorem miss_26_25 (v : Value) (w : World) : (Instr.typeAssert (.iface 26 v) 20 25 true).run Try.prog w = .ok (.tuple #[.int .u32 0, .bool false]) w := by kernel_rfl
theorem miss_27_25 (v : Value) (w : World) : (Instr.typeAssert (.iface 27 v) 20 25 true).run Try.prog w = .ok (.tuple #[.int .u32 0, .bool false]) w := by kernel_rfl
theorem miss_28_25 (v : Value) (w : World) : (Instr.typeAssert (.iface 28 v) 20 25 true).run Try.prog w = .ok (.tuple #[.int .u32 0, .bool false]) w := by kernel_rfl
theorem miss_9_25 (v : Value) (w : World) : (Instr.typeAssert (.iface 9 v) 20 25 true).run Try.prog w = .ok (.tuple #[.int .u32 0, .bool false]) w := by kernel_rfl
theorem miss_4_25 (v : Value) (w : World) : (Instr.typeAssert (.iface 4 v) 20 25 true).run Try.prog w = .ok (.tuple #[.int .u32 0, .bool false]) w := by kernel_rfl
theorem miss_nil_25 (w : World) : (Instr.typeAssert .nilIface 20 25 true).run Try.prog w = .ok (.tuple #[.int .u32 0, .bool false]) w := by kernel_rfl
theorem hit_2 (v : Value) (w : World) : (Instr.typeAssert (.iface 2 v) 20 2 true).run Try.prog w = .ok (.tuple #[v, .bool true]) w := by kernel_rfl
theorem miss_22_2 (v : Value) (w : World) : (Instr.typeAssert (.iface 22 v) 20 2 true).run Try.prog w = .ok (.tuple #[.int .i64 0, .bool false]) w := by kernel_rfl
theorem miss_5_2 (v : Value) (w : World) : (Instr.typeAssert (.iface 5 v) 20 2 true).run Try.prog w = .ok (.tuple #[.int .i64 0, .bool false]) w := by kernel_rfl
theorem miss_23_2 (v : Value) (w : World) : (Instr.typeAssert (.iface 23 v) 20 2 true).run Try.prog w = .ok (.tuple #[.int .i64 0, .bool false]) w := by kernel_rfl
theorem miss_24_2 (v : Value) (w : World) : (Instr.typeAssert (.iface 24 v) 20 2 true).run Try.prog w = .ok (.tuple #[.int .i64 0, .bool false]) w := by kernel_rfl
theorem miss_21_2 (v : Value) (w : World) : (Instr.typeAssert (.iface 21 v) 20 2 true).run Try.prog w = .ok (.tuple #[.int .i64 0, .bool false]) w := by kernel_rfl
theorem miss_25_2 (v : Value) (w : World) : (Instr.typeAssert (.iface 25 v) 20 2 true).run Try.prog w = .ok (.tuple #[.int .i64 0, .bool false]) w := by kernel_rfl
theorem miss_3_2 (v : Value) (w : World) : (Instr.typeAssert (.iface 3 v) 20 2 true).run Try.prog w = .ok (.tuple #[.int .i64 0, .bool false]) w := by kernel_rfl
theorem miss_26_2 (v : Value) (w : World) : (Instr.typeAssert (.iface 26 v) 20 2 true).run Try.prog w = .ok (.tuple #[.int .i64 0, .bool false]) w := by kernel_rfl
theorem miss_27_2 (v : Value) (w : World) : (Instr.typeAssert (.iface 27 v) 20 2 true).run Try.prog w = .ok (.tuple #[.int .i64 0, .bool false]) w := by kernel_rfl
theorem miss_28_2 (v : Value) (w : World) : (Instr.typeAssert (.iface 28 v) 20 2 true).run Try.prog w = .ok (.tuple #[.int .i64 0, .bool false]) w := by kernel_rfl
theorem miss_9_2 (v : Value) (w : World) : (Instr.typeAssert (.iface 9 v) 20 2 true).run Try.prog w = .ok (.tuple #[.int .i64 0, .bool false]) w := by kernel_rfl
theorem miss_4_2 (v : Value) (w : World) : (Instr.typeAssert (.iface 4 v) 20 2 true).run Try.prog w = .ok (.tuple #[.int .i64 0, .bool false]) w := by kernel_rfl
theorem miss_nil_2 (w : World) : (Instr.typeAssert .nilIface 20 2 true).run Try.prog w = .ok (.tuple #[.int .i64 0, .bool false]) w := by kernel_rfl
theorem hit_3 (v : Value) (w : World) : (Instr.typeAssert (.iface 3 v) 20 3 true).run Try.prog w = .ok (.tuple #[v, .bool true]) w := by kernel_rfl
theorem miss_22_3 (v : Value) (w : World) : (Instr.typeAssert (.iface 22 v) 20 3 true).run Try.prog w = .ok (.tuple #[.int .i64 0, .bool false]) w := by kernel_rfl
theorem miss_5_3 (v : Value) (w : World) : (Instr.typeAssert (.iface 5 v) 20 3 true).run Try.prog w = .ok (.tuple #[.int .i64 0, .bool false]) w := by kernel_rfl
theorem miss_23_3 (v : Value) (w : World) : (Instr.typeAssert (.iface 23 v) 20 3 true).run Try.prog w = .ok (.tuple #[.int .i64 0, .bool false]) w := by kernel_rfl
theorem miss_24_3 (v : Value) (w : World) : (Instr.typeAssert (.iface 24 v) 20 3 true).run Try.prog w = .ok (.tuple #[.int .i64 0, .bool false]) w := by kernel_rfl
theorem miss_21_3 (v : Value) (w : World) : (Instr.typeAssert (.iface 21 v) 20 3 true).run Try.prog w = .ok (.tuple #[.int .i64 0, .bool false]) w := by kernel_rfl
theorem miss_25_3 (v : Value) (w : World) : (Instr.typeAssert (.iface 25 v) 20 3 true).run Try.prog w = .ok (.tuple #[.int .i64 0, .bool false]) w := by kernel_rfl
theorem miss_2_3 (v : Value) (w : World) : (Instr.typeAssert (.iface 2 v) 20 3 true).run Try.prog w = .ok (.tuple #[.int .i64 0, .bool false]) w := by kernel_rfl
theorem miss_26_3 (v : Value) (w : World) : (Instr.typeAssert (.iface 26 v) 20 3 true).run Try.prog w = .ok (.tuple #[.int .i64 0, .bool false]) w := by kernel_rfl
theorem miss_27_3 (v : Value) (w : World) : (Instr.typeAssert (.iface 27 v) 20 3 true).run Try.prog w = .ok (.tuple #[.int .i64 0, .bool false]) w := by kernel_rfl
theorem miss_28_3 (v : Value) (w : World) : (Instr.typeAssert (.iface 28 v) 20 3 true).run Try.prog w = .ok (.tuple #[.int .i64 0, .bool false]) w := by kernel_rfl
theorem miss_9_3 (v : Value) (w : World) : (Instr.typeAssert (.iface 9 v) 20 3 true).run Try.prog w = .ok (.tuple #[.int .i64 0, .bool false]) w := by kernel_rfl
theorem miss_4_3 (v : Value) (w : World) : (Instr.typeAssert (.iface 4 v) 20 3 true).run Try.prog w = .ok (.tuple #[.int .i64 0, .bool false]) w := by kernel_rfl
theorem miss_nil_3 (w : World) : (Instr.typeAssert .nilIface 20 3 true).run Try.prog w = .ok (.tuple #[.int .i64 0, .bool false]) w := by kernel_rfl

set_option maxRecDepth 20000 in
set_option maxHeartbeats 400000 in
theorem int_5 (x : Int) (w : World) (h0 : -128 ≤ x) (h1 : x ≤ 127) :
    Calls Try.prog 5 #[.int .i8 x] w fun e w' => e = .returned (.tuple #[.int .i64 x, .bool true]) ∧ w = w' := by
  have t22 := hit_22
  go_enter Try.func5, Try.ntmps5
  go_wp2
  go_ret2
  exact ⟨rfl, rfl⟩

set_option maxRecDepth 20000 in
set_option maxHeartbeats 400000 in
theorem int_6 (x : Int) (w : World) (h0 : 0 ≤ x) (h1 : x ≤ 255) :
    Calls Try.prog 6 #[.int .u8 x] w fun e w' => e = .returned (.tuple #[.int .i64 x, .bool true]) ∧ w = w' := by
  have t22 := miss_5_22
  have t5 := hit_5
  go_enter Try.func6, Try.ntmps6
  go_wp2
  go_ret2
  exact ⟨rfl, rfl⟩

set_option maxRecDepth 20000 in
set_option maxHeartbeats 400000 in
theorem int_7 (x : Int) (w : World) (h0 : -32768 ≤ x) (h1 : x ≤ 32767) :
    Calls Try.prog 7 #[.int .i16 x] w fun e w' => e = .returned (.tuple #[.int .i64 x, .bool true]) ∧ w = w' := by
  have t22 := miss_23_22
  have t5 := miss_23_5
  have t23 := hit_23
  go_enter Try.func7, Try.ntmps7
  go_wp2
  go_ret2
  exact ⟨rfl, rfl⟩

set_option maxRecDepth 20000 in
set_option maxHeartbeats 400000 in
theorem int_8 (x : Int) (w : World) (h0 : 0 ≤ x) (h1 : x ≤ 65535) :
    Calls Try.prog 8 #[.int .u16 x] w fun e w' => e = .returned (.tuple #[.int .i64 x, .bool true]) ∧ w = w' := by
  have t22 := miss_24_22
  have t5 := miss_24_5
  have t23 := miss_24_23
  have t24 := hit_24
  go_enter Try.func8, Try.ntmps8
  go_wp2
  go_ret2
  exact ⟨rfl, rfl⟩

set_option maxRecDepth 20000 in
set_option maxHeartbeats 400000 in
theorem int_9 (x : Int) (w : World) (h0 : -2147483648 ≤ x) (h1 : x ≤ 2147483647) :
    Calls Try.prog 9 #[.int .i32 x] w fun e w' => e = .returned (.tuple #[.int .i64 x, .bool true]) ∧ w = w' := by
  have t22 := miss_21_22
  have t5 := miss_21_5
  have t23 := miss_21_23
  have t24 := miss_21_24
  have t21 := hit_21
  go_enter Try.func9, Try.ntmps9
  go_wp2
  go_ret2
  exact ⟨rfl, rfl⟩

set_option maxRecDepth 20000 in
set_option maxHeartbeats 400000 in
theorem int_10 (x : Int) (w : World) (h0 : 0 ≤ x) (h1 : x ≤ 4294967295) :
    Calls Try.prog 10 #[.int .u32 x] w fun e w' => e = .returned (.tuple #[.int .i64 x, .bool true]) ∧ w = w' := by
  have t22 := miss_25_22
  have t5 := miss_25_5
  have t23 := miss_25_23
  have t24 := miss_25_24
  have t21 := miss_25_21
  have t25 := hit_25
  go_enter Try.func10, Try.ntmps10
  go_wp2
  go_ret2
  exact ⟨rfl, rfl⟩

set_option maxRecDepth 20000 in
set_option maxHeartbeats 400000 in
theorem int_11 (x : Int) (w : World) (h0 : -9223372036854775808 ≤ x) (h1 : x ≤ 9223372036854775807) :
    Calls Try.prog 11 #[.int .i64 x] w fun e w' => e = .returned (.tuple #[.int .i64 x, .bool true]) ∧ w = w' := by
  have t22 := miss_2_22
  have t5 := miss_2_5
  have t23 := miss_2_23
  have t24 := miss_2_24
  have t21 := miss_2_21
  have t25 := miss_2_25
  have t2 := hit_2
  go_enter Try.func11, Try.ntmps11
  go_wp2
  go_ret2
  exact ⟨rfl, rfl⟩

set_option maxRecDepth 20000 in
set_option maxHeartbeats 400000 in
theorem int_12 (x : Int) (w : World) (h0 : -9223372036854775808 ≤ x) (h1 : x ≤ 9223372036854775807) :
    Calls Try.prog 12 #[.int .i64 x] w fun e w' => e = .returned (.tuple #[.int .i64 x, .bool true]) ∧ w = w' := by
  have t22 := miss_3_22
  have t5 := miss_3_5
  have t23 := miss_3_23
  have t24 := miss_3_24
  have t21 := miss_3_21
  have t25 := miss_3_25
  have t2 := miss_3_2
  have t3 := hit_3
  go_enter Try.func12, Try.ntmps12
  go_wp2
  go_ret2
  exact ⟨rfl, rfl⟩

set_option maxRecDepth 20000 in
set_option maxHeartbeats 400000 in
theorem int_13 (x : Int) (w : World) :
    Calls Try.prog 13 #[.int .u64 x] w fun e w' => e = .returned (.tuple #[.int .i64 0, .bool false]) ∧ w = w' := by
  have t22 := miss_26_22
  have t5 := miss_26_5
  have t23 := miss_26_23
  have t24 := miss_26_24
  have t21 := miss_26_21
  have t25 := miss_26_25
  have t2 := miss_26_2
  have t3 := miss_26_3
  go_enter Try.func13, Try.ntmps13
  go_wp2
  go_ret2
  exact ⟨rfl, rfl⟩

set_option maxRecDepth 20000 in
set_option maxHeartbeats 400000 in
theorem int_14 (x : Int) (w : World) :
    Calls Try.prog 14 #[.int .u64 x] w fun e w' => e = .returned (.tuple #[.int .i64 0, .bool false]) ∧ w = w' := by
  have t22 := miss_27_22
  have t5 := miss_27_5
  have t23 := miss_27_23
  have t24 := miss_27_24
  have t21 := miss_27_21
  have t25 := miss_27_25
  have t2 := miss_27_2
  have t3 := miss_27_3
  go_enter Try.func14, Try.ntmps14
  go_wp2
  go_ret2
  exact ⟨rfl, rfl⟩

set_option maxRecDepth 20000 in
set_option maxHeartbeats 400000 in
theorem int_15 (x : Value) (w : World) :
    Calls Try.prog 15 #[x] w fun e w' => e = .returned (.tuple #[.int .i64 0, .bool false]) ∧ w = w' := by
  have t22 := miss_28_22
  have t5 := miss_28_5
  have t23 := miss_28_23
  have t24 := miss_28_24
  have t21 := miss_28_21
  have t25 := miss_28_25
  have t2 := miss_28_2
  have t3 := miss_28_3
  go_enter Try.func15, Try.ntmps15
  go_wp2
  go_ret2
  exact ⟨rfl, rfl⟩

set_option maxRecDepth 20000 in
set_option maxHeartbeats 400000 in
theorem int_16 (x : ByteArray) (w : World) :
    Calls Try.prog 16 #[.string x] w fun e w' => e = .returned (.tuple #[.int .i64 0, .bool false]) ∧ w = w' := by
  have t22 := miss_9_22
  have t5 := miss_9_5
  have t23 := miss_9_23
  have t24 := miss_9_24
  have t21 := miss_9_21
  have t25 := miss_9_25
  have t2 := miss_9_2
  have t3 := miss_9_3
  go_enter Try.func16, Try.ntmps16
  go_wp2
  go_ret2
  exact ⟨rfl, rfl⟩

set_option maxRecDepth 20000 in
set_option maxHeartbeats 400000 in
theorem int_17 (x : Bool) (w : World) :
    Calls Try.prog 17 #[.bool x] w fun e w' => e = .returned (.tuple #[.int .i64 0, .bool false]) ∧ w = w' := by
  have t22 := miss_4_22
  have t5 := miss_4_5
  have t23 := miss_4_23
  have t24 := miss_4_24
  have t21 := miss_4_21
  have t25 := miss_4_25
  have t2 := miss_4_2
  have t3 := miss_4_3
  go_enter Try.func17, Try.ntmps17
  go_wp2
  go_ret2
  exact ⟨rfl, rfl⟩

set_option maxRecDepth 20000 in
set_option maxHeartbeats 400000 in
theorem int_18 (w : World) :
    Calls Try.prog 18 #[] w fun e w' => e = .returned (.tuple #[.int .i64 0, .bool false]) ∧ w = w' := by
  have t22 := miss_nil_22
  have t5 := miss_nil_5
  have t23 := miss_nil_23
  have t24 := miss_nil_24
  have t21 := miss_nil_21
  have t25 := miss_nil_25
  have t2 := miss_nil_2
  have t3 := miss_nil_3
  go_enter Try.func18, Try.ntmps18
  go_wp2
  go_ret2
  exact ⟨rfl, rfl⟩
end Go.Proofs.Qxb6605870a
