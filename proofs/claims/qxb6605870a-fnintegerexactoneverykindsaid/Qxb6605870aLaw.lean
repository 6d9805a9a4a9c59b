/-
  FnIntegerExactOnEveryKind (function 3): her walk.
-/
import Derived.Test.Qxb6605870aInteger
namespace Go.Proofs.Qxb6605870a
open Go.RowKit
set_option linter.unusedVariables false
set_option linter.unusedSimpArgs false

/-- It returns some bool. -/
def Says (e : Ending) : Prop := ∃ b, e = .returned (.bool b)

set_option maxRecDepth 20000 in
set_option maxHeartbeats 400000 in
theorem bytes4 (x0 x1 x2 x3 x4 x5 x6 x7 x8 x9 : Int) (v : Value) (s : ByteArray) (w : World) (hs : s.size ≤ maxLen) :
    Calls Try.prog 4 #[.int .i8 x0, .int .u8 x1, .int .i16 x2, .int .u16 x3, .int .i32 x4, .int .u32 x5, .int .i64 x6, .int .i64 x7, .int .u64 x8, .int .u64 x9, v, .string s] w fun e w' => Says e ∧ w = w' := by
  unfold maxLen at hs
  go_enter Try.func4, Try.ntmps4
  go_wp2
  all_goals (go_ret; exact ⟨⟨_, rfl⟩, rfl⟩)

set_option maxRecDepth 20000 in
set_option maxHeartbeats 4000000 in
theorem main3 (x0 x1 x2 x3 x4 x5 x6 x7 x8 x9 : Int) (v : Value) (s : ByteArray) (w : World) (hs : s.size ≤ maxLen)
    (a0 : -128 ≤ x0) (b0 : x0 ≤ 127) (a1 : 0 ≤ x1) (b1 : x1 ≤ 255) (a2 : -32768 ≤ x2) (b2 : x2 ≤ 32767) (a3 : 0 ≤ x3) (b3 : x3 ≤ 65535) (a4 : -2147483648 ≤ x4) (b4 : x4 ≤ 2147483647) (a5 : 0 ≤ x5) (b5 : x5 ≤ 4294967295)
    (a6 : -9223372036854775808 ≤ x6) (b6 : x6 ≤ 9223372036854775807) (a7 : -9223372036854775808 ≤ x7) (b7 : x7 ≤ 9223372036854775807) :
    Calls Try.prog 3 #[.int .i8 x0, .int .u8 x1, .int .i16 x2, .int .u16 x3, .int .i32 x4, .int .u32 x5, .int .i64 x6, .int .i64 x7, .int .u64 x8, .int .u64 x9, v, .string s] w fun e w' => e = .returned (.bool true) ∧ w = w' := by
  have HB : Hid (Calls Try.prog 4 #[.int .i8 x0, .int .u8 x1, .int .i16 x2, .int .u16 x3, .int .i32 x4, .int .u32 x5, .int .i64 x6, .int .i64 x7, .int .u64 x8, .int .u64 x9, v, .string s] w fun e w' => Says e ∧ w = w') := bytes4 x0 x1 x2 x3 x4 x5 x6 x7 x8 x9 v s w hs
  unfold maxLen at hs
  go_enter Try.func3, Try.ntmps3
  go_wp2_with fail
  refine HB.out.mono ?_
  rintro e w' ⟨⟨bb, rfl⟩, rfl⟩
  cases bb
  · go_wp2_with fail
    go_ret
    exact ⟨rfl, rfl⟩
  by_cases hs2 : 1048576 < s.size
  · go_wp2_with fail
    go_ret
    exact ⟨rfl, rfl⟩
  go_wp2_with fail
  refine (int_5 x0 _ a0 b0).mono ?_
  rintro e w' ⟨rfl, rfl⟩
  go_wp2_with fail
  refine (int_6 x1 _ a1 b1).mono ?_
  rintro e w' ⟨rfl, rfl⟩
  go_wp2_with fail
  refine (int_7 x2 _ a2 b2).mono ?_
  rintro e w' ⟨rfl, rfl⟩
  go_wp2_with fail
  refine (int_8 x3 _ a3 b3).mono ?_
  rintro e w' ⟨rfl, rfl⟩
  go_wp2_with fail
  refine (int_9 x4 _ a4 b4).mono ?_
  rintro e w' ⟨rfl, rfl⟩
  go_wp2_with fail
  refine (int_10 x5 _ a5 b5).mono ?_
  rintro e w' ⟨rfl, rfl⟩
  go_wp2_with fail
  refine (int_11 x6 _ a6 b6).mono ?_
  rintro e w' ⟨rfl, rfl⟩
  go_wp2_with fail
  refine (int_12 x7 _ a7 b7).mono ?_
  rintro e w' ⟨rfl, rfl⟩
  go_wp2_with fail
  refine (int_13 x8 _).mono ?_
  rintro e w' ⟨rfl, rfl⟩
  go_wp2_with fail
  refine (int_14 x9 _).mono ?_
  rintro e w' ⟨rfl, rfl⟩
  go_wp2_with fail
  refine (int_15 v _).mono ?_
  rintro e w' ⟨rfl, rfl⟩
  go_wp2_with fail
  refine (int_16 s _).mono ?_
  rintro e w' ⟨rfl, rfl⟩
  go_wp2_with fail
  refine (int_17 true _).mono ?_
  rintro e w' ⟨rfl, rfl⟩
  go_wp2_with fail
  refine (int_17 false _).mono ?_
  rintro e w' ⟨rfl, rfl⟩
  go_wp2_with fail
  refine (int_18 _).mono ?_
  rintro e w' ⟨rfl, rfl⟩
  go_wp2_with fail
  go_ret
  exact ⟨rfl, rfl⟩
end Go.Proofs.Qxb6605870a
