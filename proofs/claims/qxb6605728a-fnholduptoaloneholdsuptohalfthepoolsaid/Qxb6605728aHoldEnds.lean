/-
  FnHoldUpToAloneHoldsUpToHalfThePool (function 4): no element; outside the law's bounds.
-/
import Derived.Test.Qxb6605728aHold
namespace Go.Proofs.Qxb6605728a
open Go.RowKit Go.Maps
set_option linter.unusedVariables false
set_option linter.unusedSimpArgs false

set_option maxHeartbeats 1000000 in
/-- no element: the loop is left at once -/
theorem empty4 (a0 : Int) (a1 : ByteArray) (a2 : Int) (a : Option Addr) (cap : Nat) (w : World) (h1 : a1.size ≤ maxLen) :
    Calls Try.prog 4 #[.int .i64 a0, .string a1, .int .i64 a2, .slice a 0 cap] w fun e w' => e = .returned (.bool true) ∧ Below w.heap.size w w' := by
  have hmm := @run_makeMap Try.prog
  have HB : Hid (Calls Try.prog 13 #[.int .i64 a0, .string a1, .int .i64 a2, .slice a 0 cap] w fun e w' => ∃ b, e = .returned (.bool b) ∧ w = w') := bytes13 a0 a1 a2 a 0 cap w h1 (by unfold maxLen; omega)
  unfold maxLen at h1
  go_enter Try.func4, Try.ntmps4
  go_wp2_with (first
    | (go_at_call 13; refine HB.out.mono ?_; rintro e w' ⟨bb, rfl, rfl⟩; cases bb)
    | (go_at_call 8; refine (new_pool _ _ _ _).mono ?_; rintro e w' ⟨rfl, rfl⟩)
    | (go_at_call 14; refine (new_body _ _ _ _ _ _).mono ?_; rintro e w' ⟨rfl, rfl⟩))
  all_goals first
    | (go_ret; exact ⟨rfl, Below.refl _ _⟩)
    | skip
  go_loopw [12] (fun s wr => s = .int .i64 0 ∧ Below w.heap.size w wr) (fun _ _ => 0)
  case atStart => exact ⟨rfl, (((Below.refl _ _).alloc (Nat.le_refl _) _).alloc (by simp) _).alloc (by simp; omega) _⟩
  case round =>
    obtain ⟨rfl, hbel⟩ := hrel
    go_wp2
    go_ret
    exact ⟨rfl, hbel⟩

set_option maxHeartbeats 1000000 in
theorem outside4 (a0 : Int) (a1 : ByteArray) (a2 : Int) (a : Option Addr) (len cap : Nat) (w : World) (h1 : a1.size ≤ maxLen) (h2 : len ≤ maxLen)
    (hneg : ¬ (len ≤ 131072 ∧ a1.size ≤ 1048576 ∧ a1.size + 8 * len ≤ 1048576 ∧ 0 ≤ a0 ∧ a0 ≤ 2305843009213693952 ∧ 0 ≤ a2 ∧ a2 ≤ 2305843009213693952)) :
    Calls Try.prog 4 #[.int .i64 a0, .string a1, .int .i64 a2, .slice a len cap] w fun e w' => e = .returned (.bool true) ∧ Below w.heap.size w w' := by
  have HB : Hid (Calls Try.prog 13 #[.int .i64 a0, .string a1, .int .i64 a2, .slice a len cap] w fun e w' => ∃ b, e = .returned (.bool b) ∧ w = w') := bytes13 a0 a1 a2 a len cap w h1 h2
  unfold maxLen at h1 h2
  go_enter Try.func4, Try.ntmps4
  go_wp2_with (go_at_call 13; refine HB.out.mono ?_; rintro e w' ⟨bb, rfl, rfl⟩; cases bb)
  all_goals (go_ret; exact ⟨rfl, Below.refl _ _⟩)
end Go.Proofs.Qxb6605728a
