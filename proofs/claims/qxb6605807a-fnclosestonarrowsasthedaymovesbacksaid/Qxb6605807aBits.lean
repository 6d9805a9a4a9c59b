/-
  Plain facts on the bits of time.Time's wall word.
-/
import Derived.WalkKit
import Derived.Laws.BitsAllLaws
namespace Go.Proofs.Qxb6605807a

theorem nat_and_top (x : Nat) (h : x < 9223372036854775808) : x &&& 9223372036854775808 = 0 := by
  have := nat_bit 63 x
  rw [show (2 : Nat) ^ 63 = 9223372036854775808 from rfl] at this
  rw [this, Nat.div_eq_of_lt h]
theorem nat_and_low (x : Nat) (h : x < 1073741824) : x &&& 1073741823 = x := by
  have := Nat.and_two_pow_sub_one_eq_mod x 30
  rw [show (2 : Nat) ^ 30 - 1 = 1073741823 from rfl, show (2 : Nat) ^ 30 = 1073741824 from rfl] at this
  rw [this, Nat.mod_eq_of_lt h]

theorem and_low (n : Int) (h0 : 0 ≤ n) (h1 : n < 1000000000) : bits .and .u64 n 1073741823 = n := by
  rw [u64_and n 1073741823 h0 (by omega) (by omega) (by omega)]
  rw [show (1073741823 : Int).toNat = 1073741823 from rfl, nat_and_low _ (by omega)]
  omega
theorem and_top (n : Int) (h0 : 0 ≤ n) (h1 : n < 1000000000) : bits .and .u64 n 9223372036854775808 = 0 := by
  rw [u64_and n 9223372036854775808 h0 (by omega) (by omega) (by omega)]
  rw [show (9223372036854775808 : Int).toNat = 9223372036854775808 from rfl, nat_and_top _ (by omega)]
  rfl
theorem and_bound (n m : Int) (h0 : 0 ≤ n) (h1 : n < 1000000000) (h2 : 0 ≤ m) (h3 : m < 1000000000) : 0 ≤ bits .and .u64 n m ∧ bits .and .u64 n m < 1000000000 := by
  rw [u64_and n m h0 (by omega) h2 (by omega)]
  have : n.toNat &&& m.toNat ≤ n.toNat := Nat.and_le_left
  omega
theorem or_zero (n : Int) (h0 : 0 ≤ n) (h1 : n < 1000000000) : bits .or .u64 0 n = n := by
  rw [u64_or 0 n (by omega) (by omega) h0 (by omega)]
  simp
  omega
theorem andNot_zero : bits .andNot .u64 0 1073741823 = 0 := by
  rw [u64_andNot 0 1073741823 (by omega) (by omega) (by omega) (by omega)]
  simp
end Go.Proofs.Qxb6605807a
