/-
  time.Time's Add on the zero time, and After: contracts (functions 13, 15, 17, 18, 20).
-/
import Derived.Test.Qxb6605807aRows
import Derived.Test.Qxb6605807aBits
import Derived.WalkKit
import Derived.WalkSpells
import Derived.Deep.QuietTactic
import Derived.BigQuiet
import Derived.Deep.DeepCutAuto
namespace Go.Proofs.Qxb6605807a
open Go.RowKit
set_option linter.unusedVariables false
set_option linter.unusedSimpArgs false

theorem ret_int {k : IntKind} {a b : Int} (h : a = b) : Ending.returned (.int k a) = .returned (.int k b) := by rw [h]

theorem ret_bool {a b : Bool} (h : a = b) : Ending.returned (.bool a) = .returned (.bool b) := by rw [h]

set_option maxHeartbeats 400000 in
theorem nsec17 (b o : Nat) (n : Int) (w : World) (h0 : 0 ≤ n) (h1 : n < 1000000000) (hc : w.cell? ⟨b, o, none⟩ = some (.int .u64 n)) :
    Calls Try.prog 17 #[.pointer (some ⟨b, o, none⟩)] w fun e w' => e = .returned (.int .i32 n) ∧ w = w' := by
  have hb := and_low n h0 h1
  go_enter Try.func17, Try.ntmps17
  go_wp2
  go_ret
  exact ⟨rfl, rfl⟩

set_option maxHeartbeats 400000 in
theorem sec20 (b o : Nat) (n s : Int) (w : World) (h0 : 0 ≤ n) (h1 : n < 1000000000) (hc : w.cell? ⟨b, o, none⟩ = some (.int .u64 n)) (hc1 : w.cell? ⟨b, o + 1, none⟩ = some (.int .i64 s)) :
    Calls Try.prog 20 #[.pointer (some ⟨b, o, none⟩)] w fun e w' => e = .returned (.int .i64 s) ∧ w = w' := by
  have hb := and_top n h0 h1
  go_enter Try.func20, Try.ntmps20
  go_wp2
  go_ret
  exact ⟨rfl, rfl⟩

set_option maxHeartbeats 400000 in
/-- addSec on a time whose ext is 0 and whose wall bears nanoseconds alone -/
theorem addSec18 (b o : Nat) (n d : Int) (w : World) (h0 : 0 ≤ n) (h1 : n < 1000000000) (hd0 : -9223372036854775807 ≤ d) (hd1 : d ≤ 9223372036854775807) (hc : w.cell? ⟨b, o, none⟩ = some (.int .u64 n)) (hc1 : w.cell? ⟨b, o + 1, none⟩ = some (.int .i64 0)) (hf : w.frozen? ⟨b, o + 1, none⟩ = false) :
    Calls Try.prog 18 #[.pointer (some ⟨b, o, none⟩), .int .i64 d] w fun e w' => e = .returned (.tuple #[]) ∧ w' = w.setCell ⟨b, o + 1, none⟩ (.int .i64 d) := by
  have hb := and_top n h0 h1
  go_enter Try.func18, Try.ntmps18
  go_wp2
  go_end0
  exact ⟨rfl, rfl⟩

set_option maxRecDepth 20000 in
set_option maxHeartbeats 400000 in
theorem after15 (n s m t : Int) (q : Bool) (hq : Hid (q = decide (t < s ∨ t = s ∧ m < n))) (w : World) (h0 : 0 ≤ n) (h1 : n < 1000000000) (h2 : 0 ≤ m) (h3 : m < 1000000000) :
    Calls Try.prog 15 #[.agg #[.int .u64 n, .int .i64 s, .pointer none], .agg #[.int .u64 m, .int .i64 t, .pointer none]] w fun e w' => e = .returned (.bool q) ∧ Below w.heap.size w w' := by
  obtain ⟨hq0, hq1⟩ := and_bound n m h0 h1 h2 h3
  have hb := and_top _ hq0 hq1
  go_enter Try.func15, Try.ntmps15
  go_wp2_with fail
  clear hb hq0 hq1
  refine (sec20 _ _ n s _ h0 h1 (by simp) (by simp)).mono ?_
  rintro e w' ⟨rfl, rfl⟩
  go_wp2_with fail
  refine (sec20 _ _ m t _ h2 h3 (by simp) (by simp)).mono ?_
  rintro e w' ⟨rfl, rfl⟩
  by_cases c1 : t < s
  · obtain rfl : q = true := by rw [hq.out]; simp [c1]
    go_wp2_with fail
    go_ret
    exact ⟨rfl, ((Below.refl _ _).alloc (Nat.le_refl _) _).alloc (by simp) _⟩
  · by_cases c2 : t = s
    · subst c2
      obtain rfl : q = decide (m < n) := by rw [hq.out]; simp
      go_wp2_with fail
      refine (nsec17 _ _ n _ h0 h1 (by simp)).mono ?_
      rintro e w' ⟨rfl, rfl⟩
      go_wp2_with fail
      refine (nsec17 _ _ m _ h2 h3 (by simp)).mono ?_
      rintro e w' ⟨rfl, rfl⟩
      go_wp2_with fail
      go_ret
      exact ⟨rfl, ((Below.refl _ _).alloc (Nat.le_refl _) _).alloc (by simp) _⟩
    · have c3 : s < t := by omega
      have c4 : (s == t) = false := by simp; omega
      obtain rfl : q = false := by rw [hq.out]; simp; omega
      clear c1 c2 hq
      go_wp2_with fail
      go_ret
      exact ⟨ret_bool (by simp; omega), ((Below.refl _ _).alloc (Nat.le_refl _) _).alloc (by simp) _⟩

/-- A time 'd' nanoseconds from the zero time, as it lies in memory. -/
def wall (d : Int) : Int := d % 1000000000
def ext (d : Int) : Int := d / 1000000000
theorem wall_bd (d : Int) : 0 ≤ wall d ∧ wall d < 1000000000 := by unfold wall; omega
theorem after_iff (d e : Int) : decide (ext e < ext d ∨ ext e = ext d ∧ wall e < wall d) = decide (e < d) := by
  unfold ext wall
  rw [decide_eq_decide]
  omega

theorem quo_rem (d : Int) : ∃ q r : Int, d.tdiv 1000000000 = q ∧ d.tmod 1000000000 = r ∧ d = 1000000000 * q + r ∧ -1000000000 < r ∧ r < 1000000000 := by
  refine ⟨_, _, rfl, rfl, (Int.mul_tdiv_add_tmod d 1000000000).symm, ?_, ?_⟩
  · by_cases h : 0 ≤ d
    · have := Int.tmod_nonneg 1000000000 h; omega
    · have h2 := Int.tmod_lt_of_pos (-d) (show (0 : Int) < 1000000000 by omega)
      rw [Int.neg_tmod] at h2
      omega
  · exact Int.tmod_lt_of_pos d (by omega)

set_option maxRecDepth 20000 in
set_option maxHeartbeats 1000000 in
theorem add13 (d : Int) (w : World) (h0 : -9223372036854775808 ≤ d) (h1 : d ≤ 9223372036854775807) :
    Calls Try.prog 13 #[.agg #[.int .u64 0, .int .i64 0, .pointer none], .int .i64 d] w fun e w' => e = .returned (.agg #[.int .u64 (wall d), .int .i64 (ext d), .pointer none]) ∧ Below w.heap.size w w' := by
  obtain ⟨q, r, hq, hr, hd, hr0, hr1⟩ := quo_rem d
  have hq0 : -9223372038 ≤ q ∧ q ≤ 9223372037 := by omega
  obtain ⟨hq0, hq1⟩ := hq0
  obtain ⟨n, s, hn, hs, hnd, hn0, hn1, hs0, hs1⟩ : ∃ n s : Int, wall d = n ∧ ext d = s ∧ ((0 ≤ r ∧ n = r ∧ s = q) ∨ (r < 0 ∧ n = r + 1000000000 ∧ s = q - 1)) ∧ 0 ≤ n ∧ n < 1000000000 ∧ -9223372039 ≤ s ∧ s ≤ 9223372037 := by
    refine ⟨_, _, rfl, rfl, ?_⟩
    unfold wall ext
    omega
  rw [hn, hs]
  clear hn hs
  have HD : Hid (d = 1000000000 * q + r) := hd
  clear hd h0 h1
  have ha := andNot_zero
  rcases hnd with ⟨hr2, rfl, rfl⟩ | ⟨hr2, rfl, rfl⟩
  · have hor := or_zero n (by omega) (by omega)
    go_enter Try.func13, Try.ntmps13
    go_wp2_with fail
    refine (nsec17 _ _ 0 _ (by omega) (by omega) (by simp)).mono ?_
    rintro e w' ⟨rfl, rfl⟩
    go_upto_region 10 with fail
    clear hor ha hq hr
    go_wp2_with fail
    refine (addSec18 _ _ n s _ hn0 hn1 (by omega) (by omega) (by simp) (by simp) (by simp)).mono ?_
    rintro e w' ⟨rfl, rfl⟩
    have hb := and_top n hn0 hn1
    go_wp2_with fail
    exact bodyPost_ret (v := .agg #[.int .u64 n, .int .i64 s, .pointer none]) (by simp [results, Try.results13, go_sem]) rfl ⟨rfl, ((Below.refl _ _).alloc (Nat.le_refl _) _).alloc (by simp) _⟩
  · have hor := or_zero (r + 1000000000) (by omega) (by omega)
    go_enter Try.func13, Try.ntmps13
    go_wp2_with fail
    refine (nsec17 _ _ 0 _ (by omega) (by omega) (by simp)).mono ?_
    rintro e w' ⟨rfl, rfl⟩
    go_upto_region 10 with fail
    clear hor ha hq hr
    go_wp2_with fail
    refine (addSec18 _ _ (r + 1000000000) (q - 1) _ hn0 hn1 (by omega) (by omega) (by simp) (by simp) (by simp)).mono ?_
    rintro e w' ⟨rfl, rfl⟩
    have hb := and_top (r + 1000000000) hn0 hn1
    go_wp2_with fail
    exact bodyPost_ret (v := .agg #[.int .u64 (r + 1000000000), .int .i64 (q - 1), .pointer none]) (by simp [results, Try.results13, go_sem]) rfl ⟨rfl, ((Below.refl _ _).alloc (Nat.le_refl _) _).alloc (by simp) _⟩
end Go.Proofs.Qxb6605807a
