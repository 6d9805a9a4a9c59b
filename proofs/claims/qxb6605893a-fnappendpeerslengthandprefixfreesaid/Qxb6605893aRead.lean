/-
  zzReadUvarint: its contract (function 13).
-/
import Derived.Test.Qxb6605893aGuard
namespace Go.Proofs.Qxb6605893a
open Go.RowKit
set_option linter.unusedVariables false
set_option linter.unusedSimpArgs false

/-- The reader's state: k groups are read, their worth is acc, 'rest' lies ahead. -/
def Rd (w : World) (b off p x k acc rest : Nat) : Prop :=
  acc + rest * 128 ^ k = x ∧ acc < 128 ^ k ∧ (k = 0 ∨ 0 < rest) ∧ k + (uv rest).length = (uv x).length ∧ ∀ j, j < (uv rest).length → w.cell? ⟨b, off + (p + k + j), none⟩ = some (.int .u8 ((uv rest).getD j 0))
theorem Rd.last {w : World} {b off p x k acc rest : Nat} (h : Rd w b off p x k acc rest) (hr : rest < 128) :
    w.cell? ⟨b, off + (p + k), none⟩ = some (.int .u8 (rest : Int)) ∧ k + 1 = (uv x).length := by
  obtain ⟨_, _, _, h4, h5⟩ := h
  rw [uv_small rest hr] at h4 h5
  exact ⟨h5 0 (by simp), h4⟩
theorem Rd.step {w : World} {b off p x k acc rest : Nat} (h : Rd w b off p x k acc rest) (hr : 128 ≤ rest) (hr2 : rest < 2097152) :
    w.cell? ⟨b, off + (p + k), none⟩ = some (.int .u8 ((rest % 128 + 128 : Nat) : Int)) ∧ k + 1 ≤ 2 ∧ k + 2 ≤ (uv x).length ∧ Rd w b off p x (k + 1) (acc + rest % 128 * 128 ^ k) (rest / 128) := by
  obtain ⟨h1, h2, h3, h4, h5⟩ := h
  rw [uv_step rest hr hr2] at h4 h5
  rw [List.length_cons] at h4
  have hl := uv_len (rest / 128)
  have hl2 := uv_len x
  refine ⟨h5 0 (by simp), by omega, by omega, ?_, ?_, .inr (by omega), by omega, fun j hj => ?_⟩
  · rw [Nat.pow_succ, ← h1]
    have e : rest * 128 ^ k = (rest % 128 + 128 * (rest / 128)) * 128 ^ k := by rw [Nat.mod_add_div]
    rw [e, Nat.add_mul, Nat.mul_comm 128 (rest / 128), Nat.mul_assoc, Nat.mul_comm (128 ^ k) 128, ← Nat.mul_assoc, Nat.add_assoc]
  · rw [Nat.pow_succ]
    have h6 : rest % 128 ≤ 127 := by omega
    have h7 : rest % 128 * 128 ^ k ≤ 127 * 128 ^ k := Nat.mul_le_mul_right _ h6
    omega
  · have h6 := h5 (j + 1) (by simp; omega)
    rw [show p + k + (j + 1) = p + (k + 1) + j from by omega] at h6
    rw [h6]
    simp

theorem ret3 {x y p q : Int} (h : x = y) (h2 : p = q) : Ending.returned (.tuple #[.int .u64 x, .int .i64 p, .bool true]) = .returned (.tuple #[.int .u64 y, .int .i64 q, .bool true]) := by rw [h, h2]

set_option maxRecDepth 20000 in
set_option maxHeartbeats 2000000 in
theorem read13 (b off n c p x : Nat) (w : World) (hx : x < 2097152) (hn : n ≤ 1099511627776) (hp : p + (uv x).length ≤ n)
    (hcell : ∀ j, j < (uv x).length → w.cell? ⟨b, off + (p + j), none⟩ = some (.int .u8 ((uv x).getD j 0))) :
    Calls Try.prog 13 #[.slice (some ⟨b, off, none⟩) n c, .int .i64 p] w fun e w' => e = .returned (.tuple #[.int .u64 x, .int .i64 ((p + (uv x).length : Nat) : Int), .bool true]) ∧ w = w' := by
  have HC : Hid (∀ j, j < (uv x).length → w.cell? ⟨b, off + (p + j), none⟩ = some (.int .u8 ((uv x).getD j 0))) := hcell
  have HP : Hid (p + (uv x).length ≤ n) := hp
  have hp2 : p ≤ n := by omega
  clear hcell hp
  go_enter Try.func13, Try.ntmps13
  go_wp2_with fail
  go_loop [1, 7, 8, 9] (fun pv xv sv iv => ∃ k acc rest : Nat, k ≤ 2 ∧ pv = .int .i64 ((p + k : Nat) : Int) ∧ xv = .int .u64 acc ∧ sv = .int .u64 ((7 * k : Nat) : Int) ∧ iv = .int .i64 k ∧ Hid (Rd w b off p x k acc rest)) (fun _ _ _ i => 3 - (intOf i).toNat)
  case atStart => exact ⟨0, 0, x, by omega, rfl, rfl, rfl, rfl, by show _ + _ = _; simp, by simp, .inl rfl, by simp, fun j hj => HC.out j hj⟩
  case round =>
    obtain ⟨k, acc, rest, hk, rfl, rfl, rfl, rfl, HR⟩ := hrel
    have hrx : rest ≤ x ∧ acc ≤ x := by
      obtain ⟨h1, _⟩ := HR.out
      have h2 : rest * 1 ≤ rest * 128 ^ k := Nat.mul_le_mul_left _ (Nat.one_le_pow _ _ (by omega))
      omega
    obtain ⟨hr1, hr2⟩ := hrx
    by_cases hlt : rest < 128
    · obtain ⟨hck, hke⟩ := HR.out.last hlt
      have hpk : p + k < n := by have := HP.out; omega
      have hke2 : Hid (k + 1 = (uv x).length) := hke
      have hand : bits .and .u8 (rest : Int) 127 = (rest : Int) := by rw [and127 _ (by omega) (by omega)]; omega
      have hnz : k = 0 ∨ 0 < rest := HR.out.2.2.1
      have hor : Hid (bits .or .u64 (acc : Int) ((rest * 2 ^ (7 * k) : Nat) : Int) = (x : Int)) := by
        show _ = _
        have e : (2 : Nat) ^ (7 * k) = 128 ^ k := by rw [Nat.pow_mul]
        have h1 := HR.out.1
        have h2 := HR.out.2.1
        rw [or_add acc rest (7 * k) (by rw [e]; exact h2) (by omega) (by rw [e]; omega), e, h1]
      clear hke
      have hk3 : k = 0 ∨ k = 1 ∨ k = 2 := by omega
      rcases hk3 with rfl | rfl | rfl
      · rw [Nat.add_zero] at hck hpk
        go_wp2_with fail
        go_ret3
        exact ⟨ret3 (by have h := hor.out; simpa using h) (by have h := hke2.out; omega), rfl⟩
      · go_wp2_with fail
        go_ret3
        exact ⟨ret3 (by have h := hor.out; simpa using h) (by have h := hke2.out; omega), rfl⟩
      · go_wp2_with fail
        go_ret3
        exact ⟨ret3 (by have h := hor.out; simpa using h) (by have h := hke2.out; omega), rfl⟩
    · obtain ⟨hck, hk2, hke, hnx⟩ := HR.out.step (by omega) (by omega)
      have HN : Hid (Rd w b off p x (k + 1) (acc + rest % 128 * 128 ^ k) (rest / 128)) := hnx
      have hpk : p + k < n := by have := HP.out; omega
      obtain ⟨cc, hcc⟩ : ∃ cc : Nat, cc = rest % 128 + 128 := ⟨_, rfl⟩
      rw [← hcc] at hck
      have hc0 : 128 ≤ cc := by omega
      have hc1 : cc < 256 := by omega
      have HCC : Hid (cc = rest % 128 + 128) := hcc
      have hand : bits .and .u8 (cc : Int) 127 = ((rest % 128 : Nat) : Int) := by rw [and127 _ (by omega) (by omega)]; omega
      have hm : rest % 128 < 128 := by omega
      obtain ⟨lo, hlo⟩ : ∃ lo : Nat, lo = rest % 128 := ⟨_, rfl⟩
      have HLO : Hid (lo = rest % 128) := hlo
      rw [← hlo] at hand hm
      have hor : Hid (bits .or .u64 (acc : Int) ((lo * 2 ^ (7 * k) : Nat) : Int) = ((acc + rest % 128 * 128 ^ k : Nat) : Int)) := by
        show _ = _
        have e : (2 : Nat) ^ (7 * k) = 128 ^ k := by rw [Nat.pow_mul]
        have h2 := HR.out.2.1
        have h1 := HR.out.1
        have h3 : lo * 128 ^ k ≤ rest * 128 ^ k := Nat.mul_le_mul_right _ (by omega)
        rw [or_add acc lo (7 * k) (by rw [e]; exact h2) (by omega) (by rw [e]; omega), e, hlo]
      clear hke hnx hcc hlo
      have hk3 : k = 0 ∨ k = 1 := by omega
      rcases hk3 with rfl | rfl
      · rw [Nat.add_zero] at hck hpk
        go_wp2_with fail
        go_round
        case rel => exact ⟨1, _, _, by omega, by go_num, by have h := hor.out; simpa using h, by go_num, by go_num, HN.out⟩
        case measure => simp [intOf]
      · go_wp2_with fail
        go_round
        case rel => exact ⟨2, _, _, by omega, by go_num, by have h := hor.out; simpa using h, by go_num, by go_num, HN.out⟩
        case measure => simp [intOf]
end Go.Proofs.Qxb6605893a
