/-
  FnTakeScriptKeepsPoolSumAndBounds: the guards' contracts (functions 5, 6, 7, 9).
-/
import Derived.Test.Qxb6605728aTake
namespace Go.Proofs.Qxb6605728a
open Go.RowKit Go.Maps
set_option linter.unusedVariables false
set_option linter.unusedSimpArgs false

/-- A slice of strings: where there is an element, it lies at a plain address, and its cells hold 'ss'. -/
def Strs (w : World) (a : Option Addr) (len : Nat) (ss : List ByteArray) : Prop :=
  0 < len → ∃ b off, a = some ⟨b, off, none⟩ ∧ ∀ j, j < len → w.cell? ⟨b, off + j, none⟩ = some (.string (ss.getD j ByteArray.empty))
/-- Likewise a slice of int64. -/
def Ints (w : World) (a : Option Addr) (len : Nat) (zs : List Int) : Prop :=
  0 < len → ∃ b off, a = some ⟨b, off, none⟩ ∧ ∀ j, j < len → w.cell? ⟨b, off + j, none⟩ = some (.int .i64 (zs.getD j 0))

/-- It returns some bool of which p holds. -/
def Says (p : Bool → Prop) (e : Ending) : Prop := ∃ b, e = .returned (.bool b) ∧ p b

set_option maxHeartbeats 1000000 in
theorem bytes5 (a0 : Int) (a : Option Addr) (len cap : Nat) (a' : Option Addr) (len' cap' : Nat) (ss : List ByteArray) (w : World) (h1 : len ≤ maxLen) (h2 : len' ≤ maxLen) (hs : Strs w a len ss) (hm : ∀ j, j < len → (ss.getD j ByteArray.empty).size ≤ maxLen) :
    Calls Try.prog 5 #[.int .i64 a0, .slice a len cap, .slice a' len' cap'] w fun e w' => Says (fun _ => True) e ∧ w = w' := by
  unfold maxLen at h1 h2 hm
  have HS : Hid (Strs w a len ss) := hs
  have HM : Hid (∀ j, j < len → (ss.getD j ByteArray.empty).size ≤ 2 ^ 63 - 1) := hm
  clear hs hm
  go_enter Try.func5, Try.ntmps5
  go_wp2
  · go_ret; exact ⟨⟨_, rfl, trivial⟩, rfl⟩
  · go_loop [7, 8] (fun n i => ∃ (k : Nat) (z : Int), k ≤ len ∧ i = .int .i64 k ∧ n = .int .i64 z ∧ 0 ≤ z ∧ z ≤ 1048576) (fun _ i => len - (intOf i).toNat)
    case atStart => exact ⟨0, _, Nat.zero_le _, rfl, rfl, by omega, by omega⟩
    case round =>
      obtain ⟨k, z, hk, rfl, rfl, hz0, hz1⟩ := hrel
      by_cases hlt : k < len
      · obtain ⟨b, off, rfl, hc⟩ := HS.out (by omega)
        have hck := hc k hlt
        have hmk := HM.out k hlt
        obtain ⟨s, hsk⟩ : ∃ s, ss.getD k ByteArray.empty = s := ⟨_, rfl⟩
        rw [hsk] at hck hmk
        clear hsk hc
        go_wp2
        · go_ret; exact ⟨⟨_, rfl, trivial⟩, rfl⟩
        · go_ret; exact ⟨⟨_, rfl, trivial⟩, rfl⟩
        · go_round
          case rel => exact ⟨k + 1, _, by omega, by go_num, rfl, by omega, by omega⟩
          case measure => simp [intOf]; omega
      · go_wp2
        all_goals (go_ret; exact ⟨⟨_, rfl, trivial⟩, rfl⟩)

set_option maxHeartbeats 1000000 in
theorem size6 (a : Option Addr) (len cap : Nat) (a' : Option Addr) (len' cap' : Nat) (ss : List ByteArray) (w : World) (h1 : len ≤ maxLen) (h2 : len' ≤ maxLen) (hs : Strs w a len ss) (hm : ∀ j, j < len → (ss.getD j ByteArray.empty).size ≤ maxLen) :
    Calls Try.prog 6 #[.slice a len cap, .slice a' len' cap', .string ByteArray.empty] w fun e w' => Says (fun b => b = true → len ≤ 1024 ∧ len' ≤ 1024) e ∧ w = w' := by
  unfold maxLen at h1 h2 hm
  have HS : Hid (Strs w a len ss) := hs
  have HM : Hid (∀ j, j < len → (ss.getD j ByteArray.empty).size ≤ 2 ^ 63 - 1) := hm
  clear hs hm
  go_enter Try.func6, Try.ntmps6
  go_wp2
  · go_loop [7, 8] (fun n i => ∃ (k : Nat) (z : Int), k ≤ len ∧ i = .int .i64 k ∧ n = .int .i64 z ∧ 0 ≤ z ∧ z ≤ 1048576) (fun _ i => len - (intOf i).toNat)
    case atStart => exact ⟨0, _, Nat.zero_le _, rfl, rfl, by omega, by omega⟩
    case round =>
      obtain ⟨k, z, hk, rfl, rfl, hz0, hz1⟩ := hrel
      by_cases hlt : k < len
      · obtain ⟨b, off, rfl, hc⟩ := HS.out (by omega)
        have hck := hc k hlt
        have hmk := HM.out k hlt
        obtain ⟨s, hsk⟩ : ∃ s, ss.getD k ByteArray.empty = s := ⟨_, rfl⟩
        rw [hsk] at hck hmk
        clear hsk hc
        go_wp2
        · go_ret; exact ⟨⟨_, rfl, by simp⟩, rfl⟩
        · go_ret; exact ⟨⟨_, rfl, by simp⟩, rfl⟩
        · go_round
          case rel => exact ⟨k + 1, _, by omega, by go_num, rfl, by omega, by omega⟩
          case measure => simp [intOf]; omega
      · go_wp2
        all_goals (go_ret; exact ⟨⟨_, rfl, fun _ => ⟨by omega, by omega⟩⟩, rfl⟩)
  all_goals (go_ret; exact ⟨⟨_, rfl, by simp⟩, rfl⟩)

set_option maxHeartbeats 400000 in
theorem min7 (x y : Nat) (w : World) (h1 : x ≤ maxLen) (h2 : y ≤ maxLen) :
    Calls Try.prog 7 #[.int .i64 x, .int .i64 y] w fun e w' => ∃ m : Nat, e = .returned (.int .i64 m) ∧ m ≤ x ∧ m ≤ y ∧ w = w' := by
  unfold maxLen at h1 h2
  go_enter Try.func7, Try.ntmps7
  go_wp2
  all_goals (go_ret; exact ⟨_, rfl, by omega, by omega, rfl⟩)

theorem str_beq {s h : ByteArray} (hne : ¬ s = h) : (s.toList == h.toList) = false := by
  rw [ByteArray.toList_eq, ByteArray.toList_eq]
  apply beq_false_of_ne
  intro e
  apply hne
  cases s; cases h
  simp at e
  rw [e]
set_option maxHeartbeats 1000000 in
/-- the last place of h among the first n names: there, or nowhere -/
theorem last9 (a : Option Addr) (n cap : Nat) (h : ByteArray) (ns : List ByteArray) (w : World) (hn : n ≤ 1024) (hs : Strs w a n ns) :
    Calls Try.prog 9 #[.slice a n cap, .int .i64 n, .string h] w fun e w' => (∃ r : Int, e = .returned (.int .i64 r) ∧ ((r = -1 ∧ ∀ i, i < n → ns.getD i ByteArray.empty ≠ h) ∨ ∃ i : Nat, i < n ∧ r = i ∧ ns.getD i ByteArray.empty = h)) ∧ w = w' := by
  have HS : Hid (Strs w a n ns) := hs
  clear hs
  go_enter Try.func9, Try.ntmps9
  go_wp2
  go_loop [7] (fun i => ∃ k : Nat, k ≤ n ∧ i = .int .i64 ((k : Int) - 1) ∧ Hid (∀ j, k ≤ j → j < n → ns.getD j ByteArray.empty ≠ h)) (fun i => (intOf i + 1).toNat)
  case atStart => exact ⟨n, Nat.le_refl _, rfl, fun j h1 h2 => by omega⟩
  case round =>
    obtain ⟨k, hk, rfl, hj⟩ := hrel
    by_cases hlt : 0 < k
    · obtain ⟨m, rfl⟩ : ∃ m, k = m + 1 := ⟨k - 1, by omega⟩
      have e1 : ((m + 1 : Nat) : Int) - 1 = m := by omega
      rw [e1]
      clear e1
      obtain ⟨b, off, rfl, hc⟩ := HS.out (by omega)
      have hcm := hc m (by omega)
      obtain ⟨s, hsk⟩ : ∃ s, ns.getD m ByteArray.empty = s := ⟨_, rfl⟩
      rw [hsk] at hcm
      have HK : Hid (ns.getD m ByteArray.empty = s) := hsk
      clear hsk hc
      by_cases hsh : s = h
      · subst hsh
        go_wp2
        go_ret
        exact ⟨⟨m, rfl, .inr ⟨m, by omega, rfl, HK.out⟩⟩, rfl⟩
      · have hbq := str_beq hsh
        go_wp2
        go_round
        case rel => exact ⟨m, by omega, rfl, fun j h1 h2 => by
          by_cases e : j = m
          · subst e; rw [HK.out]; exact hsh
          · exact hj j (by omega) h2⟩
        case measure => simp [intOf]
    · have : k = 0 := by omega
      subst this
      go_wp2
      go_ret
      exact ⟨⟨_, rfl, .inl ⟨rfl, fun i hi => hj i (by omega) hi⟩⟩, rfl⟩
end Go.Proofs.Qxb6605728a
