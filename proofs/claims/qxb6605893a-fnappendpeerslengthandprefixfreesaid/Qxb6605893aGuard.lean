/-
  zzBytes (twice), zzPeersSize, zzUvLen: contracts (functions 8, 14, 9, 15).
-/
import Derived.Test.Qxb6605893aClone
namespace Go.Proofs.Qxb6605893a
open Go.RowKit
set_option linter.unusedVariables false
set_option linter.unusedSimpArgs false

/-- It returns some bool of which p holds. -/
def SaysB (p : Bool → Prop) (e : Ending) : Prop := ∃ b, e = .returned (.bool b) ∧ p b
def SaysI (p : Int → Prop) (e : Ending) : Prop := ∃ z : Int, e = .returned (.int .i64 z) ∧ p z
/-- The bytes and every name are short. -/
def Good (n m : Nat) (ss : List ByteArray) : Prop := n ≤ 1048576 ∧ ∀ j, j < m → (ss.getD j ByteArray.empty).size ≤ 1048576
def Few (m : Nat) : Prop := m ≤ 65536
abbrev St (ss : List ByteArray) : List Value := ss.map Value.string
abbrev nm (ss : List ByteArray) (j : Nat) : ByteArray := ss.getD j ByteArray.empty
theorem St_at (ss : List ByteArray) (j : Nat) (h : j < ss.length) : (St ss)[j]? = some (.string (nm ss j)) := by simp [List.getElem?_eq_getElem h]


set_option maxRecDepth 20000 in
set_option maxHeartbeats 1000000 in
theorem bytes8 (a : Option Addr) (n c : Nat) (pa : Option Addr) (m pc : Nat) (ss : List ByteArray) (w : World) (hn : n ≤ maxLen) (hm : m ≤ maxLen) (hl : ss.length = m) (hs : ∀ j, j < m → (nm ss j).size ≤ maxLen) (hr : RowIn w pa m (St ss)) :
    Calls Try.prog 8 #[.slice a n c, .slice pa m pc] w fun e w' => SaysB (fun b => b = true → Good n m ss) e ∧ w = w' := by
  unfold maxLen at hn hm hs
  have HR : Hid (RowIn w pa m (St ss)) := hr
  have HL : Hid (ss.length = m) := hl
  have HS : Hid (∀ j, j < m → (nm ss j).size ≤ 2 ^ 63 - 1) := hs
  clear hr hl hs
  by_cases hc1 : n ≤ 1048576 ∧ m ≤ 1048576 ∧ n + m ≤ 1048576
  · obtain ⟨g1, g2, g3⟩ := hc1
    go_enter Try.func8, Try.ntmps8
    go_wp2_with fail
    go_loop [5, 6] (fun v i => ∃ (k : Nat) (z : Int), k ≤ m ∧ i = .int .i64 k ∧ v = .int .i64 z ∧ 0 ≤ z ∧ z ≤ 1048576 ∧ Hid (∀ j, j < k → (nm ss j).size ≤ 1048576)) (fun _ i => m - (intOf i).toNat)
    case atStart => exact ⟨0, _, Nat.zero_le _, rfl, rfl, by omega, by omega, fun j hj => by omega⟩
    case round =>
      obtain ⟨k, z, hk, rfl, rfl, hz0, hz1, hq⟩ := hrel
      by_cases hlt : k < m
      · obtain ⟨b, off, e, hlb, hc⟩ := HR.out (by omega)
        subst e
        have hck := (hc k hlt).trans (St_at ss k (by rw [HL.out]; exact hlt))
        have hsk := HS.out k hlt
        obtain ⟨s, hsd⟩ : ∃ s, nm ss k = s := ⟨_, rfl⟩
        rw [hsd] at hck hsk
        have HD : Hid (nm ss k = s) := hsd
        clear hc hsd
        by_cases hs1 : s.size ≤ 1048576
        · go_wp2_with fail
          · go_ret
            exact ⟨⟨_, rfl, by simp⟩, rfl⟩
          · go_round
            case rel => exact ⟨k + 1, _, by omega, by go_num, rfl, by omega, by omega, fun j hj => by
              by_cases e : j = k
              · subst e; rw [HD.out]; exact hs1
              · exact hq.out j (by omega)⟩
            case measure => simp [intOf]; omega
        · go_wp2_with fail
          go_ret
          exact ⟨⟨_, rfl, by simp⟩, rfl⟩
      · have hke : k = m := by omega
        go_wp2_with fail
        go_ret
        exact ⟨⟨_, rfl, fun _ => ⟨g1, hke ▸ hq.out⟩⟩, rfl⟩
  · go_enter Try.func8, Try.ntmps8
    go_wp2_with fail
    all_goals
      go_ret
      exact ⟨⟨_, rfl, by simp⟩, rfl⟩

set_option maxRecDepth 20000 in
set_option maxHeartbeats 1000000 in
theorem bytes14 (a : Option Addr) (n c : Nat) (pa : Option Addr) (m pc : Nat) (ss : List ByteArray) (w : World) (hn : n ≤ maxLen) (hm : m ≤ maxLen) (hl : ss.length = m) (hs : ∀ j, j < m → (nm ss j).size ≤ maxLen) (hr : RowIn w pa m (St ss)) :
    Calls Try.prog 14 #[.slice a n c, .slice pa m pc] w fun e w' => SaysB (fun b => b = true → Good n m ss) e ∧ w = w' := by
  unfold maxLen at hn hm hs
  have HR : Hid (RowIn w pa m (St ss)) := hr
  have HL : Hid (ss.length = m) := hl
  have HS : Hid (∀ j, j < m → (nm ss j).size ≤ 2 ^ 63 - 1) := hs
  clear hr hl hs
  by_cases hc1 : n ≤ 1048576 ∧ m ≤ 1048576 ∧ n + m ≤ 1048576
  · obtain ⟨g1, g2, g3⟩ := hc1
    go_enter Try.func14, Try.ntmps14
    go_wp2_with fail
    go_loop [5, 6] (fun v i => ∃ (k : Nat) (z : Int), k ≤ m ∧ i = .int .i64 k ∧ v = .int .i64 z ∧ 0 ≤ z ∧ z ≤ 1048576 ∧ Hid (∀ j, j < k → (nm ss j).size ≤ 1048576)) (fun _ i => m - (intOf i).toNat)
    case atStart => exact ⟨0, _, Nat.zero_le _, rfl, rfl, by omega, by omega, fun j hj => by omega⟩
    case round =>
      obtain ⟨k, z, hk, rfl, rfl, hz0, hz1, hq⟩ := hrel
      by_cases hlt : k < m
      · obtain ⟨b, off, e, hlb, hc⟩ := HR.out (by omega)
        subst e
        have hck := (hc k hlt).trans (St_at ss k (by rw [HL.out]; exact hlt))
        have hsk := HS.out k hlt
        obtain ⟨s, hsd⟩ : ∃ s, nm ss k = s := ⟨_, rfl⟩
        rw [hsd] at hck hsk
        have HD : Hid (nm ss k = s) := hsd
        clear hc hsd
        by_cases hs1 : s.size ≤ 1048576
        · go_wp2_with fail
          · go_ret
            exact ⟨⟨_, rfl, by simp⟩, rfl⟩
          · go_round
            case rel => exact ⟨k + 1, _, by omega, by go_num, rfl, by omega, by omega, fun j hj => by
              by_cases e : j = k
              · subst e; rw [HD.out]; exact hs1
              · exact hq.out j (by omega)⟩
            case measure => simp [intOf]; omega
        · go_wp2_with fail
          go_ret
          exact ⟨⟨_, rfl, by simp⟩, rfl⟩
      · have hke : k = m := by omega
        go_wp2_with fail
        go_ret
        exact ⟨⟨_, rfl, fun _ => ⟨g1, hke ▸ hq.out⟩⟩, rfl⟩
  · go_enter Try.func14, Try.ntmps14
    go_wp2_with fail
    all_goals
      go_ret
      exact ⟨⟨_, rfl, by simp⟩, rfl⟩

set_option maxRecDepth 20000 in
set_option maxHeartbeats 1000000 in
theorem size9 (a : Option Addr) (n c : Nat) (pa : Option Addr) (m pc : Nat) (ss : List ByteArray) (w : World) (hn : n ≤ 1048576) (hm : m ≤ maxLen) (hl : ss.length = m) (hs : ∀ j, j < m → (nm ss j).size ≤ 1048576) (hr : RowIn w pa m (St ss)) :
    Calls Try.prog 9 #[.slice a n c, .slice pa m pc] w fun e w' => SaysI (fun z => z ≤ 1048576 → Few m) e ∧ w = w' := by
  unfold maxLen at hm
  have HR : Hid (RowIn w pa m (St ss)) := hr
  have HL : Hid (ss.length = m) := hl
  have HS : Hid (∀ j, j < m → (nm ss j).size ≤ 1048576) := hs
  clear hr hl hs
  by_cases hc1 : m ≤ 65536
  · go_enter Try.func9, Try.ntmps9
    go_wp2_with fail
    go_loop [5, 6] (fun v i => ∃ (k : Nat) (z : Int), k ≤ m ∧ i = .int .i64 k ∧ v = .int .i64 z ∧ 0 ≤ z ∧ z ≤ 2097152) (fun _ i => m - (intOf i).toNat)
    case atStart => exact ⟨0, _, Nat.zero_le _, rfl, rfl, by omega, by omega⟩
    case round =>
      obtain ⟨k, z, hk, rfl, rfl, hz0, hz1⟩ := hrel
      by_cases hlt : k < m
      · obtain ⟨b, off, e, hlb, hc⟩ := HR.out (by omega)
        subst e
        have hck := (hc k hlt).trans (St_at ss k (by rw [HL.out]; exact hlt))
        have hsk := HS.out k hlt
        obtain ⟨s, hsd⟩ : ∃ s, nm ss k = s := ⟨_, rfl⟩
        rw [hsd] at hck hsk
        clear hc hsd
        go_wp2_with fail
        · go_ret
          exact ⟨⟨_, rfl, fun _ => hc1⟩, rfl⟩
        · go_round
          case rel => exact ⟨k + 1, _, by omega, by go_num, rfl, by omega, by omega⟩
          case measure => simp [intOf]; omega
      · go_wp2_with fail
        go_ret
        exact ⟨⟨_, rfl, fun _ => hc1⟩, rfl⟩
  · go_enter Try.func9, Try.ntmps9
    go_wp2_with fail
    all_goals
      go_ret
      exact ⟨⟨_, rfl, fun h => by unfold Few; omega⟩, rfl⟩

set_option maxRecDepth 20000 in
set_option maxHeartbeats 400000 in
theorem uvlen15 (y : Nat) (w : World) (hy : y < 2097152) :
    Calls Try.prog 15 #[.int .u64 y] w fun e w' => e = .returned (.int .i64 ((uv y).length : Nat)) ∧ w = w' := by
  go_enter Try.func15, Try.ntmps15
  go_wp2_with fail
  go_loop [0, 3] (fun x c => ∃ z k : Nat, x = .int .u64 z ∧ z ≤ y ∧ c = .int .i64 k ∧ k ≤ 3 ∧ 1 ≤ k ∧ Hid (k - 1 + (uv z).length = (uv y).length)) (fun x _ => (intOf x).toNat)
  case atStart => exact ⟨y, 1, rfl, Nat.le_refl _, rfl, by omega, by omega, by show 1 - 1 + _ = _; omega⟩
  case round =>
    obtain ⟨z, k, rfl, hz, rfl, hk, hk1, hq⟩ := hrel
    by_cases hlt : z < 128
    · have he : k = (uv y).length := by have h := hq.out; rw [uv_small z hlt] at h; simp at h; omega
      have HE : Hid (k = (uv y).length) := he
      clear he
      go_wp2_with fail
      go_ret
      exact ⟨by rw [← HE.out]; rfl, rfl⟩
    · have h1 := hq.out
      rw [uv_step z (by omega) (by omega), List.length_cons] at h1
      have h2 := uv_len y
      have h3 := uv_len (z / 128)
      have HQ : Hid (k + 1 - 1 + (uv (z / 128)).length = (uv y).length) := by show k + 1 - 1 + _ = _; omega
      have hk3 : k + 1 ≤ 3 := by omega
      clear h1 h2 h3
      go_wp2_with fail
      go_round
      case rel => exact ⟨z / 128, k + 1, by go_num, by omega, by go_num, hk3, by omega, HQ.out⟩
      case measure => simp [intOf]; omega
end Go.Proofs.Qxb6605893a
