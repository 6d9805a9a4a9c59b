/-
  zzBytes, zzFilesTooBig: contracts (functions 4, 5).
-/
import Derived.Test.Qxb6605807aSame
namespace Go.Proofs.Qxb6605807a
open Go.RowKit
set_option linter.unusedVariables false
set_option linter.unusedSimpArgs false

/-- It returns some bool of which p holds. -/
def Says (p : Bool → Prop) (e : Ending) : Prop := ∃ b, e = .returned (.bool b) ∧ p b

set_option maxRecDepth 20000 in
set_option maxHeartbeats 2000000 in
theorem big5 (a : Option Addr) (n c : Nat) (gs : List G) (w : World) (hI : In w a n gs) (hn : n ≤ maxLen) (hS : ∀ j, j < n → Syms w (gs.getD j nog).sa (gs.getD j nog).sn ∧ (gs.getD j nog).sn ≤ maxLen) :
    Calls Try.prog 5 #[.slice a n c] w fun e w' => Says (fun b => b = false → n ≤ 65536 ∧ ∀ j, j < n → (gs.getD j nog).sn ≤ 65536) e ∧ w = w' := by
  unfold maxLen at hn hS
  have HI : Hid (In w a n gs) := hI
  have HS : Hid (∀ j, j < n → Syms w (gs.getD j nog).sa (gs.getD j nog).sn ∧ (gs.getD j nog).sn ≤ 2 ^ 63 - 1) := hS
  clear hI hS
  by_cases hn2 : 65536 < n
  · go_enter Try.func5, Try.ntmps5
    go_wp2_with fail
    go_ret
    exact ⟨⟨_, rfl, by simp⟩, rfl⟩
  by_cases hn3 : 1048576 < 48 * n
  · go_enter Try.func5, Try.ntmps5
    go_wp2_with fail
    go_ret
    exact ⟨⟨_, rfl, by simp⟩, rfl⟩
  go_enter Try.func5, Try.ntmps5
  go_wp2_with fail
  go_loop [3, 4] (fun v i => ∃ (k : Nat) (z : Int), k ≤ n ∧ i = .int .i64 k ∧ v = .int .i64 z ∧ Hid (∀ j, j < k → (gs.getD j nog).sn ≤ 65536)) (fun _ i => n - (intOf i).toNat)
  case atStart => exact ⟨0, _, Nat.zero_le _, rfl, rfl, fun j hj => by omega⟩
  case round =>
    obtain ⟨k, z, hk, rfl, rfl, hq⟩ := hrel
    by_cases hlt : k < n
    · obtain ⟨b, off, e, hlb, hc⟩ := HI.out (by omega)
      subst e
      obtain ⟨c0, c1, c2⟩ := hc k hlt
      obtain ⟨hsy, hsn⟩ := HS.out k hlt
      obtain ⟨gk, hgk⟩ : ∃ gk, gs.getD k nog = gk := ⟨_, rfl⟩
      rw [hgk] at c0 c1 c2 hsy hsn
      have HG : Hid (gs.getD k nog = gk) := hgk
      clear hgk hc
      obtain ⟨nm, dt, sa, sn, sc⟩ := gk
      have HSy : Hid (Syms w sa sn) := hsy
      clear hsy c1
      have hsn' : sn ≤ 2 ^ 63 - 1 := hsn
      clear hsn
      go_wp2_with fail
      · go_ret
        exact ⟨⟨_, rfl, by simp⟩, rfl⟩
      · go_ret
        exact ⟨⟨_, rfl, by simp⟩, rfl⟩
      · go_ret
        exact ⟨⟨_, rfl, by simp⟩, rfl⟩
      have hsn2 : sn ≤ 65536 := by omega
      go_loop [3, 6] (fun v i => ∃ (m : Nat) (y : Int), m ≤ sn ∧ i = .int .i64 m ∧ v = .int .i64 y) (fun _ i => sn - (intOf i).toNat)
      case atStart => exact ⟨0, _, Nat.zero_le _, rfl, rfl⟩
      case round =>
        obtain ⟨m, y, hm, rfl, rfl⟩ := hrel
        by_cases hml : m < sn
        · obtain ⟨sb, so, e, hlsb, hcs⟩ := HSy.out (by omega)
          subst e
          obtain ⟨s, hs⟩ := hcs m hml
          clear hcs
          go_wp2_with fail
          · go_ret
            exact ⟨⟨_, rfl, by simp⟩, rfl⟩
          · go_round
            case rel => exact ⟨m + 1, _, by omega, by go_num, rfl⟩
            case measure => simp [intOf]; omega
        · go_wp2_with fail
          go_round
          case rel => exact ⟨k + 1, y, by omega, by go_num, rfl, fun j hj => by
            by_cases e : j = k
            · subst e; rw [HG.out]; exact hsn2
            · exact hq.out j (by omega)⟩
          case measure => simp [intOf]; omega
    · have hke : k = n := by omega
      go_wp2_with fail
      go_ret
      exact ⟨⟨_, rfl, fun _ => ⟨by omega, hke ▸ hq.out⟩⟩, rfl⟩

set_option maxRecDepth 20000 in
set_option maxHeartbeats 2000000 in
theorem bytes4 (a : Option Addr) (n c : Nat) (d1 d2 : Int) (gs : List G) (w : World) (hI : In w a n gs) (hn : n ≤ maxLen) (hS : ∀ j, j < n → Syms w (gs.getD j nog).sa (gs.getD j nog).sn ∧ (gs.getD j nog).sn ≤ maxLen) :
    Calls Try.prog 4 #[.slice a n c, .int .i64 d1, .int .i64 d2] w fun e w' => Says (fun _ => True) e ∧ w = w' := by
  unfold maxLen at hn hS
  have HI : Hid (In w a n gs) := hI
  have HS : Hid (∀ j, j < n → Syms w (gs.getD j nog).sa (gs.getD j nog).sn ∧ (gs.getD j nog).sn ≤ 2 ^ 63 - 1) := hS
  clear hI hS
  by_cases hn2 : 1048576 < n
  · go_enter Try.func4, Try.ntmps4
    go_wp2_with fail
    go_ret
    exact ⟨⟨_, rfl, trivial⟩, rfl⟩
  go_enter Try.func4, Try.ntmps4
  go_wp2_with fail
  go_loop [7, 8] (fun v i => ∃ (k : Nat) (z : Int), k ≤ n ∧ i = .int .i64 k ∧ v = .int .i64 z) (fun _ i => n - (intOf i).toNat)
  case atStart => exact ⟨0, _, Nat.zero_le _, rfl, rfl⟩
  case round =>
    obtain ⟨k, z, hk, rfl, rfl⟩ := hrel
    by_cases hlt : k < n
    · obtain ⟨b, off, e, hlb, hc⟩ := HI.out (by omega)
      subst e
      obtain ⟨c0, c1, c2⟩ := hc k hlt
      obtain ⟨hsy, hsn⟩ := HS.out k hlt
      obtain ⟨gk, hgk⟩ : ∃ gk, gs.getD k nog = gk := ⟨_, rfl⟩
      rw [hgk] at c0 c1 c2 hsy hsn
      clear hgk hc
      obtain ⟨nm, dt, sa, sn, sc⟩ := gk
      have HSy : Hid (Syms w sa sn) := hsy
      clear hsy c1
      have hsn' : sn ≤ 2 ^ 63 - 1 := hsn
      clear hsn
      go_wp2_with fail
      · go_ret; exact ⟨⟨_, rfl, trivial⟩, rfl⟩
      · go_ret; exact ⟨⟨_, rfl, trivial⟩, rfl⟩
      · go_ret; exact ⟨⟨_, rfl, trivial⟩, rfl⟩
      · go_ret; exact ⟨⟨_, rfl, trivial⟩, rfl⟩
      go_loop [7, 9] (fun v i => ∃ (m : Nat) (y : Int), m ≤ sn ∧ i = .int .i64 m ∧ v = .int .i64 y) (fun _ i => sn - (intOf i).toNat)
      case atStart => exact ⟨0, _, Nat.zero_le _, rfl, rfl⟩
      case round =>
        obtain ⟨m, y, hm, rfl, rfl⟩ := hrel
        by_cases hml : m < sn
        · obtain ⟨sb, so, e, hlsb, hcs⟩ := HSy.out (by omega)
          subst e
          obtain ⟨s, hs⟩ := hcs m hml
          clear hcs
          go_wp2_with fail
          · go_ret; exact ⟨⟨_, rfl, trivial⟩, rfl⟩
          · go_ret; exact ⟨⟨_, rfl, trivial⟩, rfl⟩
          · go_round
            case rel => exact ⟨m + 1, _, by omega, by go_num, rfl⟩
            case measure => simp [intOf]; omega
        · go_wp2_with fail
          go_round
          case rel => exact ⟨k + 1, y, by omega, by go_num, rfl⟩
          case measure => simp [intOf]; omega
    · go_wp2_with fail
      go_ret
      exact ⟨⟨_, rfl, trivial⟩, rfl⟩
end Go.Proofs.Qxb6605807a
