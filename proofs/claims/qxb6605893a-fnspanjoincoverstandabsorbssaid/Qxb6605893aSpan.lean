/-
  span.join and zzSpanOutside: contracts (functions 16, 7, 6); FnSpanJoinCoversTAndAbsorbs (function 3): her walk.
-/
import Derived.Test.Qxb6605893aRows
import Derived.WalkKit
import Derived.WalkSpells
import Derived.WalkLawsBesides
import Derived.Deep.QuietTactic
import Derived.BigQuiet
import Derived.Deep.DeepCutAuto
namespace Go.Proofs.Qxb6605893a
open Go.RowKit
set_option linter.unusedVariables false
set_option linter.unusedSimpArgs false

theorem drewN_fields : ∀ (n : Nat) (w : World), (w.drewN n).os = w.os ∧ (w.drewN n).tape = w.tape ∧ (w.drewN n).output = w.output ∧ (w.drewN n).heap = w.heap
  | 0, _ => ⟨rfl, rfl, rfl, rfl⟩
  | n + 1, w => drewN_fields n w.drew
theorem below_drewN {B : Nat} {a w : World} (h : Below B a w) (n : Nat) : Below B a (w.drewN n) := by
  obtain ⟨h1, h2, h3, h4⟩ := drewN_fields n w
  exact h.trans ⟨h1, h2, h3, by rw [h4]; exact Nat.le_refl _, fun k _ => by rw [h4]⟩

/-- It returns some bool of which p holds. -/
def Says (p : Bool → Prop) (e : Ending) : Prop := ∃ b, e = .returned (.bool b) ∧ p b

set_option maxRecDepth 20000 in
set_option maxHeartbeats 400000 in
/-- apart, or s empty: t -/
theorem join16_t (sf sl tf tl : Int) (w : World) (a0 : 0 ≤ sf) (a1 : 0 ≤ sl) (a2 : 0 ≤ tf) (a3 : 0 ≤ tl) (b1 : sl < 18446744073709551615) (b3 : tl < 18446744073709551615) (h : sl = 0 ∨ sl + 1 < tf ∨ tl + 1 < sf) :
    Calls Try.prog 16 #[.agg #[.int .u64 sf, .int .u64 sl], .agg #[.int .u64 tf, .int .u64 tl]] w fun e w' => e = .returned (.agg #[.int .u64 tf, .int .u64 tl]) ∧ Below w.heap.size w w' := by
  go_enter Try.func16, Try.ntmps16
  go_wp2
  all_goals
    exact bodyPost_ret (v := .agg #[.int .u64 tf, .int .u64 tl]) (by simp [results, Try.results16, go_sem]) rfl ⟨rfl, (((Below.refl _ _).alloc (Nat.le_refl _) _).alloc (by simp) _).alloc (by simp; omega) _⟩

set_option maxRecDepth 20000 in
set_option maxHeartbeats 400000 in
/-- they touch: from the lesser first to the greater last -/
theorem join16_m (sf sl tf tl r1 r2 : Int) (w : World) (a0 : 0 ≤ sf) (a1 : 0 < sl) (a2 : 0 ≤ tf) (a3 : 0 ≤ tl) (b1 : sl < 18446744073709551615) (b3 : tl < 18446744073709551615) (h : tf ≤ sl + 1) (h' : sf ≤ tl + 1)
    (e1 : (if tf < sf then tf else sf) = r1) (e2 : (if sl < tl then tl else sl) = r2) :
    Calls Try.prog 16 #[.agg #[.int .u64 sf, .int .u64 sl], .agg #[.int .u64 tf, .int .u64 tl]] w fun e w' => e = .returned (.agg #[.int .u64 r1, .int .u64 r2]) ∧ Below w.heap.size w w' := by
  have g1 : (sl == 0) = false := by simp; omega
  go_enter Try.func16, Try.ntmps16
  go_wp2
  all_goals
    exact bodyPost_ret (v := .agg #[.int .u64 r1, .int .u64 r2]) (by simp [results, Try.results16, go_sem]) rfl ⟨rfl, (((Below.refl _ _).alloc (Nat.le_refl _) _).alloc (by simp) _).alloc (by simp; omega) _⟩

set_option maxRecDepth 20000 in
set_option maxHeartbeats 400000 in
theorem join7 (sf sl tf tl r1 r2 : Int) (w : World)
    (h : ∀ w, Calls Try.prog 16 #[.agg #[.int .u64 sf, .int .u64 sl], .agg #[.int .u64 tf, .int .u64 tl]] w fun e w' => e = .returned (.agg #[.int .u64 r1, .int .u64 r2]) ∧ Below w.heap.size w w') :
    Calls Try.prog 7 #[.int .u64 sf, .int .u64 sl, .int .u64 tf, .int .u64 tl] w fun e w' => e = .returned (.tuple #[.int .u64 r1, .int .u64 r2]) ∧ Below w.heap.size w w' := by
  have H : Hid (∀ w, Calls Try.prog 16 #[.agg #[.int .u64 sf, .int .u64 sl], .agg #[.int .u64 tf, .int .u64 tl]] w fun e w' => e = .returned (.agg #[.int .u64 r1, .int .u64 r2]) ∧ Below w.heap.size w w') := h
  clear h
  go_enter Try.func7, Try.ntmps7
  go_wp2_with fail
  refine (H.out _).mono ?_
  rintro e w' ⟨rfl, hb⟩
  go_wp2_with fail
  go_quiet (fail)
  go_wp2_with fail
  go_ret2
  exact ⟨rfl, below_drewN (hb.alloc hb.size _) _⟩

set_option maxRecDepth 20000 in
set_option maxHeartbeats 400000 in
theorem outside6 (sf sl tf tl : Int) (w : World) (a0 : 0 ≤ sf) (a1 : 0 ≤ sl) (a2 : 0 ≤ tf) (a3 : 0 ≤ tl) (c1 : sl ≤ 18446744073709551615) (c3 : tl ≤ 18446744073709551615) :
    Calls Try.prog 6 #[.int .u64 sf, .int .u64 sl, .int .u64 tf, .int .u64 tl] w fun e w' => Says (fun b => b = false → sl < 18446744073709551615 ∧ tl < 18446744073709551615 ∧ 0 < tl ∧ 0 < tf ∧ tf ≤ tl ∧ (sl = 0 ∨ (0 < sl ∧ 0 < sf ∧ sf ≤ sl))) e ∧ w = w' := by
  by_cases hin : sl < 18446744073709551615 ∧ tl < 18446744073709551615 ∧ 0 < tl ∧ 0 < tf ∧ tf ≤ tl ∧ (sl = 0 ∨ (0 < sl ∧ 0 < sf ∧ sf ≤ sl))
  · have HI : Hid (sl < 18446744073709551615 ∧ tl < 18446744073709551615 ∧ 0 < tl ∧ 0 < tf ∧ tf ≤ tl ∧ (sl = 0 ∨ (0 < sl ∧ 0 < sf ∧ sf ≤ sl))) := hin
    clear hin
    go_enter Try.func6, Try.ntmps6
    go_wp2
    all_goals (go_ret; exact ⟨⟨_, rfl, fun _ => HI.out⟩, rfl⟩)
  · go_enter Try.func6, Try.ntmps6
    go_wp2
    all_goals
      go_ret
      refine ⟨⟨_, rfl, ?_⟩, rfl⟩
      first
        | (intro h; cases h; done)
        | (intro h; exfalso; apply hin; simp at *; omega)

set_option maxRecDepth 20000 in
set_option maxHeartbeats 4000000 in
/-- inside the domain: r is (r1, r2) -/
theorem core3 (sf sl tf tl r1 r2 : Int) (w : World) (a0 : 0 ≤ sf) (a1 : 0 ≤ sl) (c1 : sl < 18446744073709551615) (c3 : tl < 18446744073709551615) (d1 : 0 < tl) (d2 : 0 < tf) (d3 : tf ≤ tl) (d4 : sl = 0 ∨ (0 < sl ∧ 0 < sf ∧ sf ≤ sl))
    (hr : ∀ w, Calls Try.prog 7 #[.int .u64 sf, .int .u64 sl, .int .u64 tf, .int .u64 tl] w fun e w' => e = .returned (.tuple #[.int .u64 r1, .int .u64 r2]) ∧ Below w.heap.size w w')
    (hc : ((sl = 0 ∨ sl + 1 < tf ∨ tl + 1 < sf) ∧ r1 = tf ∧ r2 = tl) ∨ (0 < sl ∧ tf ≤ sl + 1 ∧ sf ≤ tl + 1 ∧ r1 ≤ sf ∧ r1 ≤ tf ∧ (r1 = sf ∨ r1 = tf) ∧ sl ≤ r2 ∧ tl ≤ r2 ∧ (r2 = sl ∨ r2 = tl))) :
    Calls Try.prog 3 #[.int .u64 sf, .int .u64 sl, .int .u64 tf, .int .u64 tl] w fun e w' => e = .returned (.bool true) ∧ Below w.heap.size w w' := by
  have e1 : 0 ≤ r1 ∧ r1 ≤ tf ∧ tl ≤ r2 ∧ r2 < 18446744073709551615 := by omega
  obtain ⟨f0, f1, f2, f3⟩ := e1
  have H6 : Hid (Calls Try.prog 6 #[.int .u64 sf, .int .u64 sl, .int .u64 tf, .int .u64 tl] w fun e w' => Says (fun b => b = false → sl < 18446744073709551615 ∧ tl < 18446744073709551615 ∧ 0 < tl ∧ 0 < tf ∧ tf ≤ tl ∧ (sl = 0 ∨ (0 < sl ∧ 0 < sf ∧ sf ≤ sl))) e ∧ w = w') := outside6 sf sl tf tl w a0 a1 (by omega) (by omega) (by omega) (by omega)
  have H1 : Hid (∀ w, Calls Try.prog 7 #[.int .u64 sf, .int .u64 sl, .int .u64 tf, .int .u64 tl] w fun e w' => e = .returned (.tuple #[.int .u64 r1, .int .u64 r2]) ∧ Below w.heap.size w w') := hr
  have H2 : Hid (∀ w, Calls Try.prog 7 #[.int .u64 r1, .int .u64 r2, .int .u64 tf, .int .u64 tl] w fun e w' => e = .returned (.tuple #[.int .u64 r1, .int .u64 r2]) ∧ Below w.heap.size w w') := fun w =>
    join7 _ _ _ _ _ _ w (fun w => join16_m r1 r2 tf tl r1 r2 w f0 (by omega) (by omega) (by omega) f3 c3 (by omega) (by omega) (by rw [if_neg (by omega)]) (by rw [if_neg (by omega)]))
  have H3 : Hid (∀ w, Calls Try.prog 7 #[.int .u64 tf, .int .u64 tl, .int .u64 r1, .int .u64 r2] w fun e w' => e = .returned (.tuple #[.int .u64 r1, .int .u64 r2]) ∧ Below w.heap.size w w') := fun w =>
    join7 _ _ _ _ _ _ w (fun w => join16_m tf tl r1 r2 r1 r2 w (by omega) (by omega) f0 (by omega) c3 f3 (by omega) (by omega) (by split <;> omega) (by split <;> omega))
  clear hr
  go_enter Try.func3, Try.ntmps3
  go_wp2_with fail
  refine H6.out.mono ?_
  rintro e w' ⟨⟨bb, rfl, -⟩, rfl⟩
  cases bb
  case true =>
    go_wp2_with fail
    go_ret
    exact ⟨rfl, Below.refl _ _⟩
  case false =>
    go_wp2_with fail
    refine (H1.out _).mono ?_
    rintro e w1 ⟨rfl, hb1⟩
    have HB1 : Hid (Below w.heap.size w w1) := hb1
    have HC : Hid (((sl = 0 ∨ sl + 1 < tf ∨ tl + 1 < sf) ∧ r1 = tf ∧ r2 = tl) ∨ (0 < sl ∧ tf ≤ sl + 1 ∧ sf ≤ tl + 1 ∧ r1 ≤ sf ∧ r1 ≤ tf ∧ (r1 = sf ∨ r1 = tf) ∧ sl ≤ r2 ∧ tl ≤ r2 ∧ (r2 = sl ∨ r2 = tl))) := hc
    have HD4 : Hid (sl = 0 ∨ (0 < sl ∧ 0 < sf ∧ sf ≤ sl)) := d4
    clear hb1 H1 H6 hc d4
    go_upto_region 6 with fail
    go_cut [9, 10, 55] (fun s9 s10 s55 wc => s9 = .int .u64 r1 ∧ s10 = .int .u64 r2 ∧ s55 = .bool false ∧ w1 = wc)
    case first =>
      have g : ((r1 == sf) = true ∨ ((r1 == sf) = false ∧ (r1 == tf) = true)) ∧ ((r2 == sl) = true ∨ ((r2 == sl) = false ∧ (r2 == tl) = true)) := by
        have := HC.out
        simp
        omega
      rcases g with ⟨g1 | ⟨g1, g1'⟩, g2 | ⟨g2, g2'⟩⟩
      all_goals
        go_wp2_with fail
        go_meet
        case rel => exact ⟨rfl, rfl, rfl, rfl⟩
    case rest =>
      obtain ⟨rfl, rfl, rfl, rfl⟩ := hcut
      go_upto_if 57 with fail
      go_cut [9, 10] (fun s9 s10 wc => s9 = .int .u64 r1 ∧ s10 = .int .u64 r2 ∧ w1 = wc)
      case first =>
        by_cases h0 : (sl == 0) = true
        · have g1 : (r1 == tf) = true := by have := HC.out; simp at h0 ⊢; omega
          have g2 : (r2 == tl) = true := by have := HC.out; simp at h0 ⊢; omega
          have g1' : (r1 != tf) = false := by simp [bne, g1]
          have g2' : (r2 != tl) = false := by simp [bne, g2]
          clear g1 g2
          go_wp2_with fail
          go_meet
          case rel => exact ⟨rfl, rfl, rfl⟩
        · have h0' : (sl == 0) = false := by simpa using h0
          clear h0
          by_cases hov : (if sf < tf then tf else sf) ≤ (if tl < sl then tl else sl)
          · have k1 : r1 ≤ sf := by have := HC.out; have := HD4.out; simp at h0'; omega
            have k2 : sl ≤ r2 := by have := HC.out; have := HD4.out; simp at h0'; omega
            go_wp2_with fail
            all_goals
              go_meet
              case rel => exact ⟨rfl, rfl, rfl⟩
          · have hw : (r1 ≤ sf ∧ sl ≤ r2) ∨ ((r1 == tf) = true ∧ (r2 == tl) = true) := by
              have := HC.out
              simp
              omega
            rcases hw with ⟨k1, k2⟩ | ⟨k1, k2⟩
            all_goals
              go_wp2_with fail
              all_goals
                go_meet
                case rel => exact ⟨rfl, rfl, rfl⟩
      case rest =>
        obtain ⟨rfl, rfl, rfl⟩ := hcut
        go_wp2_with fail
        refine (H2.out _).mono ?_
        rintro e w2 ⟨rfl, hb2⟩
        have HB2 : Hid (Below w1.heap.size w1 w2) := hb2
        clear hb2 H2
        go_wp2_with fail
        refine (H3.out _).mono ?_
        rintro e w3 ⟨rfl, hb3⟩
        have HB3 : Hid (Below w2.heap.size w2 w3) := hb3
        clear hb3 H3
        go_wp2_with fail
        go_ret
        exact ⟨rfl, HB1.out.trans ((HB2.out.mono HB1.out.size).trans (HB3.out.mono (Nat.le_trans HB1.out.size HB2.out.size)))⟩

set_option maxRecDepth 20000 in
set_option maxHeartbeats 400000 in
theorem main3 (sf sl tf tl : Int) (w : World) (a0 : 0 ≤ sf) (a1 : 0 ≤ sl) (a2 : 0 ≤ tf) (a3 : 0 ≤ tl) (c1 : sl ≤ 18446744073709551615) (c3 : tl ≤ 18446744073709551615) :
    Calls Try.prog 3 #[.int .u64 sf, .int .u64 sl, .int .u64 tf, .int .u64 tl] w fun e w' => e = .returned (.bool true) ∧ Below w.heap.size w w' := by
  by_cases hin : sl < 18446744073709551615 ∧ tl < 18446744073709551615 ∧ 0 < tl ∧ 0 < tf ∧ tf ≤ tl ∧ (sl = 0 ∨ (0 < sl ∧ 0 < sf ∧ sf ≤ sl))
  · obtain ⟨h1, h2, h3, h4, h5, h6⟩ := hin
    by_cases hj : sl = 0 ∨ sl + 1 < tf ∨ tl + 1 < sf
    · exact core3 sf sl tf tl tf tl w a0 a1 h1 h2 h3 h4 h5 h6 (fun w => join7 _ _ _ _ _ _ w (fun w => join16_t sf sl tf tl w a0 a1 a2 a3 h1 h2 hj)) (.inl ⟨hj, rfl, rfl⟩)
    · obtain ⟨r1, e1⟩ : ∃ r1, (if tf < sf then tf else sf) = r1 := ⟨_, rfl⟩
      obtain ⟨r2, e2⟩ : ∃ r2, (if sl < tl then tl else sl) = r2 := ⟨_, rfl⟩
      have k1 : r1 ≤ sf ∧ r1 ≤ tf ∧ (r1 = sf ∨ r1 = tf) := by
        by_cases p1 : tf < sf
        · rw [if_pos p1] at e1; omega
        · rw [if_neg p1] at e1; omega
      have k2 : sl ≤ r2 ∧ tl ≤ r2 ∧ (r2 = sl ∨ r2 = tl) := by
        by_cases p2 : sl < tl
        · rw [if_pos p2] at e2; omega
        · rw [if_neg p2] at e2; omega
      refine core3 sf sl tf tl r1 r2 w a0 a1 h1 h2 h3 h4 h5 h6 (fun w => join7 _ _ _ _ _ _ w (fun w => join16_m sf sl tf tl r1 r2 w a0 (by omega) a2 a3 h1 h2 (by omega) (by omega) e1 e2)) (.inr ?_)
      exact ⟨by omega, by omega, by omega, k1.1, k1.2.1, k1.2.2, k2.1, k2.2.1, k2.2.2⟩
  · have H6 : Hid (Calls Try.prog 6 #[.int .u64 sf, .int .u64 sl, .int .u64 tf, .int .u64 tl] w fun e w' => Says (fun b => b = false → sl < 18446744073709551615 ∧ tl < 18446744073709551615 ∧ 0 < tl ∧ 0 < tf ∧ tf ≤ tl ∧ (sl = 0 ∨ (0 < sl ∧ 0 < sf ∧ sf ≤ sl))) e ∧ w = w') := outside6 sf sl tf tl w a0 a1 a2 a3 c1 c3
    have HN : Hid (¬ (sl < 18446744073709551615 ∧ tl < 18446744073709551615 ∧ 0 < tl ∧ 0 < tf ∧ tf ≤ tl ∧ (sl = 0 ∨ (0 < sl ∧ 0 < sf ∧ sf ≤ sl)))) := hin
    clear hin
    go_enter Try.func3, Try.ntmps3
    go_wp2_with fail
    refine H6.out.mono ?_
    rintro e w' ⟨⟨bb, rfl, hbb⟩, rfl⟩
    cases bb
    case true =>
      clear hbb
      go_wp2_with fail
      go_ret
      exact ⟨rfl, Below.refl _ _⟩
    case false => exact absurd (hbb rfl) HN.out
end Go.Proofs.Qxb6605893a
