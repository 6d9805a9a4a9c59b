/-
  zzSameStrings, zzSameFile, zzCount: contracts (functions 14, 9, 8).
-/
import Derived.Test.Qxb6605807aBuild
namespace Go.Proofs.Qxb6605807a
open Go.RowKit
set_option linter.unusedVariables false
set_option linter.unusedSimpArgs false

theorem drewN_fields : ∀ (n : Nat) (w : World), (w.drewN n).os = w.os ∧ (w.drewN n).tape = w.tape ∧ (w.drewN n).output = w.output ∧ (w.drewN n).heap = w.heap
  | 0, _ => ⟨rfl, rfl, rfl, rfl⟩
  | n + 1, w => drewN_fields n w.drew
theorem below_drewN {B : Nat} {a w : World} (h : Below B a w) (n : Nat) : Below B a (w.drewN n) := by
  obtain ⟨h1, h2, h3, h4⟩ := drewN_fields n w
  exact h.trans ⟨h1, h2, h3, by rw [h4]; exact Nat.le_refl _, fun k _ => by rw [h4]⟩

set_option maxRecDepth 20000 in
set_option maxHeartbeats 1000000 in
theorem same14 (a : Option Addr) (n c : Nat) (w : World) (hS : Syms w a n) (hn : n ≤ 65536) :
    Calls Try.prog 14 #[.slice a n c, .slice a n c] w fun e w' => e = .returned (.bool true) ∧ Below w.heap.size w w' := by
  have q35 : ∀ (w : World) (a : Option Addr) (n c : Nat), (binOp .eql 35 (.slice a n c) (.slice none 0 0)).run Try.prog w = .ok (.bool a.isNone) w := fun w a n c => Lib.run_eql_slice_nil w _ _ a n c _ _ Try.underlying35
  have HS : Hid (Syms w a n) := hS
  clear hS
  go_enter Try.func14, Try.ntmps14
  go_wp2_with fail
  go_loopw [5] (fun i wr => ∃ k : Nat, k ≤ n ∧ i = .int .i64 k ∧ Below w.heap.size w wr) (fun i _ => n - (intOf i).toNat)
  case atStart => exact ⟨0, Nat.zero_le _, rfl, Below.refl _ _⟩
  case round =>
    obtain ⟨k, hk, rfl, hbel⟩ := hrel
    by_cases hlt : k < n
    · obtain ⟨b, off, e, hlb, hc⟩ := HS.out (by omega)
      subst e
      obtain ⟨s, hs⟩ := hc k hlt
      have hcs := (hbel.cell (p := ⟨b, off + k, none⟩) hlb).trans hs
      have HB : Hid (Below w.heap.size w wr) := hbel
      have hkn : (k : Int) < (n : Int) := by omega
      clear hbel hc hs
      go_upto_region 8 with fail
      go_quiet (fail)
      go_wp2_with fail
      go_roundw
      case rel => exact ⟨k + 1, by omega, by go_num, below_drewN HB.out _⟩
      case measure => simp [intOf]; omega
    · have HB : Hid (Below w.heap.size w wr) := hbel
      clear hbel
      go_wp2_with fail
      go_ret
      exact ⟨rfl, HB.out⟩

theorem eql33 (x y : Int) (w : World) : (binOp .eql 33 (.agg #[.int .u64 x, .int .i64 y, .pointer none]) (.agg #[.int .u64 x, .int .i64 y, .pointer none])).run Try.prog w = .ok (.bool true) w := by
  have h : (Op.equalIn 9999 31 (.pointer none) (.pointer none)).run Try.prog w = .ok true w := by kernel_rfl
  simp [go_sem, Try.underlying33, h]

set_option maxRecDepth 20000 in
set_option maxHeartbeats 1000000 in
theorem same9 (f : F) (w : World) (hS : Syms w f.sa f.sn) (hn : f.sn ≤ 65536) :
    Calls Try.prog 9 #[.agg #[.string f.name, .int .u64 (wall f.date), .int .i64 (ext f.date), .pointer none, .map none, .slice f.sa f.sn f.sc], .agg #[.string f.name, .int .u64 (wall f.date), .int .i64 (ext f.date), .pointer none, .map none, .slice f.sa f.sn f.sc]] w fun e w' => e = .returned (.bool true) ∧ Below w.heap.size w w' := by
  obtain ⟨nm, dt, sa, sn, sc⟩ := f
  have q34 : ∀ (w : World) (r : Option Nat), (binOp .eql 34 (.map r) (.map none)).run Try.prog w = .ok (.bool r.isNone) w := fun w r => run_eql_map_nil w _ _ _ r Try.underlying34
  have q33 := eql33 (wall dt) (ext dt)
  have HA : Hid (∀ w' : World, Below w.heap.size w w' → Calls Try.prog 14 #[.slice sa sn sc, .slice sa sn sc] w' fun e w'' => e = .returned (.bool true) ∧ Below w'.heap.size w' w'') := fun w' hb => same14 sa sn sc w' (hS.below hb) hn
  clear hS
  go_enter Try.func9, Try.ntmps9
  go_wp2_with fail
  refine (HA.out _ (((Below.refl _ _).alloc (Nat.le_refl _) _).alloc (by simp) _)).mono ?_
  rintro e w' ⟨rfl, hb⟩
  go_wp2_with fail
  go_ret
  exact ⟨rfl, (((Below.refl _ _).alloc (Nat.le_refl _) _).alloc (by simp) _).trans (hb.mono (by simp; omega))⟩

/-- How many of the first k elements are dated at or before d. -/
def cnt (d : Int) (gs : List G) (k : Nat) : Nat := ((List.range k).filter fun j => decide ((gs.getD j nog).date ≤ d)).length
theorem cnt_succ (d : Int) (gs : List G) (k : Nat) : cnt d gs (k + 1) = cnt d gs k + if (gs.getD k nog).date ≤ d then 1 else 0 := by
  unfold cnt
  rw [List.range_succ, List.filter_append, List.length_append]
  congr 1
  by_cases h : (gs.getD k nog).date ≤ d
  · rw [if_pos h, List.filter_cons_of_pos (by simpa using h)]; rfl
  · rw [if_neg h, List.filter_cons_of_neg (by simpa using h)]; rfl
theorem cnt_le (d : Int) (gs : List G) (k : Nat) : cnt d gs k ≤ k := by
  unfold cnt
  exact Nat.le_trans (List.length_filter_le _ _) (by simp)

set_option maxRecDepth 20000 in
set_option maxHeartbeats 1000000 in
theorem count8 (a : Option Addr) (n c : Nat) (d : Int) (gs : List G) (w : World) (hI : In w a n gs) (hn : n ≤ 65536) :
    Calls Try.prog 8 #[.slice a n c, .int .i64 d] w fun e w' => e = .returned (.int .i64 (cnt d gs n)) ∧ w = w' := by
  have HI : Hid (In w a n gs) := hI
  clear hI
  go_enter Try.func8, Try.ntmps8
  go_wp2_with fail
  go_loop [5, 6] (fun v i => ∃ k : Nat, k ≤ n ∧ i = .int .i64 k ∧ v = .int .i64 (cnt d gs k)) (fun _ i => n - (intOf i).toNat)
  case atStart => exact ⟨0, Nat.zero_le _, rfl, rfl⟩
  case round =>
    obtain ⟨k, hk, rfl, rfl⟩ := hrel
    have hcl := cnt_le d gs k
    by_cases hlt : k < n
    · obtain ⟨b, off, e, hlb, hc⟩ := HI.out (by omega)
      subst e
      obtain ⟨-, c1, -⟩ := hc k hlt
      have hcs := cnt_succ d gs k
      obtain ⟨z, hz⟩ : ∃ z, (gs.getD k nog).date = z := ⟨_, rfl⟩
      rw [hz] at c1 hcs
      have HCS : Hid (cnt d gs (k + 1) = cnt d gs k + if z ≤ d then 1 else 0) := hcs
      clear hc hz hcs
      by_cases hzd : z ≤ d
      · go_wp2_with fail
        go_round
        case rel => exact ⟨k + 1, by omega, by go_num, by rw [HCS.out, if_pos hzd]; go_num⟩
        case measure => simp [intOf]; omega
      · go_wp2_with fail
        go_round
        case rel => exact ⟨k + 1, by omega, by go_num, by rw [HCS.out, if_neg hzd]; go_num⟩
        case measure => simp [intOf]; omega
    · have hke : k = n := by omega
      subst hke
      go_wp2_with fail
      go_ret
      exact ⟨rfl, rfl⟩
end Go.Proofs.Qxb6605807a
