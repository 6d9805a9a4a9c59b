/-
  FnTakeScriptKeepsPoolSumAndBoundsSaid, proved.
-/
import Derived.Test.Qxb6605728aRows
import Derived.Test.Qxb6605728aScript
import Derived.WalkKit
import Derived.ProofKit
import Derived.OpenShut
import Derived.ShutString
import Derived.ChangeOld
import Derived.Below
import Derived.SliceStrings
namespace Go.Proofs.Qxb6605728a.fnTakeScriptKeepsPoolSumAndBounds
open Go.ChangeShapes Go.WideShapes Go.ChangeAt Go.RowKit
open Go.ChangeMaps (open_string shut_string)
set_option linter.unusedVariables false

theorem own : ownKnob Try.prog.godebug = none := by kernel_rfl
theorem laidOut : laidOutB Try.prog = true := by kernel_rfl

set_option maxRecDepth 20000 in
set_option maxHeartbeats 1000000 in
/-- outside the law's bounds -/
theorem outside3 (a0 : Int) (a : Option Addr) (len cap : Nat) (a' : Option Addr) (len' cap' : Nat) (ss : List ByteArray) (w : World) (h1 : len ≤ maxLen) (h2 : len' ≤ maxLen)
    (hS : Strs w a len ss) (hm : ∀ j, j < len → (ss.getD j ByteArray.empty).size ≤ maxLen) (h0 : ¬ (0 ≤ a0 ∧ a0 ≤ 2305843009213693952)) :
    Calls Try.prog 3 #[.int .i64 a0, .slice a len cap, .slice a' len' cap'] w fun e w' => e = .returned (.bool true) ∧ Below w.heap.size w w' := by
  have HB : Hid (Calls Try.prog 5 #[.int .i64 a0, .slice a len cap, .slice a' len' cap'] w fun e w' => Says (fun _ => True) e ∧ w = w') := bytes5 a0 a len cap a' len' cap' ss w h1 h2 hS hm
  have HC : Hid (Calls Try.prog 6 #[.slice a len cap, .slice a' len' cap', .string ByteArray.empty] w fun e w' => Says (fun b => b = true → len ≤ 1024 ∧ len' ≤ 1024) e ∧ w = w') := size6 a len cap a' len' cap' ss w h1 h2 hS hm
  clear hS hm
  go_enter Try.func3, Try.ntmps3
  go_wp2_with fail
  refine HB.out.mono ?_
  rintro e w' ⟨⟨bb, rfl, -⟩, rfl⟩
  cases bb
  · go_wp2_with fail
    go_ret
    exact ⟨rfl, Below.refl _ _⟩
  go_wp2_with fail
  refine HC.out.mono ?_
  rintro e w' ⟨⟨bb, rfl, hbb⟩, rfl⟩
  clear hbb
  cases bb
  all_goals
    go_wp2_with fail
    all_goals
      go_ret
      exact ⟨rfl, Below.refl _ _⟩

/-! ### The row -/
set_option maxRecDepth 100000 in
theorem lifted (os : Os) (started : os.Started) (H : Type) (enc : TypeId × Value → H) :
    ReturnsInHanded {} Try.checked os 3 .any (Rows.fnTakeScriptKeepsPoolSumAndBoundsSpec.pre6 enc Try.prog Try.f3 Rows.fnTakeScriptKeepsPoolSumAndBoundsRow.domain false) (Rows.fnTakeScriptKeepsPoolSumAndBoundsSpec.post enc Try.prog Try.f3 false true false false) := by
  refine returnsInHanded_of_change (C := Try.checked) own started (by kernel_rfl) Try.func3
    (ChangeSpec.witness6 (enc := enc) (C := Try.checked) false ⟨#[], #[.int .i64 0, .slice none 0 0, .slice none 0 0], []⟩ 8 (by kernel_rfl) (by kernel_rfl) (by kernel_rfl) (by kernel_rfl)) ?_
  intro W base args ds gs before hval0 hW hcnd _
  have hval : ∀ (j : Nat) t v, Try.f3.params[j]? = some t → args[j]? = some v → Value.okWide Try.prog W .any base t v := hval0
  have hW' := hW
  obtain ⟨p, q, hA0, hV, rfl, hfz, hnd⟩ := hW
  have hA : DataW.TrodAll enc Try.prog W 0 (fun _ => true) true Try.f3.params.toList args.toList ds p := hA0
  rw [Try.params3] at hA hval
  obtain ⟨v0, vs0, d0, ds0, p0, q0, hargs, rfl, rfl, h0, r0⟩ := trodAll_cons hA
  obtain ⟨v1, vs1, d1, ds1, p1, q1, rfl, rfl, rfl, h1, r1⟩ := trodAll_cons r0
  obtain ⟨v2, vs2, d2, ds2, p2, q2, rfl, rfl, rfl, h2, r2⟩ := trodAll_cons r1
  obtain ⟨rfl, rfl, rfl⟩ := trodAll_nil r2
  obtain rfl : args = #[v0, v1, v2] := by cases args; simp_all
  obtain ⟨rfl, rfl⟩ := trodVars_none hV
  obtain ⟨a0, rfl, rfl, rfl, w0⟩ := open_int Try.underlying2 (hval 0 2 v0 rfl rfl) h0
  obtain ⟨a1, len1, cap1, rfl⟩ := okWide_slice Try.underlying22 (hval 1 22 v1 rfl rfl)
  obtain ⟨a2, len2, cap2, rfl⟩ := okWide_slice Try.underlying23 (hval 2 23 v2 rfl rfl)
  have k1 := h1
  have lt1 : ∀ x ∈ p1, x.block < W.heap.size := by obtain ⟨m, hm⟩ := k1; exact DataW.trod_lt m _ _ _ hm
  have k2 := h2
  have lt2 : ∀ x ∈ p2, x.block < W.heap.size := by obtain ⟨m, hm⟩ := k2; exact DataW.trod_lt m _ _ _ hm
  obtain ⟨ss, hl1, hS, hss⟩ : ∃ ss : List ByteArray, len1 ≤ maxLen ∧ Strs W a1 len1 ss ∧ ∀ j, j < len1 → (ss.getD j ByteArray.empty).size ≤ maxLen := by
    obtain ⟨fuel, hf⟩ := h1
    rcases open_strings Try.underlying22 Try.underlying9 (by kernel_rfl) hf with ⟨hcs, _⟩ | ⟨x, l, c, ss, hcs, _, hl, hm, hz, _, hcell, hws⟩
    · simp [Value.cells] at hcs
      obtain ⟨rfl, rfl, rfl⟩ := hcs
      exact ⟨[], by simp, fun h => by omega, fun j h => by omega⟩
    · simp [Value.cells] at hcs
      obtain ⟨rfl, rfl, rfl⟩ := hcs
      simp at hz
      refine ⟨ss, Nat.le_trans hl hm, fun h => ?_, fun j hj => ?_⟩
      · obtain ⟨b, off, spot⟩ := x
        have hspot : spot = none := by simpa [Addr.add] using World.cell?_spot (hcell 0 (by omega))
        subst hspot
        exact ⟨b, off, rfl, fun j hj => by rw [← add_plain]; exact hcell j (by omega)⟩
      · have hj' : j < ss.length := by omega
        have := hws (ss[j]) (List.getElem_mem hj')
        simpa [List.getElem?_eq_getElem hj'] using this
  obtain ⟨zs, hl2, hI⟩ : ∃ zs : List Int, len2 ≤ maxLen ∧ Ints W a2 len2 zs := by
    obtain ⟨fuel, hf⟩ := h2
    rcases open_ints Try.underlying23 Try.underlying2 (by kernel_rfl) hf with ⟨hcs, _⟩ | ⟨x, l, c, zs, hcs, _, hl, hm, hz, _, hcell, hwz⟩
    · simp [Value.cells] at hcs
      obtain ⟨rfl, rfl, rfl⟩ := hcs
      exact ⟨[], by simp, fun h => by omega⟩
    · simp [Value.cells] at hcs
      obtain ⟨rfl, rfl, rfl⟩ := hcs
      simp at hz
      refine ⟨zs, Nat.le_trans hl hm, fun h => ?_⟩
      obtain ⟨b, off, rfl, hc⟩ := ints_at hcell (by omega)
      exact ⟨b, off, rfl, fun j hj => hc j (by omega)⟩
  clear hA0 hval0
  have walk : Calls Try.prog 3 #[.int .i64 a0, .slice a1 len1 cap1, .slice a2 len2 cap2] W fun e w' => e = .returned (.bool true) ∧ Below W.heap.size W w' := by
    by_cases hin : 0 ≤ a0 ∧ a0 ≤ 2305843009213693952
    · exact main3 a0 a1 len1 cap1 a2 len2 cap2 ss zs W hl1 hl2 hS hss hI hin.1 hin.2
    · exact outside3 a0 a1 len1 cap1 a2 len2 cap2 ss W hl1 hl2 hS hss hin
  refine walk.mono fun e W' ⟨he, bel⟩ => ?_
  subst he
  exact ⟨_, rfl, _, _, _, [], _, [], hW', trodAll_mk1 (shut_bool Try.underlying4 _), (trodAll_cons_mk (shut_int Try.underlying2 w0) (trodAll_cons_mk (Below.trod laidOut (by kernel_rfl) (of_decide_eq_true (by kernel_rfl)) k1 bel lt1) (trodAll_cons_mk (Below.trod laidOut (by kernel_rfl) (of_decide_eq_true (by kernel_rfl)) k2 bel lt2) trodAll_mk0))), rfl, bel.frame _, fun h => by cases h⟩

theorem over : Rows.fnTakeScriptKeepsPoolSumAndBoundsRow.holds Try.pinned (OpenSpec.ofChange Rows.fnTakeScriptKeepsPoolSumAndBoundsSpec) :=
  OpenClaim.holds_of_wide 3 Try.f3 rfl rfl rfl rfl rfl rfl rfl ⟨rfl, rfl, rfl, rfl, rfl⟩ rfl rfl rfl rfl rfl (by kernel_rfl) Try.func3 (by kernel_rfl)
    (of_decide_eq_true (by kernel_rfl)) (by unfold Func.isWrapper; first | (rw [if_pos (by decide +kernel)]; kernel_rfl) | (rw [if_neg (by decide +kernel)]; exact ⟨rfl, rfl⟩))
    (fun os started H enc _ => lifted os started H enc)

/-- The statement. -/
theorem proved : Rows.FnTakeScriptKeepsPoolSumAndBoundsSaid := over
end Go.Proofs.Qxb6605728a.fnTakeScriptKeepsPoolSumAndBounds
