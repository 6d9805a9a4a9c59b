/-
  FnAppendPeersLengthAndPrefixFreeSaid, proved.
-/
import Derived.Test.Qxb6605893aRows
import Derived.Test.Qxb6605893aLength
import Derived.WalkKit
import Derived.ProofKit
import Derived.OpenShut
import Derived.ShutString
import Derived.ChangeOld
import Derived.Below
import Derived.SliceStrings
namespace Go.Proofs.Qxb6605893a.fnAppendPeersLengthAndPrefixFree
open Go.ChangeShapes Go.WideShapes Go.ChangeAt Go.RowKit
open Go.ChangeMaps (open_string shut_string)
set_option linter.unusedVariables false

theorem own : ownKnob Try.prog.godebug = none := by kernel_rfl
theorem laidOut : laidOutB Try.prog = true := by kernel_rfl

set_option maxRecDepth 100000 in
theorem lifted (os : Os) (started : os.Started) (H : Type) (enc : TypeId × Value → H) :
    ReturnsInHanded {} Try.checked os 5 .any (Rows.fnAppendPeersLengthAndPrefixFreeSpec.pre6 enc Try.prog Try.f5 Rows.fnAppendPeersLengthAndPrefixFreeRow.domain false) (Rows.fnAppendPeersLengthAndPrefixFreeSpec.post enc Try.prog Try.f5 false true false false) := by
  refine returnsInHanded_of_change (C := Try.checked) own started (by kernel_rfl) Try.func5
    (ChangeSpec.witness6 (enc := enc) (C := Try.checked) false ⟨#[], #[.slice none 0 0, .slice none 0 0], []⟩ 8 (by kernel_rfl) (by kernel_rfl) (by kernel_rfl) (by kernel_rfl)) ?_
  intro W base args ds gs before hval0 hW hcnd _
  have hval : ∀ (j : Nat) t v, Try.f5.params[j]? = some t → args[j]? = some v → Value.okWide Try.prog W .any base t v := hval0
  have hW' := hW
  obtain ⟨p, q, hA0, hV, rfl, hfz, hnd⟩ := hW
  have hA : DataW.TrodAll enc Try.prog W 0 (fun _ => true) true Try.f5.params.toList args.toList ds p := hA0
  rw [Try.params5] at hA hval
  obtain ⟨v1, vs1, d1, ds1, p1, q1, hargs, rfl, rfl, h1, r1⟩ := trodAll_cons hA
  obtain ⟨v2, vs2, d2, ds2, p2, q2, rfl, rfl, rfl, h2, r2⟩ := trodAll_cons r1
  obtain ⟨rfl, rfl, rfl⟩ := trodAll_nil r2
  obtain rfl : args = #[v1, v2] := by cases args; simp_all
  obtain ⟨rfl, rfl⟩ := trodVars_none hV
  obtain ⟨a1, len1, cap1, rfl⟩ := okWide_slice Try.underlying26 (hval 0 26 v1 rfl rfl)
  obtain ⟨a2, len2, cap2, rfl⟩ := okWide_slice Try.underlying27 (hval 1 27 v2 rfl rfl)
  have k1 := h1
  have lt1 : ∀ x ∈ p1, x.block < W.heap.size := by obtain ⟨m, hm⟩ := k1; exact DataW.trod_lt m _ _ _ hm
  have k2 := h2
  have lt2 : ∀ x ∈ p2, x.block < W.heap.size := by obtain ⟨m, hm⟩ := k2; exact DataW.trod_lt m _ _ _ hm
  obtain ⟨L, hl1, hL, hI⟩ : ∃ L : List Int, len1 ≤ maxLen ∧ L.length = len1 ∧ RowIn W a1 len1 (U8 L) := by
    obtain ⟨fuel, hf⟩ := h1
    rcases open_ints Try.underlying26 Try.underlying5 (by kernel_rfl) hf with ⟨hcs, _⟩ | ⟨x, l, c, zs, hcs, _, hl, hm, hz, _, hcell, hwz⟩
    · simp [Value.cells] at hcs
      obtain ⟨rfl, rfl, rfl⟩ := hcs
      exact ⟨[], by simp, rfl, fun h => by omega⟩
    · simp [Value.cells] at hcs
      obtain ⟨rfl, rfl, rfl⟩ := hcs
      simp at hz
      refine ⟨zs.take len1, Nat.le_trans hl hm, by rw [List.length_take]; omega, fun h => ?_⟩
      obtain ⟨b, off, rfl, hc⟩ := ints_at hcell (by omega)
      have hlt : b < W.heap.size := by
        have h3 := hc 0 (by omega)
        by_cases hb : b < W.heap.size
        · exact hb
        · simp [World.cell?, Array.getElem?_eq_none (Nat.le_of_not_lt hb)] at h3
      exact ⟨b, off, rfl, hlt, fun j hj => by rw [hc j (by omega), U8_at _ j (by rw [List.length_take]; omega)]; simp [hj]⟩
  obtain ⟨ss, hl2, hss0, hS, hss⟩ : ∃ ss : List ByteArray, len2 ≤ maxLen ∧ ss.length = len2 ∧ RowIn W a2 len2 (St ss) ∧ ∀ j, j < len2 → (nm ss j).size ≤ maxLen := by
    obtain ⟨fuel, hf⟩ := h2
    rcases open_strings Try.underlying27 Try.underlying9 (by kernel_rfl) hf with ⟨hcs, _⟩ | ⟨x, l, c, ss, hcs, _, hl, hm, hz, _, hcell, hws⟩
    · simp [Value.cells] at hcs
      obtain ⟨rfl, rfl, rfl⟩ := hcs
      exact ⟨[], by simp, rfl, fun h => by omega, fun j h => by omega⟩
    · simp [Value.cells] at hcs
      obtain ⟨rfl, rfl, rfl⟩ := hcs
      simp at hz
      have hnm : ∀ j, j < len2 → nm (ss.take len2) j = nm ss j := fun j hj => by simp [nm, hj]
      refine ⟨ss.take len2, Nat.le_trans hl hm, by rw [List.length_take]; omega, fun h => ?_, fun j hj => ?_⟩
      · obtain ⟨b, off, spot⟩ := x
        have hspot : spot = none := by simpa [Addr.add] using World.cell?_spot (hcell 0 (by omega))
        subst hspot
        have hc : ∀ j, j < len2 → W.cell? ⟨b, off + j, none⟩ = some (.string (nm ss j)) := fun j hj => by rw [← add_plain]; exact hcell j (by omega)
        have hlt : b < W.heap.size := by
          have h3 := hc 0 (by omega)
          by_cases hb : b < W.heap.size
          · exact hb
          · simp [World.cell?, Array.getElem?_eq_none (Nat.le_of_not_lt hb)] at h3
        exact ⟨b, off, rfl, hlt, fun j hj => by rw [hc j hj, St_at _ j (by rw [List.length_take]; omega), hnm j hj]⟩
      · rw [hnm j hj]
        have hj' : j < ss.length := by omega
        have := hws (ss[j]) (List.getElem_mem hj')
        simpa [List.getElem?_eq_getElem hj'] using this
  clear hA0 hval0
  have walk : Calls Try.prog 5 #[.slice a1 len1 cap1, .slice a2 len2 cap2] W fun e w' => e = .returned (.bool true) ∧ Below W.heap.size W w' :=
    law5 a1 len1 cap1 a2 len2 cap2 L ss W hl1 hl2 hL hss0 hss hI hS
  refine walk.mono fun e W' ⟨he, bel⟩ => ?_
  subst he
  exact ⟨_, rfl, _, _, _, [], _, [], hW', trodAll_mk1 (shut_bool Try.underlying4 _), (trodAll_cons_mk (Below.trod laidOut (by kernel_rfl) (of_decide_eq_true (by kernel_rfl)) k1 bel lt1) (trodAll_cons_mk (Below.trod laidOut (by kernel_rfl) (of_decide_eq_true (by kernel_rfl)) k2 bel lt2) trodAll_mk0)), rfl, bel.frame _, fun h => by cases h⟩

theorem over : Rows.fnAppendPeersLengthAndPrefixFreeRow.holds Try.pinned (OpenSpec.ofChange Rows.fnAppendPeersLengthAndPrefixFreeSpec) :=
  OpenClaim.holds_of_wide 5 Try.f5 rfl rfl rfl rfl rfl rfl rfl ⟨rfl, rfl, rfl, rfl, rfl⟩ rfl rfl rfl rfl rfl (by kernel_rfl) Try.func5 (by kernel_rfl)
    (of_decide_eq_true (by kernel_rfl)) (by unfold Func.isWrapper; first | (rw [if_pos (by decide +kernel)]; kernel_rfl) | (rw [if_neg (by decide +kernel)]; exact ⟨rfl, rfl⟩))
    (fun os started H enc _ => lifted os started H enc)

/-- The statement. -/
theorem proved : Rows.FnAppendPeersLengthAndPrefixFreeSaid := over
end Go.Proofs.Qxb6605893a.fnAppendPeersLengthAndPrefixFree
