/-
  FnClosesToNarrowsAsTheDayMovesBackSaid, proved.
-/
import Derived.Test.Qxb6605807aRows
import Derived.Test.Qxb6605807aLaw
import Derived.WalkKit
import Derived.ProofKit
import Derived.OpenShut
import Derived.ShutString
import Derived.ChangeOld
import Derived.Below
import Derived.SliceStrings
import Derived.Deep.Strs
namespace Go.Proofs.Qxb6605807a.fnClosesToNarrowsAsTheDayMovesBack
open Go.ChangeShapes Go.WideShapes Go.ChangeAt Go.RowKit
open Go.Deep (open_slice trod_struct3)
set_option linter.unusedVariables false

theorem own : ownKnob Try.prog.godebug = none := by kernel_rfl
theorem laidOut : laidOutB Try.prog = true := by kernel_rfl
theorem cells39 : Try.prog.cellsOf 39 = 3 := by kernel_rfl
theorem cells9 : Try.prog.cellsOf 9 = 1 := by kernel_rfl
theorem cells2 : Try.prog.cellsOf 2 = 1 := by kernel_rfl
theorem cells35 : Try.prog.cellsOf 35 = 1 := by kernel_rfl

theorem choose_list {p : Nat → G → Prop} : ∀ n : Nat, (∀ i, i < n → ∃ x, p i x) → ∃ gs : List G, gs.length = n ∧ ∀ i, i < n → p i (gs.getD i nog)
  | 0, _ => ⟨[], rfl, fun i h => by omega⟩
  | n + 1, h => by
    obtain ⟨gs, hl, hp⟩ := choose_list n (fun i hi => h i (by omega))
    obtain ⟨x, hx⟩ := h n (by omega)
    refine ⟨gs ++ [x], by simp [hl], fun i hi => ?_⟩
    by_cases e : i = n
    · subst e
      have : (gs ++ [x]).getD i nog = x := by rw [← hl]; exact getD_new _ _ _
      rw [this]; exact hx
    · rw [getD_old _ _ _ _ (by omega)]
      exact hp i (by omega)

theorem three : ∀ (l : List Value), l.length = 3 → ∃ a b c, l = [a, b, c]
  | [a, b, c], _ => ⟨a, b, c, rfl⟩

/-- What the walk is told of the argument. -/
theorem read_files {H : Type} {enc : TypeId × Value → H} {w : World} {fuel : Nat} {a : Option Addr} {len cap : Nat} {x : DataW H × List MemPlace}
    (h : DataW.trod enc Try.prog w 0 (fun _ => true) true fuel 22 [.slice a len cap] = some x) :
    len ≤ maxLen ∧ ∃ gs : List G, In w a len gs ∧ ∀ j, j < len → (Syms w (gs.getD j nog).sa (gs.getD j nog).sn ∧ (gs.getD j nog).sn ≤ maxLen) ∧ (Lit.int .i64 (gs.getD j nog).date).wf = true := by
  rcases open_slice Try.underlying22 h with ⟨hcs, _⟩ | ⟨ad, l, c, m, n, D, Pl, hcs, _, hl, hm, hmm, _, hx⟩
  · simp at hcs
    obtain ⟨rfl, rfl, rfl⟩ := hcs
    exact ⟨by simp, [], fun h => by omega, fun j h => by omega⟩
  · simp at hcs
    obtain ⟨rfl, rfl, rfl⟩ := hcs
    simp at hmm
    subst hmm
    refine ⟨Nat.le_trans hl hm, ?_⟩
    have each : ∀ i, i < len → ∃ g : G, (w.cell? (ad.add (i * 3)) = some (.string g.name) ∧ w.cell? (ad.add (i * 3 + 1)) = some (.int .i64 g.date) ∧ w.cell? (ad.add (i * 3 + 2)) = some (.slice g.sa g.sn g.sc)) ∧
        (Syms w g.sa g.sn ∧ g.sn ≤ maxLen) ∧ (Lit.int .i64 g.date).wf = true := by
      intro i hi
      obtain ⟨cs', h1, h2⟩ := hx i (by omega)
      rw [cells39] at h1
      obtain ⟨_, hlen, hcell⟩ := World.cells?_some h1
      obtain ⟨y0, y1, y2, k, _, _, t0, t1, t2⟩ := trod_struct3 Try.underlying39 h2
      obtain ⟨v0, v1, v2, rfl⟩ := three cs' hlen
      · simp [cells9, cells2, cells35] at t0 t1 t2
        obtain ⟨s, e0, _, _⟩ := DataW.trod_string Try.underlying9 t0
        obtain ⟨d, e1, _, wd⟩ := DataW.trod_int Try.underlying2 t1
        simp at e0 e1
        subst e0
        subst e1
        have b0 := hcell 0 (by omega)
        have b1 := hcell 1 (by omega)
        have b2 := hcell 2 (by omega)
        rw [Deep.add_add] at b0 b1 b2
        simp at b0 b1 b2
        rcases open_strings Try.underlying35 Try.underlying9 cells9 t2 with ⟨hcs, _⟩ | ⟨x, l', c', ss, hcs, _, hl', hm', hz, _, hc2, _⟩
        · simp at hcs
          subst hcs
          exact ⟨⟨s, d, none, 0, 0⟩, ⟨b0, b1, b2⟩, ⟨fun h => by simp at h, by simp⟩, wd⟩
        · simp at hcs
          subst hcs
          simp at hz
          refine ⟨⟨s, d, some x, l', c'⟩, ⟨b0, b1, b2⟩, ⟨fun h0 => ?_, Nat.le_trans hl' hm'⟩, wd⟩
          simp at h0
          obtain ⟨xb, xo, xs⟩ := x
          have hsp : xs = none := by simpa [Addr.add] using World.cell?_spot (hc2 0 (by omega))
          subst hsp
          have hc3 : ∀ j, j < l' → ∃ s, w.cell? ⟨xb, xo + j, none⟩ = some (.string s) := fun j hj => ⟨_, by rw [← add_plain]; exact hc2 j (by omega)⟩
          obtain ⟨s0, hs0⟩ := hc3 0 h0
          exact ⟨xb, xo, rfl, World.block_lt_of_cell? w _ hs0, hc3⟩
    obtain ⟨gs, _, hg⟩ := choose_list len each
    refine ⟨gs, fun h0 => ?_, fun j hj => (hg j hj).2⟩
    obtain ⟨b, off, spot⟩ := ad
    have hspot : spot = none := by simpa [Addr.add] using World.cell?_spot (hg 0 h0).1.1
    subst hspot
    refine ⟨b, off, rfl, World.block_lt_of_cell? w ⟨b, off + 0 * 3, none⟩ (by rw [← add_plain]; exact (hg 0 h0).1.1), fun j hj => ?_⟩
    obtain ⟨⟨g0, g1, g2⟩, _⟩ := hg j hj
    rw [add_plain] at g0 g1 g2
    exact ⟨g0, by rw [Nat.add_assoc]; exact g1, by rw [Nat.add_assoc]; exact g2⟩

/-! ### The row -/
set_option maxRecDepth 100000 in
theorem lifted (os : Os) (started : os.Started) (H : Type) (enc : TypeId × Value → H) :
    ReturnsInHanded {} Try.checked os 3 .any (Rows.fnClosesToNarrowsAsTheDayMovesBackSpec.pre6 enc Try.prog Try.f3 Rows.fnClosesToNarrowsAsTheDayMovesBackRow.domain false) (Rows.fnClosesToNarrowsAsTheDayMovesBackSpec.post enc Try.prog Try.f3 false true false false) := by
  refine returnsInHanded_of_change (C := Try.checked) own started (by kernel_rfl) Try.func3
    (ChangeSpec.witness6 (enc := enc) (C := Try.checked) false ⟨#[], #[.slice none 0 0, .int .i64 0, .int .i64 0], []⟩ 8 (by kernel_rfl) (by kernel_rfl) (by kernel_rfl) (by kernel_rfl)) ?_
  intro W base args ds gs before hval0 hW hcnd _
  have hval : ∀ (j : Nat) t v, Try.f3.params[j]? = some t → args[j]? = some v → Value.okWide Try.prog W .any base t v := hval0
  have hW' := hW
  obtain ⟨p, q, hA0, hV, rfl, hfz, hnd⟩ := hW
  have hA : DataW.TrodAll enc Try.prog W 0 (fun _ => true) true Try.f3.params.toList args.toList ds p := hA0
  rw [Try.params3] at hA hval
  obtain ⟨v0, vs0, d0, ds0, p0, q0, hargs, rfl, rfl, h0, r0⟩ := trodAll_cons hA
  obtain ⟨v1, vs1, d1, ds1, p1, q1, rfl, rfl, rfl, h1, r1⟩ := trodAll_cons r0
  obtain ⟨v2, vs2, d2, ds2, p2, q2, rfl, rfl, rfl, h2, r2⟩ := trodAll_cons r1
  obtain ⟨rfl, rfl, rfl⟩ := trodAll_nil r2
  obtain rfl : args = #[v0, v1, v2] := by cases args; simp_all
  obtain ⟨rfl, rfl⟩ := trodVars_none hV
  obtain ⟨a0, len0, cap0, rfl⟩ := okWide_slice Try.underlying22 (hval 0 22 v0 rfl rfl)
  obtain ⟨a1, rfl, rfl, rfl, w1⟩ := open_int Try.underlying2 (hval 1 2 v1 rfl rfl) h1
  obtain ⟨a2, rfl, rfl, rfl, w2⟩ := open_int Try.underlying2 (hval 2 2 v2 rfl rfl) h2
  have k0 := h0
  have lt0 : ∀ x ∈ p0, x.block < W.heap.size := by obtain ⟨m, hm⟩ := k0; exact DataW.trod_lt m _ _ _ hm
  obtain ⟨hl, fl, hI, hr⟩ : len0 ≤ maxLen ∧ ∃ gs : List G, In W a0 len0 gs ∧ ∀ j, j < len0 → (Syms W (gs.getD j nog).sa (gs.getD j nog).sn ∧ (gs.getD j nog).sn ≤ maxLen) ∧ (Lit.int .i64 (gs.getD j nog).date).wf = true := by
    obtain ⟨fuel, hf⟩ := h0
    exact read_files (by simpa [Value.cells] using hf)
  clear hA0 hval0
  have b1 := bounds_i64 w1
  have b2 := bounds_i64 w2
  refine (main3 a0 len0 cap0 a1 a2 fl W hI hl (fun j hj => (hr j hj).1) (fun j hj => bounds_i64 (hr j hj).2) b1.1 b1.2 b2.1 b2.2).mono fun e W' ⟨he, bel⟩ => ?_
  subst he
  exact ⟨_, rfl, _, _, _, [], _, [], hW', trodAll_mk1 (shut_bool Try.underlying4 _), (trodAll_cons_mk (Below.trod laidOut (by kernel_rfl) (of_decide_eq_true (by kernel_rfl)) k0 bel lt0) (trodAll_cons_mk (shut_int Try.underlying2 w1) (trodAll_cons_mk (shut_int Try.underlying2 w2) trodAll_mk0))), rfl, bel.frame _, fun h => by cases h⟩

theorem over : Rows.fnClosesToNarrowsAsTheDayMovesBackRow.holds Try.pinned (OpenSpec.ofChange Rows.fnClosesToNarrowsAsTheDayMovesBackSpec) :=
  OpenClaim.holds_of_wide 3 Try.f3 rfl rfl rfl rfl rfl rfl rfl ⟨rfl, rfl, rfl, rfl, rfl⟩ rfl rfl rfl rfl rfl (by kernel_rfl) Try.func3 (by kernel_rfl)
    (of_decide_eq_true (by kernel_rfl)) (by unfold Func.isWrapper; first | (rw [if_pos (by decide +kernel)]; kernel_rfl) | (rw [if_neg (by decide +kernel)]; exact ⟨rfl, rfl⟩))
    (fun os started H enc _ => lifted os started H enc)

/-- The statement. -/
theorem proved : Rows.FnClosesToNarrowsAsTheDayMovesBackSaid := over
end Go.Proofs.Qxb6605807a.fnClosesToNarrowsAsTheDayMovesBack
