/-
  zzCloneBytes, zzCloneStrings: contracts (functions 10, 11).
-/
import Derived.Test.Qxb6605893aAppend
import Derived.Laws.CopyOwn
import Derived.Lib.SliceRun
namespace Go.Proofs.Qxb6605893a
open Go.RowKit
set_option linter.unusedVariables false
set_option linter.unusedSimpArgs false

/-- A slice whose first n cells are xs. -/
def RowIn (w : World) (a : Option Addr) (n : Nat) (xs : List Value) : Prop :=
  0 < n → ∃ b off, a = some ⟨b, off, none⟩ ∧ b < w.heap.size ∧ ∀ j, j < n → w.cell? ⟨b, off + j, none⟩ = xs[j]?
theorem RowIn.below {w w' : World} {a : Option Addr} {n : Nat} {xs : List Value} (h : RowIn w a n xs) (hb : Below w.heap.size w w') : RowIn w' a n xs := by
  intro h0
  obtain ⟨b, off, e, hlt, hc⟩ := h h0
  exact ⟨b, off, e, Nat.lt_of_lt_of_le hlt hb.size, fun j hj => (hb.cell (p := ⟨b, off + j, none⟩) hlt).trans (hc j hj)⟩
theorem rowIn_of {w : World} {B : Nat} {e : TypeId} {v : Value} {n : Nat} {xs : List Value} (h : w.ownsRow B e 1 v n xs) : ∃ a c, v = .slice a n c ∧ RowIn w a n xs := by
  have h' := h
  rcases h.2 with ⟨rfl, rfl⟩ | ⟨g, cap, cur, rfl, _, hg, _⟩
  · exact ⟨none, 0, rfl, fun h => by omega⟩
  · exact ⟨some ⟨g, 0, none⟩, cap, rfl, fun _ => ⟨g, 0, rfl, (Array.getElem?_eq_some_iff.1 hg).1, fun j hj => by rw [Nat.zero_add]; exact h'.cellAt j (by omega)⟩⟩
theorem own_below {w w' : World} {B : Nat} {e : TypeId} {s : Nat} {v : Value} {n : Nat} {xs : List Value} (h : w.ownsRow B e s v n xs) (hb : Below w.heap.size w w') : w'.ownsRow B e s v n xs := by
  refine ⟨h.1, ?_⟩
  rcases h.2 with hn | ⟨g, cap, cur, rfl, hB, hg, rest⟩
  · exact .inl hn
  · exact .inr ⟨g, cap, cur, rfl, hB, (hb.block g (Array.getElem?_eq_some_iff.1 hg).1).trans hg, rest⟩
theorem own_base {w : World} {B B' : Nat} {e : TypeId} {s : Nat} {v : Value} {n : Nat} {xs : List Value} (h : w.ownsRow B e s v n xs) (hb : B' ≤ B) : w.ownsRow B' e s v n xs := by
  refine ⟨h.1, ?_⟩
  rcases h.2 with hn | ⟨g, cap, cur, rfl, hB, rest⟩
  · exact .inl hn
  · exact .inr ⟨g, cap, cur, rfl, Nat.le_trans hb hB, rest⟩

set_option maxRecDepth 20000 in
set_option maxHeartbeats 1000000 in
theorem clone10 (a : Option Addr) (n c : Nat) (xs : List Value) (w : World) (hr : RowIn w a n xs) (hl : xs.length = n) (h1 : ∀ u ∈ xs, u.oneCell' = true) (hn : n ≤ 1048576) :
    Calls Try.prog 10 #[.slice a n c] w fun e w' => ∃ v', e = .returned v' ∧ w'.ownsRow w.heap.size 5 1 v' n xs ∧ Below w.heap.size w w' := by
  have qnil : ∀ (w : World) (a : Option Addr) (n c : Nat), (binOp .eql 26 (.slice a n c) (.slice none 0 0)).run Try.prog w = .ok (.bool a.isNone) w := fun w a n c => Lib.run_eql_slice_nil w _ _ a n c _ _ Try.underlying26
  have HR : Hid (RowIn w a n xs) := hr
  have HL : Hid (xs.length = n) := hl
  have H1 : Hid (∀ u ∈ xs, u.oneCell' = true) := h1
  clear hr hl h1
  cases a with
  | none =>
    have h0 : n = 0 := by
      by_cases h : 0 < n
      · obtain ⟨b, off, e, _⟩ := HR.out h; cases e
      · omega
    subst h0
    have hx : xs = [] := List.eq_nil_of_length_eq_zero HL.out
    subst hx
    go_enter Try.func10, Try.ntmps10
    go_wp2_with fail
    go_ret
    exact ⟨_, rfl, World.ownsRow_nil _ _ _ _, Below.refl _ _⟩
  | some x =>
    obtain ⟨i0, hi, hz0, hz1, hz2⟩ := info_parts Try.info5
    have hb1 : i0.bytes * n ≤ 281474976710656 := by rw [hz2]; omega
    have hsz : (Try.prog.info? 5).map (·.size) = some 1 := by kernel_rfl
    go_enter Try.func10, Try.ntmps10
    go_upto_region 4 with (at_make; refine wpList_make_full _ rfl _ _ 26 rfl w.heap.size 5 i0 (.int .u8 0) 1 Try.underlying26 hi hz0 hz1 .i64 .i64 n n n rfl rfl rfl rfl hb1 (by unfold maxLen; omega) (Nat.le_refl _) ?_; intro w1 hown hgrow)
    have hb0 : Below w.heap.size w w1 := (Below.refl _ _).grown hgrow (Nat.le_refl _) (fun k e => by cases e)
    have hw1 : w.heap.size < w1.heap.size := (hown.lt _ rfl).2
    obtain ⟨cur, hcg, hcs⟩ : ∃ cur : List Value, w1.heap[w.heap.size]? = some (.cells cur.toArray 5 (0, 0)) ∧ cur.length = n := by
      rcases hown.2 with ⟨e, _⟩ | ⟨g, cap, cur, e, _, hg, _, _, hcs, _⟩
      · cases e
      · cases e
        exact ⟨cur.toList, by simpa using hg, by simpa using hcs⟩
    have HC : Hid (w1.heap[w.heap.size]? = some (.cells cur.toArray 5 (0, 0))) := hcg
    have HCS : Hid (cur.length = n) := hcs
    have HB0 : Hid (Below w.heap.size w w1) := hb0
    have hmin : xs.length = Nat.min n n := by rw [HL.out]; exact (Nat.min_self n).symm
    have HMin : Hid (xs.length = Nat.min n n) := hmin
    have hpos : 0 < xs.length → some (⟨w.heap.size, 0, none⟩ : Addr) = some ⟨w.heap.size, 0, none⟩ ∧ ∃ ad, some x = some ad ∧ ∀ j v, xs[j]? = some v → w1.cell? (ad.add j) = some v := by
      intro h0
      refine ⟨rfl, x, rfl, fun j v hv => ?_⟩
      have hlen := HL.out
      obtain ⟨b, off, e, hlt, hc⟩ := HR.out (by omega)
      cases e
      have hj : j < n := by
        rcases Nat.lt_or_ge j xs.length with h | h
        · omega
        · rw [List.getElem?_eq_none h] at hv; cases hv
      have hadd : (⟨b, off, none⟩ : Addr).add j = ⟨b, off + j, none⟩ := WideShapes.add_plain b off j
      rw [hadd, hb0.cell (p := ⟨b, off + j, none⟩) hlt, hc j hj]
      exact hv
    have HPos : Hid (0 < xs.length → some (⟨w.heap.size, 0, none⟩ : Addr) = some ⟨w.heap.size, 0, none⟩ ∧ ∃ ad, some x = some ad ∧ ∀ j v, xs[j]? = some v → w1.cell? (ad.add j) = some v) := hpos
    have hfit : 0 + xs.length ≤ cur.length := by rw [HCS.out, HL.out]; omega
    have HFit : Hid (0 + xs.length ≤ cur.length) := hfit
    clear hown hgrow hcg hcs hb0 hmin hpos hfit
    go_wp2_with (refine wpList_copy_splice rfl _ _ 26 26 rfl 5 Try.underlying26 hsz (some ⟨w.heap.size, 0, none⟩) (some x) n n n c rfl rfl w.heap.size 0 cur 5 HC.out xs HMin.out HPos.out HFit.out H1.out w.heap.size w HB0.out (Nat.le_refl _) ?_; intro w2 hg2 hb2)
    go_ret
    refine ⟨_, rfl, ?_, hb2⟩
    have hsp : splice cur 0 xs = xs := by
      unfold splice
      rw [List.drop_eq_nil_of_le (by have := HCS.out; have := HL.out; omega)]
      simp
    have hg3 := hg2.out
    rw [hsp] at hg3
    exact ⟨by rw [HL.out]; omega, .inr ⟨w.heap.size, n, xs.toArray, rfl, Nat.le_refl _, hg3, Nat.le_refl _, by unfold maxLen; omega, by simp [HL.out], by rw [Nat.mul_one]; exact List.take_of_length_le (by rw [HL.out]; exact Nat.le_refl _)⟩⟩

set_option maxRecDepth 20000 in
set_option maxHeartbeats 1000000 in
theorem clone11 (a : Option Addr) (n c : Nat) (xs : List Value) (w : World) (hr : RowIn w a n xs) (hl : xs.length = n) (h1 : ∀ u ∈ xs, u.oneCell' = true) (hn : n ≤ 1048576) :
    Calls Try.prog 11 #[.slice a n c] w fun e w' => ∃ v', e = .returned v' ∧ w'.ownsRow w.heap.size 9 1 v' n xs ∧ Below w.heap.size w w' := by
  have qnil : ∀ (w : World) (a : Option Addr) (n c : Nat), (binOp .eql 27 (.slice a n c) (.slice none 0 0)).run Try.prog w = .ok (.bool a.isNone) w := fun w a n c => Lib.run_eql_slice_nil w _ _ a n c _ _ Try.underlying27
  have HR : Hid (RowIn w a n xs) := hr
  have HL : Hid (xs.length = n) := hl
  have H1 : Hid (∀ u ∈ xs, u.oneCell' = true) := h1
  clear hr hl h1
  cases a with
  | none =>
    have h0 : n = 0 := by
      by_cases h : 0 < n
      · obtain ⟨b, off, e, _⟩ := HR.out h; cases e
      · omega
    subst h0
    have hx : xs = [] := List.eq_nil_of_length_eq_zero HL.out
    subst hx
    go_enter Try.func11, Try.ntmps11
    go_wp2_with fail
    go_ret
    exact ⟨_, rfl, World.ownsRow_nil _ _ _ _, Below.refl _ _⟩
  | some x =>
    obtain ⟨i0, hi, hz0, hz1, hz2⟩ := info_parts Try.info9
    have hb1 : i0.bytes * n ≤ 281474976710656 := by rw [hz2]; omega
    have hsz : (Try.prog.info? 9).map (·.size) = some 1 := by kernel_rfl
    go_enter Try.func11, Try.ntmps11
    go_upto_region 4 with (at_make; refine wpList_make_full _ rfl _ _ 27 rfl w.heap.size 9 i0 (.string ByteArray.empty) 1 Try.underlying27 hi hz0 hz1 .i64 .i64 n n n rfl rfl rfl rfl hb1 (by unfold maxLen; omega) (Nat.le_refl _) ?_; intro w1 hown hgrow)
    have hb0 : Below w.heap.size w w1 := (Below.refl _ _).grown hgrow (Nat.le_refl _) (fun k e => by cases e)
    have hw1 : w.heap.size < w1.heap.size := (hown.lt _ rfl).2
    obtain ⟨cur, hcg, hcs⟩ : ∃ cur : List Value, w1.heap[w.heap.size]? = some (.cells cur.toArray 9 (0, 0)) ∧ cur.length = n := by
      rcases hown.2 with ⟨e, _⟩ | ⟨g, cap, cur, e, _, hg, _, _, hcs, _⟩
      · cases e
      · cases e
        exact ⟨cur.toList, by simpa using hg, by simpa using hcs⟩
    have HC : Hid (w1.heap[w.heap.size]? = some (.cells cur.toArray 9 (0, 0))) := hcg
    have HCS : Hid (cur.length = n) := hcs
    have HB0 : Hid (Below w.heap.size w w1) := hb0
    have hmin : xs.length = Nat.min n n := by rw [HL.out]; exact (Nat.min_self n).symm
    have HMin : Hid (xs.length = Nat.min n n) := hmin
    have hpos : 0 < xs.length → some (⟨w.heap.size, 0, none⟩ : Addr) = some ⟨w.heap.size, 0, none⟩ ∧ ∃ ad, some x = some ad ∧ ∀ j v, xs[j]? = some v → w1.cell? (ad.add j) = some v := by
      intro h0
      refine ⟨rfl, x, rfl, fun j v hv => ?_⟩
      have hlen := HL.out
      obtain ⟨b, off, e, hlt, hc⟩ := HR.out (by omega)
      cases e
      have hj : j < n := by
        rcases Nat.lt_or_ge j xs.length with h | h
        · omega
        · rw [List.getElem?_eq_none h] at hv; cases hv
      have hadd : (⟨b, off, none⟩ : Addr).add j = ⟨b, off + j, none⟩ := WideShapes.add_plain b off j
      rw [hadd, hb0.cell (p := ⟨b, off + j, none⟩) hlt, hc j hj]
      exact hv
    have HPos : Hid (0 < xs.length → some (⟨w.heap.size, 0, none⟩ : Addr) = some ⟨w.heap.size, 0, none⟩ ∧ ∃ ad, some x = some ad ∧ ∀ j v, xs[j]? = some v → w1.cell? (ad.add j) = some v) := hpos
    have hfit : 0 + xs.length ≤ cur.length := by rw [HCS.out, HL.out]; omega
    have HFit : Hid (0 + xs.length ≤ cur.length) := hfit
    clear hown hgrow hcg hcs hb0 hmin hpos hfit
    go_wp2_with (refine wpList_copy_splice rfl _ _ 27 27 rfl 9 Try.underlying27 hsz (some ⟨w.heap.size, 0, none⟩) (some x) n n n c rfl rfl w.heap.size 0 cur 9 HC.out xs HMin.out HPos.out HFit.out H1.out w.heap.size w HB0.out (Nat.le_refl _) ?_; intro w2 hg2 hb2)
    go_ret
    refine ⟨_, rfl, ?_, hb2⟩
    have hsp : splice cur 0 xs = xs := by
      unfold splice
      rw [List.drop_eq_nil_of_le (by have := HCS.out; have := HL.out; omega)]
      simp
    have hg3 := hg2.out
    rw [hsp] at hg3
    exact ⟨by rw [HL.out]; omega, .inr ⟨w.heap.size, n, xs.toArray, rfl, Nat.le_refl _, hg3, Nat.le_refl _, by unfold maxLen; omega, by simp [HL.out], by rw [Nat.mul_one]; exact List.take_of_length_le (by rw [HL.out]; exact Nat.le_refl _)⟩⟩
end Go.Proofs.Qxb6605893a
