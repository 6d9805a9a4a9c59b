/-
  FnTakeScriptKeepsPoolSumAndBounds: the plain law: what the pool's map says of the names and amounts that the law gathers.
-/
import Derived.Test.Qxb6605728aGuard
namespace Go.Proofs.Qxb6605728a
open Go.RowKit Go.Maps
set_option linter.unusedVariables false
set_option linter.unusedSimpArgs false

abbrev nm (ns : List ByteArray) (i : Nat) : ByteArray := ns.getD i ByteArray.empty

theorem key_ne {s t : ByteArray} (h : s ≠ t) : key s ≠ key t := by
  intro e
  apply h
  cases s; cases t
  simp at e
  rw [e]

structure Ledger (D : DataW Unit) (ns : List ByteArray) (am : List Int) (T lim : Int) : Prop where
  len : am.length = ns.length
  size : Maps.size D = ns.length
  has : ∀ s, Maps.has D (key s) = true ↔ s ∈ ns
  nodup : ∀ i j, i < ns.length → j < ns.length → nm ns i = nm ns j → i = j
  at_ : ∀ i, i < ns.length → D.atKey (key (nm ns i)) (I64 0) = I64 (am.getD i 0)
  nn : ∀ i, i < ns.length → 0 ≤ am.getD i 0 ∧ am.getD i 0 ≤ lim / 2
  sum : am.sum = T
  le : T ≤ lim

theorem Ledger.start (lim : Int) (h : 0 ≤ lim) : Ledger (.map []) [] [] 0 lim :=
  ⟨rfl, rfl, fun s => by simp [Maps.has], fun i j h => by simp at h, fun i h => by simp at h, fun i h => by simp at h, rfl, h⟩

theorem nm_mem {ns : List ByteArray} {i : Nat} (h : i < ns.length) : nm ns i ∈ ns := by
  simp only [nm, List.getD_eq_getElem?_getD, List.getElem?_eq_getElem h, Option.getD_some]
  exact List.getElem_mem h
theorem mem_nm {ns : List ByteArray} {s : ByteArray} (h : s ∈ ns) : ∃ i, i < ns.length ∧ nm ns i = s := by
  obtain ⟨i, hi, rfl⟩ := List.getElem_of_mem h
  exact ⟨i, hi, by simp [nm, List.getElem?_eq_getElem hi]⟩

theorem sum_set : ∀ (am : List Int) (i : Nat) (x : Int), i < am.length → (am.set i (am.getD i 0 + x)).sum = am.sum + x
  | [], i, x, h => by simp at h
  | a :: r, 0, x, h => by simp; omega
  | a :: r, i + 1, x, h => by
    have := sum_set r i x (by simpa using h)
    simp at this ⊢
    omega

theorem getD_set_same (am : List Int) (i : Nat) (x : Int) (h : i < am.length) : (am.set i x).getD i 0 = x := by simp [h]
theorem getD_set_other (am : List Int) (i j : Nat) (x : Int) (h : i ≠ j) : (am.set i x).getD j 0 = am.getD j 0 := by simp [h]

/-- the holder is known: its share goes up -/
theorem Ledger.found {D : DataW Unit} {ns : List ByteArray} {am : List Int} {T lim x : Int} (L : Ledger D ns am T lim) (hD : Tidy D) {i : Nat} (hi : i < ns.length) (hx : 0 ≤ x) (h1 : T + x ≤ lim) (h2 : am.getD i 0 + x ≤ lim / 2) :
    Ledger (D.put (key (nm ns i)) (I64 (am.getD i 0 + x))) ns (am.set i (am.getD i 0 + x)) (T + x) lim := by
  have hla := L.len
  have hmem : Maps.has D (key (nm ns i)) = true := (L.has _).2 (nm_mem hi)
  refine ⟨by simpa using hla, ?_, ?_, L.nodup, ?_, ?_, ?_, h1⟩
  · rw [size_put hD, if_pos hmem]; exact L.size
  · intro s
    by_cases e : s = nm ns i
    · subst e
      rw [has_put_same hD.isMap (by trivial)]
      exact ⟨fun _ => nm_mem hi, fun _ => rfl⟩
    · rw [has_put_other (key_ne e)]
      exact L.has s
  · intro j hj
    by_cases e : i = j
    · subst e
      rw [atKey_put_same hD.isMap (by trivial), getD_set_same _ _ _ (by omega)]
    · rw [atKey_put_other (key_ne (fun e' => e (L.nodup j i hj hi e').symm)), getD_set_other _ _ _ _ e]
      exact L.at_ j hj
  · intro j hj
    by_cases e : i = j
    · subst e
      rw [getD_set_same _ _ _ (by omega)]
      have := L.nn i hi
      omega
    · rw [getD_set_other _ _ _ _ e]
      exact L.nn j hj
  · rw [sum_set _ _ _ (by omega), L.sum]

/-- the holder is new -/
theorem Ledger.new {D : DataW Unit} {ns : List ByteArray} {am : List Int} {T lim x : Int} (L : Ledger D ns am T lim) (hD : Tidy D) {s : ByteArray} (hs : s ∉ ns) (hx : 0 ≤ x) (h1 : T + x ≤ lim) (h2 : x ≤ lim / 2) :
    Ledger (D.put (key s) (I64 x)) (ns ++ [s]) (am ++ [x]) (T + x) lim := by
  have hla := L.len
  have hno : Maps.has D (key s) = false := by
    cases h : Maps.has D (key s)
    · rfl
    · exact absurd ((L.has s).1 h) hs
  have hold : ∀ i, i < ns.length → nm (ns ++ [s]) i = nm ns i := fun i hi => by simp [nm, List.getElem?_append_left hi]
  have hnew : nm (ns ++ [s]) ns.length = s := by simp [nm]
  have aold : ∀ i, i < ns.length → (am ++ [x]).getD i 0 = am.getD i 0 := fun i hi => by simp [List.getElem?_append_left (hla ▸ hi : i < am.length)]
  have anew : (am ++ [x]).getD ns.length 0 = x := by rw [← hla]; simp
  have hne : ∀ i, i < ns.length → nm ns i ≠ s := fun i hi e => hs (e ▸ nm_mem hi)
  refine ⟨by simp [hla], ?_, ?_, ?_, ?_, ?_, ?_, h1⟩
  · rw [size_put hD, hno]; simp [L.size]
  · intro t
    by_cases e : t = s
    · subst e
      rw [has_put_same hD.isMap (by trivial)]
      simp
    · rw [has_put_other (key_ne e)]
      simp [L.has t, e]
  · intro i j hi hj he
    simp at hi hj
    by_cases ei : i = ns.length
    · by_cases ej : j = ns.length
      · omega
      · subst ei
        rw [hnew, hold j (by omega)] at he
        exact absurd he.symm (hne j (by omega))
    · by_cases ej : j = ns.length
      · subst ej
        rw [hnew, hold i (by omega)] at he
        exact absurd he (hne i (by omega))
      · rw [hold i (by omega), hold j (by omega)] at he
        exact L.nodup i j (by omega) (by omega) he
  · intro i hi
    simp at hi
    by_cases ei : i = ns.length
    · subst ei
      rw [hnew, anew, atKey_put_same hD.isMap (by trivial)]
    · rw [hold i (by omega), aold i (by omega), atKey_put_other (key_ne (hne i (by omega)))]
      exact L.at_ i (by omega)
  · intro i hi
    simp at hi
    by_cases ei : i = ns.length
    · subst ei
      rw [anew]
      exact ⟨hx, h2⟩
    · rw [aold i (by omega)]
      exact L.nn i (by omega)
  · simp [L.sum]

/-- The sum of the first k amounts. -/
def sumTo (am : List Int) (k : Nat) : Int := (am.take k).sum
theorem sumTo_zero (am : List Int) : sumTo am 0 = 0 := by simp [sumTo]
theorem sumTo_succ (am : List Int) (k : Nat) (h : k < am.length) : sumTo am (k + 1) = sumTo am k + am.getD k 0 := by
  unfold sumTo
  rw [List.take_succ_eq_append_getElem h, List.sum_append]
  simp [List.getElem?_eq_getElem h]
theorem sumTo_all (am : List Int) : sumTo am am.length = am.sum := by simp [sumTo]
theorem sumTo_le : ∀ (am : List Int) (k : Nat), (∀ i, i < am.length → 0 ≤ am.getD i 0) → 0 ≤ sumTo am k ∧ sumTo am k ≤ am.sum
  | [], k, _ => by simp [sumTo]
  | a :: r, 0, h => by
    have h0 := h 0 (by simp)
    have := sumTo_le r 0 (fun i hi => by simpa using h (i + 1) (by simpa using hi))
    simp [sumTo] at this h0 ⊢
    omega
  | a :: r, k + 1, h => by
    have h0 := h 0 (by simp)
    have := sumTo_le r k (fun i hi => by simpa using h (i + 1) (by simpa using hi))
    simp [sumTo] at this h0 ⊢
    omega
theorem Ledger.sums {D : DataW Unit} {ns : List ByteArray} {am : List Int} {T lim : Int} (L : Ledger D ns am T lim) (k : Nat) : 0 ≤ sumTo am k ∧ sumTo am k ≤ lim ∧ 0 ≤ T := by
  have h := sumTo_le am k (fun i hi => (L.nn i (by rw [← L.len]; exact hi)).1)
  have := L.sum
  have := L.le
  omega
end Go.Proofs.Qxb6605728a
