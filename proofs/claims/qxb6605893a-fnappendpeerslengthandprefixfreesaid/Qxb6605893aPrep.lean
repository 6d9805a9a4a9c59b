/-
  The two laws over appendPeers: what lies where behind the calls.
-/
import Derived.Test.Qxb6605893aRead
import Derived.Deep.QuietTactic
import Derived.BigQuiet
namespace Go.Proofs.Qxb6605893a
open Go.RowKit
set_option linter.unusedVariables false
set_option linter.unusedSimpArgs false

theorem drew_fields : ∀ (n : Nat) (w : World), (w.drewN n).os = w.os ∧ (w.drewN n).tape = w.tape ∧ (w.drewN n).output = w.output ∧ (w.drewN n).heap = w.heap
  | 0, _ => ⟨rfl, rfl, rfl, rfl⟩
  | n + 1, w => drew_fields n w.drew
theorem below_drew {B : Nat} {a w : World} (h : Below B a w) (n : Nat) : Below B a (w.drewN n) := by
  obtain ⟨h1, h2, h3, h4⟩ := drew_fields n w
  exact h.trans ⟨h1, h2, h3, by rw [h4]; exact Nat.le_refl _, fun k _ => by rw [h4]⟩
theorem below_smaller {B B' : Nat} {a w : World} (h : Below B a w) (hb : B' ≤ B) : Below B' a w :=
  ⟨h.os, h.tape, h.output, h.size, fun k hk => h.block k (Nat.lt_of_lt_of_le hk hb)⟩

theorem App.keeps {w w' : World} {v v' u : Value} {B n : Nat} {e : TypeId} {xs : List Value} (ha : App w w' v v') (hu : w.ownsRow B e 1 u n xs) (hv : ∀ k, v.ownBlock = some k → k < B) : w'.ownsRow B e 1 u n xs := by
  refine ⟨hu.1, ?_⟩
  rcases hu.2 with h | ⟨g, cap, cur, rfl, hB, hg, rest⟩
  · exact .inl h
  · exact .inr ⟨g, cap, cur, rfl, hB, (ha.block g (Array.getElem?_eq_some_iff.1 hg).1 (fun e => by have := hv g e; omega)).trans hg, rest⟩
theorem App.below {a w w' : World} {v v' : Value} {B : Nat} (ha : App w w' v v') (hb : Below B a w) (hB : B ≤ w.heap.size) (hv : ∀ k, v.ownBlock = some k → B ≤ k) : Below B a w' :=
  hb.trans ⟨ha.os, ha.tape, ha.output, ha.size, fun k hk => ha.block k (by omega) (fun e => by have := hv k e; omega)⟩
theorem peers_of {w : World} {B m pc : Nat} {pa : Option Addr} {ss : List ByteArray} {v : Value} (hu : w.ownsRow B 9 1 (.slice pa m pc) m (St ss)) (hl : ss.length = m) (hv : ∀ k, v.ownBlock = some k → k < B) : Peers w pa m ss v := by
  intro h0
  have hu' := hu
  rcases hu.2 with ⟨h, _⟩ | ⟨g, cap, cur, h, hB, hg, _⟩
  · cases h; omega
  · cases h
    exact ⟨g, 0, rfl, (Array.getElem?_eq_some_iff.1 hg).1, fun e => by have := hv g e; omega, fun j hj => by rw [Nat.zero_add, hu'.cellAt j (by omega), St_at ss j (by omega)]⟩

/-- Behind the three clones. -/
theorem prep {w w1 w2 w3 : World} {n m pc : Nat} {pa : Option Addr} {L : List Int} {ss : List ByteArray} {vb : Value} (hl : ss.length = m)
    (o1 : w1.ownsRow w.heap.size 5 1 vb n (U8 L)) (b1 : Below w.heap.size w w1) (o2 : w2.ownsRow w1.heap.size 9 1 (.slice pa m pc) m (St ss)) (b2 : Below w1.heap.size w1 w2) (b3 : Below w2.heap.size w2 w3) :
    w3.ownsRow w.heap.size 5 1 vb n (U8 L) ∧ Peers w3 pa m ss vb ∧ w.heap.size ≤ w3.heap.size := by
  have s1 := b1.size
  have s2 := b2.size
  have s3 := b3.size
  exact ⟨own_below (own_below o1 b2) b3, peers_of (own_below o2 b3) hl (fun k hk => (o1.lt k hk).2), by omega⟩
/-- Behind appendPeers. -/
theorem after {w w1 w2 w3 w4 : World} {n m pc oc : Nat} {pa oa : Option Addr} {L : List Int} {ss : List ByteArray} {vb v' : Value}
    (o1 : w1.ownsRow w.heap.size 5 1 vb n (U8 L)) (b1 : Below w.heap.size w w1) (o2 : w2.ownsRow w1.heap.size 9 1 (.slice pa m pc) m (St ss)) (b2 : Below w1.heap.size w1 w2)
    (o3 : w3.ownsRow w2.heap.size 5 1 (.slice oa n oc) n (U8 L)) (b3 : Below w2.heap.size w2 w3) (ha : App w3 w4 vb v') :
    w4.ownsRow w2.heap.size 5 1 (.slice oa n oc) n (U8 L) ∧ w4.ownsRow w1.heap.size 9 1 (.slice pa m pc) m (St ss) ∧ Below w.heap.size w w4 := by
  have s1 := b1.size
  have s2 := b2.size
  have s3 := b3.size
  have hk : ∀ k, vb.ownBlock = some k → w.heap.size ≤ k ∧ k < w1.heap.size := fun k h => o1.lt k h
  refine ⟨ha.keeps o3 (fun k h => by have := hk k h; omega), ha.keeps (own_below o2 b3) (fun k h => (hk k h).2), ?_⟩
  exact ha.below ((b1.trans (below_smaller b2 s1)).trans (below_smaller b3 (Nat.le_trans s1 s2))) (by omega) (fun k h => (hk k h).1)
theorem rowIn_slice {w : World} {B : Nat} {e : TypeId} {a : Option Addr} {n c : Nat} {xs : List Value} (h : w.ownsRow B e 1 (.slice a n c) n xs) : RowIn w a n xs := by
  obtain ⟨a', c', e1, h1⟩ := rowIn_of h
  cases e1
  exact h1

/-! ### the plain law -/
theorem U8_at (L : List Int) (j : Nat) (h : j < L.length) : (U8 L)[j]? = some (.int .u8 (L.getD j 0)) := by simp [List.getElem?_eq_getElem h]
theorem getD_mid {LL pre mid post : List Int} (e : LL = pre ++ mid ++ post) (p : Nat) (hp : pre.length = p) (j : Nat) (hj : j < mid.length) : LL.getD (p + j) 0 = mid.getD j 0 := by
  subst hp
  rw [e, List.append_assoc, List.getD_eq_getElem?_getD, List.getElem?_append_right (by omega), List.getD_eq_getElem?_getD, List.getElem?_append_left (by omega)]
  congr 2
  omega
theorem enc_cut (L : List Int) (ss : List ByteArray) (k : Nat) (h : k < ss.length) : L ++ enc ss = (L ++ (uv ss.length ++ encP (ss.take k))) ++ uv (nm ss k).size ++ (bytes (nm ss k) ++ encP (ss.drop (k + 1))) := by
  unfold enc
  rw [encP_split ss k, encP_drop ss k h]
  simp only [List.append_assoc]
theorem enc_cut2 (L : List Int) (ss : List ByteArray) (k : Nat) (h : k < ss.length) : L ++ enc ss = (L ++ (uv ss.length ++ encP (ss.take k)) ++ uv (nm ss k).size) ++ bytes (nm ss k) ++ encP (ss.drop (k + 1)) := by
  rw [enc_cut L ss k h]
  simp only [List.append_assoc]
theorem enc_len (ss : List ByteArray) (h : ∀ j, j < ss.length → (nm ss j).size ≤ 1048576) (hm : ss.length ≤ 65536) : (enc ss).length ≤ 100000000000 ∧ 1 ≤ (enc ss).length := by
  have h1 := encP_len ss ss.length h (Nat.le_refl _)
  rw [List.take_length] at h1
  have h2 := uv_len ss.length
  unfold enc
  rw [List.length_append]
  omega
end Go.Proofs.Qxb6605893a
