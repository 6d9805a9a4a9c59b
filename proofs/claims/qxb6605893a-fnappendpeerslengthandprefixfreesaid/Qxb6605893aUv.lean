/-
  The plain law: LEB128 of numbers below 2^21; how a list of peers is encoded.
-/
import Derived.WalkKit
import Derived.Laws.BitsAllLaws
import Derived.Lib.AppendStr
namespace Go.Proofs.Qxb6605893a
open Go.Lib (strCells)

def uv (y : Nat) : List Int :=
  if y < 128 then [(y : Int)] else if y < 16384 then [((y % 128 + 128 : Nat) : Int), ((y / 128 : Nat) : Int)] else [((y % 128 + 128 : Nat) : Int), ((y / 128 % 128 + 128 : Nat) : Int), ((y / 16384 : Nat) : Int)]

theorem uv_small (y : Nat) (h : y < 128) : uv y = [(y : Int)] := by unfold uv; rw [if_pos h]
theorem uv_two (y : Nat) (h : 128 ≤ y) (h2 : y < 16384) : uv y = [((y % 128 + 128 : Nat) : Int), ((y / 128 : Nat) : Int)] := by unfold uv; rw [if_neg (by omega), if_pos h2]
theorem uv_three (y : Nat) (h : 16384 ≤ y) : uv y = [((y % 128 + 128 : Nat) : Int), ((y / 128 % 128 + 128 : Nat) : Int), ((y / 16384 : Nat) : Int)] := by unfold uv; rw [if_neg (by omega), if_neg (by omega)]
theorem uv_step (y : Nat) (h : 128 ≤ y) (h2 : y < 2097152) : uv y = ((y % 128 + 128 : Nat) : Int) :: uv (y / 128) := by
  by_cases h3 : y < 16384
  · rw [uv_two y h h3, uv_small (y / 128) (by omega)]
  · rw [uv_three y (by omega), uv_two (y / 128) (by omega) (by omega), Nat.div_div_eq_div_mul]
theorem uv_len (y : Nat) : 1 ≤ (uv y).length ∧ (uv y).length ≤ 3 := by
  unfold uv
  split
  · simp
  · split <;> simp

/-- A string's bytes. -/
def bytes (s : ByteArray) : List Int := s.data.toList.map fun b => (b.toNat : Int)
theorem bytes_len (s : ByteArray) : (bytes s).length = s.size := by unfold bytes; rw [List.length_map, Array.length_toList]; rfl
theorem strCells_bytes (s : ByteArray) : strCells s = (bytes s).map (Value.int .u8) := by simp [strCells, bytes]
/-- The peers, one behind the other. -/
def encP (ss : List ByteArray) : List Int := ss.flatMap fun p => uv p.size ++ bytes p
def enc (ss : List ByteArray) : List Int := uv ss.length ++ encP ss
theorem encP_snoc (ss : List ByteArray) (p : ByteArray) : encP (ss ++ [p]) = encP ss ++ (uv p.size ++ bytes p) := by simp [encP]
theorem encP_take (ss : List ByteArray) (k : Nat) (h : k < ss.length) : encP (ss.take (k + 1)) = encP (ss.take k) ++ (uv (ss.getD k ByteArray.empty).size ++ bytes (ss.getD k ByteArray.empty)) := by
  rw [List.take_succ_eq_append_getElem h, encP_snoc]
  simp [List.getElem?_eq_getElem h]
theorem encP_drop (ss : List ByteArray) (k : Nat) (h : k < ss.length) : encP (ss.drop k) = uv (ss.getD k ByteArray.empty).size ++ bytes (ss.getD k ByteArray.empty) ++ encP (ss.drop (k + 1)) := by
  have e : ss.drop k = ss.getD k ByteArray.empty :: ss.drop (k + 1) := by
    rw [List.drop_eq_getElem_cons h]
    congr 1
    simp [List.getElem?_eq_getElem h]
  rw [e]
  simp only [encP, List.flatMap_cons]
theorem encP_split (ss : List ByteArray) (k : Nat) : encP ss = encP (ss.take k) ++ encP (ss.drop k) := by
  unfold encP
  rw [← List.flatMap_append, List.take_append_drop]

theorem encP_len (ss : List ByteArray) (k : Nat) (h : ∀ j, j < ss.length → (ss.getD j ByteArray.empty).size ≤ 1048576) : k ≤ ss.length → (encP (ss.take k)).length ≤ k * 1048579 := by
  induction k with
  | zero => intro _; simp [encP]
  | succ k ih =>
    intro hk
    rw [encP_take ss k (by omega), List.length_append, List.length_append, bytes_len]
    have h1 := ih (by omega)
    have h2 := uv_len (ss.getD k ByteArray.empty).size
    have h3 := h k (by omega)
    omega

/-! ### bits -/
set_option maxRecDepth 20000 in
theorem nat_or128 : ∀ z, z < 256 → z ||| 128 = z % 128 + 128 := by decide
theorem nat_and127 (z : Nat) : z &&& 127 = z % 128 := nat_mask7 z
theorem or128 (z : Int) (h0 : 0 ≤ z) (h1 : z < 256) : bits .or .u8 z 128 = z % 128 + 128 := by
  rw [u8_or z 128 h0 h1 (by omega) (by omega), show (128 : Int).toNat = 128 from rfl, nat_or128 _ (by omega)]
  omega
theorem and127 (z : Int) (h0 : 0 ≤ z) (h1 : z < 256) : bits .and .u8 z 127 = z % 128 := by
  rw [u8_and z 127 h0 h1 (by omega) (by omega), show (127 : Int).toNat = 127 from rfl, nat_and127]
  omega
/-- 'x | y<<s' where y<<s has no bit in common with x. -/
theorem or_add (x y : Nat) (i : Nat) (hx : x < 2 ^ i) (hb : x < 18446744073709551616) (hy : y * 2 ^ i < 18446744073709551616) : bits .or .u64 (x : Int) ((y * 2 ^ i : Nat) : Int) = ((x + y * 2 ^ i : Nat) : Int) := by
  rw [u64_or_nat x (y * 2 ^ i) hb hy, Nat.or_comm, nat_join i (y * 2 ^ i) x (Nat.mul_mod_left _ _) hx, Nat.add_comm]
end Go.Proofs.Qxb6605893a
