/-
  ZZfile, closesTo, ZZclosesTo: contracts (functions 10, 12, 7).
-/
import Derived.Test.Qxb6605807aTime
import Derived.Maps.AppendAt
import Derived.Deep.AppendLies
namespace Go.Proofs.Qxb6605807a
open Go.RowKit
set_option linter.unusedVariables false
set_option linter.unusedSimpArgs false

theorem Try.info37 : (Try.prog.info? 37).map (fun i => (i.zero, i.size, i.bytes)) = some (some (.agg #[.string ByteArray.empty, .int .u64 0, .int .i64 0, .pointer none, .map none, .slice none 0 0]), 6, 72) := by kernel_rfl

/-- A close file, as it lies in memory: its name, its date (nanoseconds from the zero time), its slice of symbols. -/
structure F where
  name : ByteArray
  date : Int
  sa : Option Addr
  sn : Nat
  sc : Nat
def F.cells (f : F) : List Value := [.string f.name, .int .u64 (wall f.date), .int .i64 (ext f.date), .pointer none, .map none, .slice f.sa f.sn f.sc]
def flat (fs : List F) : List Value := fs.flatMap F.cells
def nof : F := ⟨ByteArray.empty, 0, none, 0, 0⟩

theorem bcell {W w1 : World} (hb : Below W.heap.size W w1) : (∀ b o, b < W.heap.size → w1.cell? ⟨b, o, none⟩ = W.cell? ⟨b, o, none⟩) ∧ (∀ b o, b < W.heap.size → w1.frozen? ⟨b, o, none⟩ = W.frozen? ⟨b, o, none⟩) :=
  ⟨fun b o h => hb.cell (p := ⟨b, o, none⟩) h, fun b o h => hb.frozen (p := ⟨b, o, none⟩) h⟩

set_option maxHeartbeats 400000 in
theorem file10 (s : ByteArray) (d : Int) (sa : Option Addr) (sn sc : Nat) (w : World) (h0 : -9223372036854775808 ≤ d) (h1 : d ≤ 9223372036854775807) :
    Calls Try.prog 10 #[.string s, .int .i64 d, .slice sa sn sc] w fun e w' => e = .returned (.agg #[.string s, .int .u64 (wall d), .int .i64 (ext d), .pointer none, .map none, .slice sa sn sc]) ∧ Below w.heap.size w w' := by
  have HA : Hid (∀ w, Calls Try.prog 13 #[.agg #[.int .u64 0, .int .i64 0, .pointer none], .int .i64 d] w fun e w' => e = .returned (.agg #[.int .u64 (wall d), .int .i64 (ext d), .pointer none]) ∧ Below w.heap.size w w') := fun w => add13 d w h0 h1
  go_enter Try.func10, Try.ntmps10
  go_wp2_with fail
  refine (HA.out _).mono ?_
  rintro e w' ⟨rfl, hb⟩
  obtain ⟨hbc, hbf⟩ := bcell hb
  have hz : w.heap.size < w'.heap.size := by have := hb.size; simp at this; omega
  have q0 := (hbc w.heap.size 0 (by simp)).trans (show _ = some (.string ⟨#[]⟩) by simp)
  have q1 := (hbc w.heap.size 1 (by simp)).trans (show _ = some (.int .u64 0) by simp)
  have q2 := (hbc w.heap.size 2 (by simp)).trans (show _ = some (.int .i64 0) by simp)
  have q3 := (hbc w.heap.size 3 (by simp)).trans (show _ = some (.pointer none) by simp)
  have q4 := (hbc w.heap.size 4 (by simp)).trans (show _ = some (.map none) by simp)
  have q5 := (hbc w.heap.size 5 (by simp)).trans (show _ = some (.slice none 0 0) by simp)
  have hf : ∀ o, w'.frozen? ⟨w.heap.size, o, none⟩ = false := fun o => (hbf w.heap.size o (by simp)).trans (by simp)
  clear hbc hbf
  have hbb : Below w.heap.size w w' := ((Below.refl _ _).alloc (Nat.le_refl _) _).trans (hb.mono (by simp))
  go_wp2_with fail
  exact bodyPost_ret (v := .agg #[.string s, .int .u64 (wall d), .int .i64 (ext d), .pointer none, .map none, .slice sa sn sc]) (by simp [results, Try.results10, go_sem, q0, q1, q2, q3, q4, q5, hz]) rfl
    ⟨rfl, (((((hbb.setCell (Nat.le_refl _) _).setCell (Nat.le_refl _) _).setCell (Nat.le_refl _) _).setCell (Nat.le_refl _) _).setCell (Nat.le_refl _) _).setCell (Nat.le_refl _) _⟩

/-! ### rows of close files -/
theorem cells_len (f : F) : f.cells.length = 6 := rfl
theorem flat_len : ∀ fs : List F, (flat fs).length = fs.length * 6
  | [] => rfl
  | f :: r => by
    have := flat_len r
    simp only [flat, List.flatMap_cons, List.length_append, cells_len, List.length_cons] at this ⊢
    omega
theorem flat_at : ∀ (fs : List F) (j i : Nat), j < fs.length → i < 6 → (flat fs)[j * 6 + i]? = (fs.getD j nof).cells[i]?
  | [], j, i, h, _ => by simp at h
  | f :: r, 0, i, h, hi => by
    simp only [flat, List.flatMap_cons]
    rw [List.getElem?_append_left (by rw [cells_len]; omega)]
    simp
  | f :: r, j + 1, i, h, hi => by
    have := flat_at r j i (by simpa using h) hi
    simp only [flat, List.flatMap_cons]
    rw [List.getElem?_append_right (by rw [cells_len]; omega), cells_len]
    rw [show (j + 1) * 6 + i - 6 = j * 6 + i from by omega]
    simpa [flat] using this
theorem flat_snoc (fs : List F) (f : F) : flat (fs ++ [f]) = flat fs ++ f.cells := by simp [flat]

/-- A slice of close files that the law has made. -/
def Row (w : World) (a : Option Addr) (n : Nat) (fs : List F) : Prop :=
  0 < n → ∃ g, a = some ⟨g, 0, none⟩ ∧ g < w.heap.size ∧ ∀ j, j < n → ∀ i, i < 6 → w.cell? ⟨g, j * 6 + i, none⟩ = (fs.getD j nof).cells[i]?
theorem row_of {w : World} {B : Nat} {v : Value} {fs : List F} (h : w.ownsRow B 37 6 v fs.length (flat fs)) : ∃ a c, v = .slice a fs.length c ∧ Row w a fs.length fs := by
  have h' := h
  rcases h.2 with ⟨rfl, e⟩ | ⟨g, cap, cur, rfl, hB, hg, _⟩
  · rw [e]
    exact ⟨none, 0, rfl, fun h => by omega⟩
  · refine ⟨some ⟨g, 0, none⟩, cap, rfl, fun _ => ⟨g, rfl, (Array.getElem?_eq_some_iff.1 hg).1, fun j hj i hi => ?_⟩⟩
    rw [h'.cellAt (j * 6 + i) (by omega)]
    exact flat_at fs j i hj hi
theorem Row.below {w w' : World} {a : Option Addr} {n : Nat} {fs : List F} (h : Row w a n fs) (hb : Below w.heap.size w w') : Row w' a n fs := by
  intro h0
  obtain ⟨g, e, hg, hc⟩ := h h0
  exact ⟨g, e, Nat.lt_of_lt_of_le hg hb.size, fun j hj i hi => (hb.cell (p := ⟨g, j * 6 + i, none⟩) hg).trans (hc j hj i hi)⟩

theorem own_below {w w' : World} {B : Nat} {e : TypeId} {s : Nat} {v : Value} {n : Nat} {xs : List Value} (h : w.ownsRow B e s v n xs) (hb : Below w.heap.size w w') : w'.ownsRow B e s v n xs := by
  refine ⟨h.1, ?_⟩
  rcases h.2 with hn | ⟨g, cap, cur, rfl, hB, hg, rest⟩
  · exact .inl hn
  · exact .inr ⟨g, cap, cur, rfl, hB, (hb.block g (Array.getElem?_eq_some_iff.1 hg).1).trans hg, rest⟩
theorem own_base {w : World} {B B' : Nat} {e : TypeId} {s : Nat} {v : Value} {n : Nat} {xs : List Value} (h : w.ownsRow B e s v n xs) (hb : B' ≤ B) : w.ownsRow B' e s v n xs := by
  refine ⟨h.1, ?_⟩
  rcases h.2 with hn | ⟨g, cap, cur, rfl, hB, rest⟩
  · exact .inl hn
  · exact .inr ⟨g, cap, cur, rfl, Nat.le_trans hb hB, rest⟩
theorem cells_one (f : F) : ∀ u ∈ f.cells, u.oneCell' = true := by
  intro u hu
  simp [F.cells] at hu
  rcases hu with rfl | rfl | rfl | rfl | rfl | rfl <;> rfl

/-- The files dated at or before d. -/
def kept (d : Int) (fs : List F) : List F := fs.filter fun f => decide (f.date ≤ d)
theorem kept_snoc (d : Int) (fs : List F) (k : Nat) (h : k < fs.length) : kept d (fs.take (k + 1)) = kept d (fs.take k) ++ if (fs.getD k nof).date ≤ d then [fs.getD k nof] else [] := by
  unfold kept
  rw [List.take_succ_eq_append_getElem h, List.filter_append]
  congr 1
  simp only [List.getD_eq_getElem?_getD, List.getElem?_eq_getElem h, Option.getD_some]
  by_cases hd : (fs[k]).date ≤ d <;> simp [hd]
theorem kept_len (d : Int) (fs : List F) (k : Nat) : (kept d (fs.take k)).length ≤ k := by
  unfold kept
  exact Nat.le_trans (List.length_filter_le _ _) (List.length_take_le _ _)

set_option maxRecDepth 20000 in
set_option maxHeartbeats 1000000 in
theorem closes12 (db : Nat) (a : Option Addr) (n c : Nat) (d : Int) (fs : List F) (w : World)
    (hp : w.cell? ⟨db, 6, none⟩ = some (.slice a n c)) (hdb : db < w.heap.size) (hn : n ≤ 65536) (hl : fs.length = n) (hc : Row w a n fs) :
    Calls Try.prog 12 #[.pointer (some ⟨db, 0, none⟩), .agg #[.int .u64 (wall d), .int .i64 (ext d), .pointer none]] w fun e w' =>
      (∃ v, e = .returned v ∧ w'.ownsRow w.heap.size 37 6 v (kept d fs).length (flat (kept d fs))) ∧ Below w.heap.size w w' := by
  have HP : Hid (Row w a n fs) := hc
  have HL : Hid (fs.length = n) := hl
  obtain ⟨W, hW⟩ : ∃ W, W = w.alloc (.cells #[.int .u64 (wall d), .int .i64 (ext d), .pointer none] 33) := ⟨_, rfl⟩
  have HW : Hid (W = w.alloc (.cells #[.int .u64 (wall d), .int .i64 (ext d), .pointer none] 33)) := hW
  clear hc hl hW
  obtain ⟨i0, hi, hz0, hz1, hz2⟩ := info_parts Try.info37
  go_enter Try.func12, Try.ntmps12
  go_wp2_with fail
  go_loopw [5, 13] (fun v i wr => ∃ k : Nat, k ≤ n ∧ i = .int .i64 k ∧ wr.ownsRow (w.heap.size + 1) 37 6 v (kept d (fs.take k)).length (flat (kept d (fs.take k))) ∧ Below (w.heap.size + 1) W wr) (fun _ i _ => n - (intOf i).toNat)
  case atStart => exact ⟨0, Nat.zero_le _, rfl, World.ownsRow_nil _ _ _ _, by rw [HW.out]; exact Below.refl _ _⟩
  case round =>
    obtain ⟨k, hk, rfl, hown, hbel⟩ := hrel
    by_cases hlt : k < n
    · have hwsz : W.heap.size = w.heap.size + 1 := by rw [HW.out]; simp
      obtain ⟨g, rfl, hg, hcg⟩ := HP.out (by omega)
      have hcell : ∀ i, i < 6 → wr.cell? ⟨g, k * 6 + i, none⟩ = (fs.getD k nof).cells[i]? := fun i hi6 => by
        rw [hbel.cell (p := ⟨g, k * 6 + i, none⟩) (by show g < _; omega), HW.out, World.cell?_alloc_lt _ _ _ hg]
        exact hcg k hlt i hi6
      have hday : ∀ i, wr.cell? ⟨w.heap.size, i, none⟩ = #[Value.int .u64 (wall d), .int .i64 (ext d), .pointer none][i]? := fun i => by
        rw [hbel.cell (p := ⟨w.heap.size, i, none⟩) (by show w.heap.size < _; omega), HW.out]; simp
      obtain ⟨f, hf⟩ : ∃ f, fs.getD k nof = f := ⟨_, rfl⟩
      rw [hf] at hcell
      have HF : Hid (fs.getD k nof = f) := hf
      clear hf hcg
      have e0 := hcell 0 (by omega)
      have e1 := hcell 1 (by omega)
      have e2 := hcell 2 (by omega)
      have e3 := hcell 3 (by omega)
      have e4 := hcell 4 (by omega)
      have e5 := hcell 5 (by omega)
      have y0 := hday 0
      have y1 := hday 1
      have y2 := hday 2
      obtain ⟨nm, dt, sa, sn, sc⟩ := f
      simp [F.cells] at e0 e1 e2 e3 e4 e5 y0 y1 y2
      clear hcell hday
      have HO : Hid (wr.ownsRow (w.heap.size + 1) 37 6 u5 (kept d (fs.take k)).length (flat (kept d (fs.take k)))) := hown
      have HBel : Hid (Below (w.heap.size + 1) W wr) := hbel
      have hws : w.heap.size < wr.heap.size := by have := hbel.size; omega
      clear hown hbel hwsz
      obtain ⟨nb0, nb1⟩ := wall_bd dt
      obtain ⟨db0, db1⟩ := wall_bd d
      have HA : Hid (∀ w, Calls Try.prog 15 #[.agg #[.int .u64 (wall dt), .int .i64 (ext dt), .pointer none], .agg #[.int .u64 (wall d), .int .i64 (ext d), .pointer none]] w fun e w' => e = .returned (.bool (decide (d < dt))) ∧ Below w.heap.size w w') := fun w => after15 _ _ _ _ _ (after_iff dt d).symm w nb0 nb1 db0 db1
      clear nb0 nb1 db0 db1
      go_wp2_with fail
      refine (HA.out _).mono ?_
      rintro e w' ⟨rfl, hb⟩
      clear HA
      obtain ⟨hbc, hbf⟩ := bcell hb
      have hz : wr.heap.size < w'.heap.size := by have := hb.size; simp at this; omega
      have q0 := (hbc wr.heap.size 0 (by simp)).trans (show _ = some (.string nm) by simp)
      have q1 := (hbc wr.heap.size 1 (by simp)).trans (show _ = some (.int .u64 (wall dt)) by simp)
      have q2 := (hbc wr.heap.size 2 (by simp)).trans (show _ = some (.int .i64 (ext dt)) by simp)
      have q3 := (hbc wr.heap.size 3 (by simp)).trans (show _ = some (.pointer none) by simp)
      have q4 := (hbc wr.heap.size 4 (by simp)).trans (show _ = some (.map none) by simp)
      have q5 := (hbc wr.heap.size 5 (by simp)).trans (show _ = some (.slice sa sn sc) by simp)
      clear hbc hbf
      have hown1 := own_below (HO.out.alloc (.cells #[.string nm, .int .u64 (wall dt), .int .i64 (ext dt), .pointer none, .map none, .slice sa sn sc] 37)) hb
      have HO1 : Hid (w'.ownsRow (w.heap.size + 1) 37 6 u5 (kept d (fs.take k)).length (flat (kept d (fs.take k)))) := hown1
      have HB1 : Hid (Below (w.heap.size + 1) W w') := (HBel.out.alloc (by omega) _).trans (hb.mono (by simp; omega))
      have hkl := kept_len d fs k
      clear hown1 hb
      by_cases hdd : d < dt
      · have hks : kept d (fs.take (k + 1)) = kept d (fs.take k) := by
          rw [kept_snoc d fs k (by rw [HL.out]; exact hlt), HF.out, if_neg (by show ¬ dt ≤ d; omega), List.append_nil]
        have HK : Hid (kept d (fs.take (k + 1)) = kept d (fs.take k)) := hks
        clear hks
        go_wp2_with fail
        go_roundw
        case rel => exact ⟨k + 1, by omega, by go_num, by rw [HK.out]; exact HO1.out, HB1.out⟩
        case measure => simp [intOf]; omega
      · have hks : kept d (fs.take (k + 1)) = kept d (fs.take k) ++ [⟨nm, dt, sa, sn, sc⟩] := by
          rw [kept_snoc d fs k (by rw [HL.out]; exact hlt), HF.out, if_pos (by show dt ≤ d; omega)]
        have HK : Hid (kept d (fs.take (k + 1)) = kept d (fs.take k) ++ [⟨nm, dt, sa, sn, sc⟩]) := hks
        clear hks
        have hdd2 : decide (d < dt) = false := by simpa using hdd
        have hb1 : (kept d (fs.take k)).length + 1 ≤ maxLen := by unfold maxLen; omega
        have hb2 : ((kept d (fs.take k)).length + 1) * 72 ≤ 140737488355328 := by omega
        have hb3 : w.heap.size + 1 ≤ (w'.alloc (.cells #[.string nm, .int .u64 (wall dt), .int .i64 (ext dt), .pointer none, .map none, .slice sa sn sc] 37)).heap.size := by simp; omega
        go_wp2_with (at_builtin; refine wpList_append_own_at _ rfl _ _ 25 rfl (w.heap.size + 1) 37 i0 (.agg #[.string ByteArray.empty, .int .u64 0, .int .i64 0, .pointer none, .map none, .slice none 0 0]) 6 72 Try.underlying25 hi hz0 hz1 hz2 rfl (by decide) u5 _ _ rfl (HO1.out.alloc _) ⟨w'.heap.size, 0, none⟩ 1 1 (F.cells ⟨nm, dt, sa, sn, sc⟩) rfl rfl (World.news_of_block (heap_alloc_new w' _)) (cells_one _) hb1 hb2 hb3 ?_; intro v' w1 hN1 hg1 hni1 hat1)
        go_roundw
        case rel => exact ⟨k + 1, by omega, by go_num, by rw [HK.out, List.length_append, flat_snoc]; exact hN1, Below.grown (HB1.out.alloc (by omega) _) hg1 hb3 (fun b hb => (HO1.out.lt b hb).1)⟩
        case measure => simp [intOf]; omega
    · have hke : k = n := by omega
      have hkt : kept d fs = kept d (fs.take k) := by rw [List.take_of_length_le (by rw [HL.out]; omega)]
      have HK : Hid (kept d fs = kept d (fs.take k)) := hkt
      have HO : Hid (wr.ownsRow (w.heap.size + 1) 37 6 u5 (kept d (fs.take k)).length (flat (kept d (fs.take k)))) := hown
      have HBel : Hid (Below (w.heap.size + 1) W wr) := hbel
      clear hown hbel hkt hke
      go_wp2_with fail
      go_ret
      refine ⟨⟨u5, rfl, by rw [HK.out]; exact own_base HO.out (by omega)⟩, ?_⟩
      have h1 := HBel.out
      rw [HW.out] at h1
      exact ((Below.refl _ _).alloc (Nat.le_refl _) _).trans (h1.mono (by omega))

set_option maxRecDepth 20000 in
set_option maxHeartbeats 1000000 in
theorem zcloses7 (a : Option Addr) (n c : Nat) (d : Int) (fs : List F) (w : World) (h0 : -9223372036854775808 ≤ d) (h1 : d ≤ 9223372036854775807)
    (hn : n ≤ 65536) (hl : fs.length = n) (hc : Row w a n fs) :
    Calls Try.prog 7 #[.slice a n c, .int .i64 d] w fun e w' =>
      (∃ v, e = .returned v ∧ w'.ownsRow w.heap.size 37 6 v (kept d fs).length (flat (kept d fs))) ∧ Below w.heap.size w w' := by
  have HA : Hid (∀ w, Calls Try.prog 13 #[.agg #[.int .u64 0, .int .i64 0, .pointer none], .int .i64 d] w fun e w' => e = .returned (.agg #[.int .u64 (wall d), .int .i64 (ext d), .pointer none]) ∧ Below w.heap.size w w') := fun w => add13 d w h0 h1
  have HC : Hid (Row w a n fs) := hc
  have HL : Hid (fs.length = n) := hl
  clear hc hl
  go_enter Try.func7, Try.ntmps7
  go_wp2_with fail
  refine (HA.out _).mono ?_
  rintro e w' ⟨rfl, hb⟩
  obtain ⟨hbc, hbf⟩ := bcell hb
  have q6 := (hbc w.heap.size 6 (by simp)).trans (show _ = some (.slice a n c) by simp)
  have hz : w.heap.size < w'.heap.size := by have := hb.size; simp at this; omega
  have hbb : Below w.heap.size w w' := ((Below.refl _ _).alloc (Nat.le_refl _) _).trans (hb.mono (by simp))
  clear hbc hbf hb
  go_wp2_with fail
  refine (closes12 w.heap.size a n c d fs w' q6 hz hn HL.out (HC.out.below hbb)).mono ?_
  rintro e w'' ⟨⟨v, rfl, hv⟩, hb2⟩
  go_wp2_with fail
  go_ret
  exact ⟨⟨v, rfl, own_base hv (by omega)⟩, hbb.trans (hb2.mono (by omega))⟩
end Go.Proofs.Qxb6605807a
