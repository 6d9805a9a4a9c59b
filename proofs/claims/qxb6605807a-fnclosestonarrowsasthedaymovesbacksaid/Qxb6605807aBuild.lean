/-
  zzCloneStrings, zzBuild: contracts (functions 11, 6).
-/
import Derived.Test.Qxb6605807aCloses
import Derived.Deep.RegionHeld2
import Derived.Lib.SliceRun
namespace Go.Proofs.Qxb6605807a
open Go.RowKit
set_option linter.unusedVariables false
set_option linter.unusedSimpArgs false

theorem Try.info9 : (Try.prog.info? 9).map (fun i => (i.zero, i.size, i.bytes)) = some (some (.string ByteArray.empty), 1, 16) := by kernel_rfl

/-- A slice of strings that can be read. -/
def Syms (w : World) (a : Option Addr) (n : Nat) : Prop :=
  0 < n → ∃ b off, a = some ⟨b, off, none⟩ ∧ b < w.heap.size ∧ ∀ j, j < n → ∃ s, w.cell? ⟨b, off + j, none⟩ = some (.string s)
theorem Syms.below {w w' : World} {a : Option Addr} {n : Nat} (h : Syms w a n) (hb : Below w.heap.size w w') : Syms w' a n := by
  intro h0
  obtain ⟨b, off, e, hlt, hc⟩ := h h0
  refine ⟨b, off, e, Nat.lt_of_lt_of_le hlt hb.size, fun j hj => ?_⟩
  obtain ⟨s, hs⟩ := hc j hj
  exact ⟨s, (hb.cell (p := ⟨b, off + j, none⟩) hlt).trans hs⟩
/-- .. in a block of its own from B on. -/
def Fresh (B : Nat) (w : World) (a : Option Addr) (n : Nat) : Prop :=
  0 < n → ∃ b, a = some ⟨b, 0, none⟩ ∧ B ≤ b ∧ b < w.heap.size ∧ ∀ j, j < n → ∃ s, w.cell? ⟨b, j, none⟩ = some (.string s)
theorem Fresh.syms {B : Nat} {w : World} {a : Option Addr} {n : Nat} (h : Fresh B w a n) : Syms w a n := by
  intro h0
  obtain ⟨b, e, _, hlt, hc⟩ := h h0
  exact ⟨b, 0, e, hlt, fun j hj => by simpa using hc j hj⟩

set_option maxRecDepth 20000 in
set_option maxHeartbeats 1000000 in
theorem clone11 (a : Option Addr) (n c : Nat) (w : World) (hS : Syms w a n) (hn : n ≤ 65536) :
    Calls Try.prog 11 #[.slice a n c] w fun e w' => (∃ a' c', e = .returned (.slice a' n c') ∧ Fresh w.heap.size w' a' n) ∧ Below w.heap.size w w' := by
  have q35 : ∀ (w : World) (a : Option Addr) (n c : Nat), (binOp .eql 35 (.slice a n c) (.slice none 0 0)).run Try.prog w = .ok (.bool a.isNone) w := fun w a n c => Lib.run_eql_slice_nil w _ _ a n c _ _ Try.underlying35
  have HS : Hid (Syms w a n) := hS
  clear hS
  cases a with
  | none =>
    have h0 : n = 0 := by
      by_cases h : 0 < n
      · obtain ⟨b, off, e, _⟩ := HS.out h; cases e
      · omega
    subst h0
    go_enter Try.func11, Try.ntmps11
    go_wp2_with fail
    go_ret
    exact ⟨⟨none, 0, rfl, fun h => by omega⟩, Below.refl _ _⟩
  | some x =>
    obtain ⟨i0, hi, hz0, hz1, hz2⟩ := info_parts Try.info9
    have hb1 : i0.bytes * n ≤ 281474976710656 := by rw [hz2]; omega
    go_enter Try.func11, Try.ntmps11
    go_wp2_with (at_make; refine wpList_make_full _ rfl _ _ 35 rfl w.heap.size 9 i0 (.string ByteArray.empty) 1 Try.underlying35 hi hz0 hz1 .i64 .i64 n n n rfl rfl rfl rfl hb1 (by unfold maxLen; omega) (Nat.le_refl _) ?_; intro w1 hown hgrow)
    have hw1 : w.heap.size < w1.heap.size := (hown.lt _ rfl).2
    have hb0 : Below w.heap.size w w1 := (Below.refl _ _).grown hgrow (Nat.le_refl _) (fun k e => by cases e)
    have hown0 : ∃ xs : List ByteArray, w1.ownsRow w.heap.size 9 1 (.slice (some ⟨w.heap.size, 0, none⟩) n n) n (xs.map Value.string) := by
      refine ⟨List.replicate n ByteArray.empty, ?_⟩
      rw [List.map_replicate, ← toList_madeCells_one]
      rw [Nat.mul_one] at hown
      exact hown
    have HO : Hid (∃ xs : List ByteArray, w1.ownsRow w.heap.size 9 1 (.slice (some ⟨w.heap.size, 0, none⟩) n n) n (xs.map Value.string)) := hown0
    clear hown hgrow hown0
    go_loopw [4] (fun i wr => ∃ (k : Nat) (xs : List ByteArray), k ≤ n ∧ i = .int .i64 k ∧ wr.ownsRow w.heap.size 9 1 (.slice (some ⟨w.heap.size, 0, none⟩) n n) n (xs.map Value.string) ∧ Below w.heap.size w wr ∧ w.heap.size < wr.heap.size) (fun i _ => n - (intOf i).toNat)
    case atStart =>
      obtain ⟨xs, hxs⟩ := HO.out
      exact ⟨0, xs, Nat.zero_le _, rfl, hxs, hb0, hw1⟩
    case round =>
      obtain ⟨k, xs, hk, rfl, hown, hbel, hsz⟩ := hrel
      by_cases hlt : k < n
      · obtain ⟨b, off, e, hlb, hc⟩ := HS.out (by omega)
        cases e
        obtain ⟨s, hs⟩ := hc k hlt
        have hcs : wr.cell? ⟨b, off + k, none⟩ = some (.string s) := (hbel.cell (p := ⟨b, off + k, none⟩) hlb).trans hs
        have hcell := hown.cellAt k (by omega)
        have hfr := hown.frozenAt k
        have hlen : xs.length = n := by have := hown.1; simpa using this
        obtain ⟨s0, hs0⟩ : ∃ s0, wr.cell? ⟨w.heap.size, k, none⟩ = some (.string s0) := ⟨_, by rw [hcell, List.getElem?_map, List.getElem?_eq_getElem (by omega)]; rfl⟩
        have hst := (hown.stored k (.string s)).1
        rw [← List.map_set] at hst
        have HST : Hid ((wr.setCell ⟨w.heap.size, k, none⟩ (.string s)).ownsRow w.heap.size 9 1 (.slice (some ⟨w.heap.size, 0, none⟩) n n) n ((xs.set k s).map Value.string)) := hst
        have HB : Hid (Below w.heap.size w (wr.setCell ⟨w.heap.size, k, none⟩ (.string s))) := hbel.setCell (Nat.le_refl _) _
        clear hst hcell hown hbel hc hs hlen
        go_wp2_with fail
        go_roundw
        case rel => exact ⟨k + 1, xs.set k s, by omega, by go_num, HST.out, HB.out, by simpa [World.setCell] using hsz⟩
        case measure => simp [intOf]; omega
      · have HO1 : Hid (wr.ownsRow w.heap.size 9 1 (.slice (some ⟨w.heap.size, 0, none⟩) n n) n (xs.map Value.string)) := hown
        have HB : Hid (Below w.heap.size w wr) := hbel
        clear hown hbel
        go_wp2_with fail
        go_ret
        refine ⟨⟨_, _, rfl, fun _ => ⟨w.heap.size, rfl, Nat.le_refl _, hsz, fun j hj => ?_⟩⟩, HB.out⟩
        have hlen : xs.length = n := by have := HO1.out.1; simpa using this
        exact ⟨_, by rw [HO1.out.cellAt j (by omega), List.getElem?_map, List.getElem?_eq_getElem (by omega)]; rfl⟩

/-- The law's argument: 'len' elements of three cells each. -/
structure G where
  name : ByteArray
  date : Int
  sa : Option Addr
  sn : Nat
  sc : Nat
def nog : G := ⟨ByteArray.empty, 0, none, 0, 0⟩
def In (w : World) (a : Option Addr) (len : Nat) (gs : List G) : Prop :=
  0 < len → ∃ b off, a = some ⟨b, off, none⟩ ∧ b < w.heap.size ∧ ∀ j, j < len → w.cell? ⟨b, off + j * 3, none⟩ = some (.string (gs.getD j nog).name) ∧ w.cell? ⟨b, off + j * 3 + 1, none⟩ = some (.int .i64 (gs.getD j nog).date) ∧
    w.cell? ⟨b, off + j * 3 + 2, none⟩ = some (.slice (gs.getD j nog).sa (gs.getD j nog).sn (gs.getD j nog).sc)

/-- What zzBuild makes of the first k elements. -/
structure Built (B : Nat) (w0 wr : World) (v : Value) (n k : Nat) (gs : List G) (fs : List F) : Prop where
  len : fs.length = k
  own : wr.ownsRow B 37 6 v k (flat fs)
  dates : ∀ j, j < k → (fs.getD j nof).date = (gs.getD j nog).date
  syms : ∀ j, j < k → Fresh B wr (fs.getD j nof).sa (fs.getD j nof).sn
  apart : ∀ j, j < k → 0 < (fs.getD j nof).sn → ∀ b, (fs.getD j nof).sa = some ⟨b, 0, none⟩ → v.ownBlock ≠ some b
  below : Below B w0 wr
  sns : ∀ j, j < k → (fs.getD j nof).sn ≤ 65536

theorem getD_old {α : Type} (l : List α) (x d : α) (j : Nat) (h : j < l.length) : (l ++ [x]).getD j d = l.getD j d := by simp [List.getElem?_append_left h]
theorem getD_new {α : Type} (l : List α) (x d : α) : (l ++ [x]).getD l.length d = x := by simp

theorem Fresh.moved {B : Nat} {w w' : World} {a : Option Addr} {n : Nat} (h : Fresh B w a n) (hs : w.heap.size ≤ w'.heap.size) (hk : ∀ b, 0 < n → a = some ⟨b, 0, none⟩ → b < w.heap.size → w'.heap[b]? = w.heap[b]?) : Fresh B w' a n := by
  intro h0
  obtain ⟨b, e, hB, hlt, hc⟩ := h h0
  refine ⟨b, e, hB, Nat.lt_of_lt_of_le hlt hs, fun j hj => ?_⟩
  obtain ⟨s, hs'⟩ := hc j hj
  exact ⟨s, (World.cell?_of_block (hk b h0 e hlt)).trans hs'⟩
theorem Fresh.mono {B B' : Nat} {w : World} {a : Option Addr} {n : Nat} (h : Fresh B w a n) (hB : B' ≤ B) : Fresh B' w a n := by
  intro h0
  obtain ⟨b, e, hb, r⟩ := h h0
  exact ⟨b, e, Nat.le_trans hB hb, r⟩

/-- one element more -/
theorem Built.step {B : Nat} {w0 wr w2 w3 w5 : World} {v : Value} {n k : Nat} {gs : List G} {fs : List F} {f : F} {g cap H : Nat} {o : Obj} (h : Built B w0 wr v n k gs fs) (hB : B ≤ wr.heap.size)
    (hb2 : Below wr.heap.size wr w2) (hfr : Fresh wr.heap.size w2 f.sa f.sn) (hb3 : Below w2.heap.size w2 w3)
    (hown : w5.ownsRow B 37 6 (.slice (some ⟨g, 0, none⟩) (k + 1) cap) (k + 1) (flat fs ++ f.cells)) (hg5 : (w3.alloc o).grownBy w5 v.ownBlock) (hat : v.ownBlock = some g ∨ g = H) (hH : (w3.alloc o).heap.size = H) (hd : f.date = (gs.getD k nog).date) (hsn : f.sn ≤ 65536) :
    Built B w0 w5 (.slice (some ⟨g, 0, none⟩) (k + 1) cap) n (k + 1) gs (fs ++ [f]) := by
  have hl := h.len
  have s2 := hb2.size
  have s3 := hb3.size
  have s5 := hg5.size
  have hH' : w3.heap.size + 1 = H := by rw [← hH]; simp
  have hsz : (w3.alloc o).heap.size = w3.heap.size + 1 := by simp
  have hvlt : ∀ b, v.ownBlock = some b → B ≤ b ∧ b < wr.heap.size := h.own.lt
  -- a block of wr that is not v's own
  have old : ∀ b, b < wr.heap.size → v.ownBlock ≠ some b → w5.heap[b]? = wr.heap[b]? := fun b hb hne => by
    rw [hg5.block b (by omega) (fun e => hne e.symm), Below.heap_alloc _ _ _ (by omega), hb3.block b (by omega), hb2.block b hb]
  have mid : ∀ b, wr.heap.size ≤ b → b < w2.heap.size → w5.heap[b]? = w2.heap[b]? := fun b hb hlt => by
    rw [hg5.block b (by omega) (fun e => by have := (hvlt b e.symm).2; omega), Below.heap_alloc _ _ _ (by omega), hb3.block b hlt]
  have fold : ∀ j, j < k → (fs ++ [f]).getD j nof = fs.getD j nof := fun j hj => getD_old _ _ _ _ (by omega)
  have fnew : (fs ++ [f]).getD k nof = f := by rw [← hl]; exact getD_new _ _ _
  refine ⟨by simp [hl], by rw [flat_snoc]; exact hown, ?_, ?_, ?_, ?_, ?_⟩
  · intro j hj
    by_cases e : j = k
    · subst e; rw [fnew]; exact hd
    · rw [fold j (by omega)]; exact h.dates j (by omega)
  · intro j hj
    by_cases e : j = k
    · subst e
      rw [fnew]
      refine (hfr.mono hB).moved (by omega) (fun b h0 ha hlt => ?_)
      obtain ⟨b', e', hge, _⟩ := hfr h0
      rw [ha] at e'
      cases e'
      exact mid b hge hlt
    · rw [fold j (by omega)]
      exact (h.syms j (by omega)).moved (by omega) (fun b h0 ha hlt => old b hlt (h.apart j (by omega) h0 b ha))
  · intro j hj h0 b hb he
    have he' : g = b := by simpa [Value.ownBlock] using he
    subst he'
    by_cases e : j = k
    · subst e
      rw [fnew] at h0 hb
      obtain ⟨b', e', hge, hlt, _⟩ := hfr h0
      rw [hb] at e'
      cases e'
      rcases hat with hat | hat
      · have := (hvlt g hat).2; omega
      · omega
    · rw [fold j (by omega)] at h0 hb
      obtain ⟨b', e', _, hlt, _⟩ := h.syms j (by omega) h0
      rw [hb] at e'
      cases e'
      rcases hat with hat | hat
      · exact h.apart j (by omega) h0 g hb hat
      · omega
  · exact Below.grown ((h.below.trans ((hb2.mono hB).trans (hb3.mono (by omega)))).alloc (by omega) o) hg5 (by omega) (fun b hb => (hvlt b hb).1)
  · intro j hj
    by_cases e : j = k
    · subst e; rw [fnew]; exact hsn
    · rw [fold j (by omega)]; exact h.sns j (by omega)

set_option maxRecDepth 20000 in
set_option maxHeartbeats 1000000 in
theorem build6 (a : Option Addr) (n c : Nat) (gs : List G) (w : World) (hI : In w a n gs) (hn : n ≤ 65536) (hS : ∀ j, j < n → Syms w (gs.getD j nog).sa (gs.getD j nog).sn ∧ (gs.getD j nog).sn ≤ 65536)
    (hD : ∀ j, j < n → -9223372036854775808 ≤ (gs.getD j nog).date ∧ (gs.getD j nog).date ≤ 9223372036854775807) :
    Calls Try.prog 6 #[.slice a n c] w fun e w' => ∃ fs v, e = .returned v ∧ Built w.heap.size w w' v n n gs fs := by
  have q22 : ∀ (w : World) (a : Option Addr) (n c : Nat), (binOp .eql 22 (.slice a n c) (.slice none 0 0)).run Try.prog w = .ok (.bool a.isNone) w := fun w a n c => Lib.run_eql_slice_nil w _ _ a n c _ _ Try.underlying22
  have HI : Hid (In w a n gs) := hI
  have HS : Hid (∀ j, j < n → Syms w (gs.getD j nog).sa (gs.getD j nog).sn ∧ (gs.getD j nog).sn ≤ 65536) := hS
  have HD : Hid (∀ j, j < n → -9223372036854775808 ≤ (gs.getD j nog).date ∧ (gs.getD j nog).date ≤ 9223372036854775807) := hD
  clear hI hS hD
  cases a with
  | none =>
    have h0 : n = 0 := by
      by_cases h : 0 < n
      · obtain ⟨b, off, e, _⟩ := HI.out h; cases e
      · omega
    subst h0
    go_enter Try.func6, Try.ntmps6
    go_wp2_with fail
    go_ret
    exact ⟨[], _, rfl, rfl, World.ownsRow_nil _ _ _ _, fun j h => by omega, fun j h => by omega, fun j h => by omega, Below.refl _ _, fun j h => by omega⟩
  | some x =>
    obtain ⟨i0, hi, hz0, hz1, hz2⟩ := info_parts Try.info37
    have hb1 : i0.bytes * n ≤ 281474976710656 := by rw [hz2]; omega
    go_enter Try.func6, Try.ntmps6
    go_wp2_with (at_make; refine wpList_make_own _ rfl _ _ 25 rfl w.heap.size 37 i0 _ 6 Try.underlying25 hi hz0 hz1 .i64 .i64 n n rfl rfl rfl hb1 (by unfold maxLen; omega) (Nat.le_refl _) ?_; intro w1 hown hgrow)
    have hb0 : Below w.heap.size w w1 := (Below.refl _ _).grown hgrow (Nat.le_refl _) (fun k e => by cases e)
    have HO : Hid (Built w.heap.size w w1 (.slice (some ⟨w.heap.size, 0, none⟩) 0 n) n 0 gs []) := ⟨rfl, hown, fun j h => by omega, fun j h => by omega, fun j h => by omega, hb0, fun j h => by omega⟩
    clear hown hgrow hb0
    go_loopw [3, 4] (fun v i wr => ∃ (k : Nat) (fs : List F), k ≤ n ∧ i = .int .i64 k ∧ Built w.heap.size w wr v n k gs fs) (fun _ i _ => n - (intOf i).toNat)
    case atStart => exact ⟨0, [], Nat.zero_le _, rfl, HO.out⟩
    case round =>
      obtain ⟨k, fs, hk, rfl, hbt⟩ := hrel
      by_cases hlt : k < n
      · obtain ⟨b, off, e, hlb, hc⟩ := HI.out (by omega)
        cases e
        obtain ⟨c0, c1, c2⟩ := hc k hlt
        obtain ⟨hsy, hsn⟩ := HS.out k hlt
        obtain ⟨hd0, hd1⟩ := HD.out k hlt
        obtain ⟨gk, hgk⟩ : ∃ gk, gs.getD k nog = gk := ⟨_, rfl⟩
        rw [hgk] at c0 c1 c2 hsy hsn hd0 hd1
        have HG : Hid (gs.getD k nog = gk) := hgk
        clear hgk hc
        obtain ⟨nm, dt, sa, sn, sc⟩ := gk
        have r0 := (hbt.below.cell (p := ⟨b, off + k * 3, none⟩) hlb).trans c0
        have r1 := (hbt.below.cell (p := ⟨b, off + k * 3 + 1, none⟩) hlb).trans c1
        have r2 := (hbt.below.cell (p := ⟨b, off + k * 3 + 2, none⟩) hlb).trans c2
        have hws : w.heap.size ≤ wr.heap.size := hbt.below.size
        have hsyr : Syms wr sa sn := fun h0 => by
          obtain ⟨b', o', e', hl', hc'⟩ := hsy h0
          exact ⟨b', o', e', Nat.lt_of_lt_of_le hl' hws, fun j hj => by
            obtain ⟨s, hs⟩ := hc' j hj
            exact ⟨s, (hbt.below.cell (p := ⟨b', o' + j, none⟩) hl').trans hs⟩⟩
        have HC : Hid (Calls Try.prog 11 #[.slice sa sn sc] wr.drew fun e w' => (∃ a' c', e = .returned (.slice a' sn c') ∧ Fresh wr.heap.size w' a' sn) ∧ Below wr.heap.size wr.drew w') := clone11 sa sn sc wr.drew hsyr hsn
        have HBT : Hid (Built w.heap.size w wr u3 n k gs fs) := hbt
        clear hbt hsy hsyr c0 c1 c2
        go_upto_region 7 with fail
        have hb1k : k + 1 ≤ maxLen := by unfold maxLen; omega
        have hb2k : (k + 1) * 72 ≤ 140737488355328 := by omega
        have hne : u3.ownBlock ≠ some b := fun e => by have := (HBT.out.own.lt b e).1; omega
        go_region_held2 (fun w' => w'.cell? ⟨b, off + k * 3, none⟩ = some (.string nm) ∧ w'.cell? ⟨b, off + k * 3 + 1, none⟩ = some (.int .i64 dt) ∧ w'.cell? ⟨b, off + k * 3 + 2, none⟩ = some (.slice sa sn sc)) (go_keep)
          (first
            | (go_at_call 11; refine HC.out.mono ?_; rintro e w2 ⟨⟨a', c', rfl, hfr⟩, hb2⟩; have s0 : ∀ o, w2.cell? ⟨b, o, none⟩ = wr.cell? ⟨b, o, none⟩ := fun o => hb2.cell (p := ⟨b, o, none⟩) (Nat.lt_of_lt_of_le hlb hws))
            | (go_at_call 10; refine (file10 nm dt a' sn c' w2 hd0 hd1).mono ?_; rintro e w3 ⟨rfl, hb3⟩; have s1 : ∀ o, w3.cell? ⟨b, o, none⟩ = wr.cell? ⟨b, o, none⟩ := fun o => (hb3.cell (p := ⟨b, o, none⟩) (Nat.lt_of_lt_of_le hlb (Nat.le_trans hws hb2.size))).trans (s0 o))
            | (refine step_append_lies _ rfl _ _ 25 rfl w.heap.size 37 i0 (.agg #[.string ByteArray.empty, .int .u64 0, .int .i64 0, .pointer none, .map none, .slice none 0 0]) 6 72 Try.underlying25 hi hz0 hz1 hz2 rfl (by decide) u3 k (flat fs) rfl ((own_below (own_below (w := wr.drew) HBT.out.own hb2) hb3).alloc _) ⟨w3.heap.size, 0, none⟩ 1 1 (F.cells ⟨nm, dt, a', sn, c'⟩) rfl rfl (World.news_of_block (heap_alloc_new w3 _)) (cells_one _) (by decide) hb1k hb2k (Nat.le_trans hws (Nat.le_trans hb2.size (Nat.le_trans hb3.size (by simp)))) _ rfl ?_; intro g cap w5 hown5 hg5 hat5 hlt5; have s5 : ∀ o, w5.cell? ⟨b, o, none⟩ = wr.cell? ⟨b, o, none⟩ := fun o => (hg5.cell_far ⟨b, o, none⟩ (Nat.lt_of_lt_of_le hlb (Nat.le_trans hws (Nat.le_trans hb2.size (Nat.le_trans hb3.size (by simp))))) (fun e => hne e.symm)).trans ((World.cell?_alloc_lt _ _ _ (Nat.lt_of_lt_of_le hlb (Nat.le_trans hws (Nat.le_trans hb2.size hb3.size)))).trans (s1 o))))
        have hb2' : Below wr.heap.size wr w2 := ⟨hb2.os, hb2.tape, hb2.output, hb2.size, hb2.block⟩
        have HSt : Hid (Built w.heap.size w w5 (.slice (some ⟨g, 0, none⟩) (k + 1) cap) n (k + 1) gs (fs ++ [⟨nm, dt, a', sn, c'⟩])) := HBT.out.step (f := ⟨nm, dt, a', sn, c'⟩) hws hb2' hfr hb3 hown5 hg5 hat5 rfl (by rw [HG.out]) hsn
        clear hown5 hg5 hat5 hlt5 s5 s1 s0 hb3 hfr hb2 hb2' r0 r1 r2 HC
        go_wp2_with fail
        go_roundw
        case rel => exact ⟨k + 1, _, by omega, by go_num, HSt.out⟩
        case measure => simp [intOf]; omega
      · have hke : k = n := by omega
        have HBT : Hid (Built w.heap.size w wr u3 n n gs fs) := hke ▸ hbt
        clear hbt hke
        go_wp2_with fail
        go_ret
        exact ⟨fs, u3, rfl, HBT.out⟩
end Go.Proofs.Qxb6605807a
