/-
  FnClosesToNarrowsAsTheDayMovesBack (function 3): her walk.
-/
import Derived.Test.Qxb6605807aGuard
namespace Go.Proofs.Qxb6605807a
open Go.RowKit
set_option linter.unusedVariables false
set_option linter.unusedSimpArgs false

theorem kept_kept (lo hi : Int) (fs : List F) (h : lo ≤ hi) : kept lo (kept hi fs) = kept lo fs := by
  unfold kept
  rw [List.filter_filter]
  apply List.filter_congr
  intro f _
  by_cases h1 : f.date ≤ lo
  · simp [h1]; omega
  · simp [h1]
theorem kept_cnt (d : Int) (gs : List G) (fs : List F) (n : Nat) (hl : fs.length = n) (hd : ∀ j, j < n → (fs.getD j nof).date = (gs.getD j nog).date) : (kept d fs).length = cnt d gs n := by
  have key : ∀ k, k ≤ n → (kept d (fs.take k)).length = cnt d gs k := by
    intro k
    induction k with
    | zero => intro _; simp [kept, cnt]
    | succ k ih =>
      intro hk
      rw [kept_snoc d fs k (by omega), cnt_succ, List.length_append, ih (by omega), hd k (by omega)]
      by_cases h : (gs.getD k nog).date ≤ d
      · rw [if_pos h, if_pos h]; rfl
      · rw [if_neg h, if_neg h]; rfl
  have := key n (Nat.le_refl _)
  rwa [List.take_of_length_le (by omega)] at this
theorem kept_length_le (d : Int) (fs : List F) : (kept d fs).length ≤ fs.length := List.length_filter_le _ _
/-- A file among those kept is one of those built. -/
theorem kept_at (d : Int) (fs : List F) (k : Nat) (h : k < (kept d fs).length) : ∃ j, j < fs.length ∧ (kept d fs).getD k nof = fs.getD j nof := by
  have hm : (kept d fs)[k] ∈ kept d fs := List.getElem_mem h
  have hm2 : (kept d fs)[k] ∈ fs := (List.mem_filter.1 hm).1
  obtain ⟨j, hj, e⟩ := List.getElem_of_mem hm2
  refine ⟨j, hj, ?_⟩
  simp [List.getElem?_eq_getElem h, List.getElem?_eq_getElem hj, e]

theorem In.below {w w' : World} {a : Option Addr} {n : Nat} {gs : List G} (h : In w a n gs) (hb : Below w.heap.size w w') : In w' a n gs := by
  intro h0
  obtain ⟨b, off, e, hlt, hc⟩ := h h0
  refine ⟨b, off, e, Nat.lt_of_lt_of_le hlt hb.size, fun j hj => ?_⟩
  obtain ⟨c0, c1, c2⟩ := hc j hj
  exact ⟨(hb.cell (p := ⟨b, off + j * 3, none⟩) hlt).trans c0, (hb.cell (p := ⟨b, off + j * 3 + 1, none⟩) hlt).trans c1, (hb.cell (p := ⟨b, off + j * 3 + 2, none⟩) hlt).trans c2⟩

set_option maxRecDepth 20000 in
set_option maxHeartbeats 4000000 in
theorem main3 (a : Option Addr) (n c : Nat) (d1 d2 : Int) (gs : List G) (w : World) (hI : In w a n gs) (hn : n ≤ maxLen) (hS : ∀ j, j < n → Syms w (gs.getD j nog).sa (gs.getD j nog).sn ∧ (gs.getD j nog).sn ≤ maxLen)
    (hD : ∀ j, j < n → -9223372036854775808 ≤ (gs.getD j nog).date ∧ (gs.getD j nog).date ≤ 9223372036854775807) (h10 : -9223372036854775808 ≤ d1) (h11 : d1 ≤ 9223372036854775807) (h20 : -9223372036854775808 ≤ d2) (h21 : d2 ≤ 9223372036854775807) :
    Calls Try.prog 3 #[.slice a n c, .int .i64 d1, .int .i64 d2] w fun e w' => e = .returned (.bool true) ∧ Below w.heap.size w w' := by
  have HB4 : Hid (Calls Try.prog 4 #[.slice a n c, .int .i64 d1, .int .i64 d2] w fun e w' => Says (fun _ => True) e ∧ w = w') := bytes4 a n c d1 d2 gs w hI hn hS
  have HB5 : Hid (Calls Try.prog 5 #[.slice a n c] w fun e w' => Says (fun b => b = false → n ≤ 65536 ∧ ∀ j, j < n → (gs.getD j nog).sn ≤ 65536) e ∧ w = w') := big5 a n c gs w hI hn hS
  have HI : Hid (In w a n gs) := hI
  have HS : Hid (∀ j, j < n → Syms w (gs.getD j nog).sa (gs.getD j nog).sn ∧ (gs.getD j nog).sn ≤ maxLen) := hS
  have HD : Hid (∀ j, j < n → -9223372036854775808 ≤ (gs.getD j nog).date ∧ (gs.getD j nog).date ≤ 9223372036854775807) := hD
  clear hI hS hD
  unfold maxLen at hn
  obtain ⟨lo, hi, hlh, hl0, hl1, hh0, hh1, hcase⟩ : ∃ lo hi : Int, lo ≤ hi ∧ -9223372036854775808 ≤ lo ∧ lo ≤ 9223372036854775807 ∧ -9223372036854775808 ≤ hi ∧ hi ≤ 9223372036854775807 ∧ ((d1 ≤ d2 ∧ d1 = lo ∧ d2 = hi) ∨ (d2 < d1 ∧ d2 = lo ∧ d1 = hi)) := by
    by_cases h : d1 ≤ d2
    · exact ⟨d1, d2, h, h10, h11, h20, h21, .inl ⟨h, rfl, rfl⟩⟩
    · exact ⟨d2, d1, by omega, h20, h21, h10, h11, .inr ⟨by omega, rfl, rfl⟩⟩
  have HCase : Hid ((d1 ≤ d2 ∧ d1 = lo ∧ d2 = hi) ∨ (d2 < d1 ∧ d2 = lo ∧ d1 = hi)) := hcase
  clear hcase h10 h11 h20 h21
  go_enter Try.func3, Try.ntmps3
  go_wp2_with fail
  refine HB4.out.mono ?_
  rintro e w' ⟨⟨bb, rfl, -⟩, rfl⟩
  cases bb
  · go_wp2_with fail
    go_ret
    exact ⟨rfl, Below.refl _ _⟩
  go_wp2_with fail
  refine HB5.out.mono ?_
  rintro e w' ⟨⟨bb, rfl, hbb⟩, rfl⟩
  cases bb
  case true =>
    clear hbb
    go_wp2_with fail
    go_ret
    exact ⟨rfl, Below.refl _ _⟩
  case false =>
    obtain ⟨hn2, hsn2⟩ := hbb rfl
    have HSN : Hid (∀ j, j < n → (gs.getD j nog).sn ≤ 65536) := hsn2
    clear hbb hsn2 HB4 HB5
    go_upto_if 21 with fail
    go_cut [1, 2] (fun s1 s2 wc => s1 = .int .i64 lo ∧ s2 = .int .i64 hi ∧ w = wc)
    case first =>
      rcases HCase.out with ⟨hc, rfl, rfl⟩ | ⟨hc, rfl, rfl⟩
      · go_wp2_with fail
        go_meet
        case rel => exact ⟨rfl, rfl, rfl⟩
      · go_wp2_with fail
        go_meet
        case rel => exact ⟨rfl, rfl, rfl⟩
    case rest =>
      obtain ⟨rfl, rfl, rfl⟩ := hcut
      clear HCase
      go_wp2_with fail
      refine (build6 a n c gs w HI.out hn2 (fun j hj => ⟨(HS.out j hj).1, HSN.out j hj⟩) HD.out).mono ?_
      rintro e w1 ⟨fs, v, rfl, hbt⟩
      have hfl := hbt.len
      have hown := hbt.own
      rw [← hfl] at hown
      have HFL : Hid (fs.length = n) := hfl
      have hfn : fs.length ≤ 65536 := by omega
      clear hfl
      obtain ⟨av, cv, rfl, hrow⟩ := row_of hown
      have HBT : Hid (Built w.heap.size w w1 (.slice av fs.length cv) n n gs fs) := hbt
      have HRow : Hid (Row w1 av fs.length fs) := hrow
      clear hbt hown hrow
      go_wp2_with fail
      refine (zcloses7 av fs.length cv hi fs w1 hh0 hh1 (by omega) rfl HRow.out).mono ?_
      rintro e w2 ⟨⟨v2, rfl, ho2⟩, hb2⟩
      obtain ⟨a2, c2, rfl, hrow2⟩ := row_of ho2
      have HB2 : Hid (Below w1.heap.size w1 w2) := hb2
      have HRow2 : Hid (Row w2 a2 (kept hi fs).length (kept hi fs)) := hrow2
      clear ho2 hb2 hrow2
      go_wp2_with fail
      refine (zcloses7 av fs.length cv lo fs w2 hl0 hl1 (by omega) rfl (HRow.out.below HB2.out)).mono ?_
      rintro e w3 ⟨⟨v3, rfl, ho3⟩, hb3⟩
      obtain ⟨a3, c3, rfl, hrow3⟩ := row_of ho3
      have HB3 : Hid (Below w2.heap.size w2 w3) := hb3
      have HRow3 : Hid (Row w3 a3 (kept lo fs).length (kept lo fs)) := hrow3
      clear ho3 hb3 hrow3
      have hkl := kept_length_le hi fs
      have hkl2 := kept_length_le lo fs
      go_wp2_with fail
      refine (zcloses7 a2 (kept hi fs).length c2 lo (kept hi fs) w3 hl0 hl1 (by omega) rfl (HRow2.out.below HB3.out)).mono ?_
      rintro e w4 ⟨⟨v4, rfl, ho4⟩, hb4⟩
      rw [kept_kept lo hi fs hlh] at ho4
      obtain ⟨a4, c4, rfl, hrow4⟩ := row_of ho4
      have HB4 : Hid (Below w3.heap.size w3 w4) := hb4
      have HRow4 : Hid (Row w4 a4 (kept lo fs).length (kept lo fs)) := hrow4
      clear ho4 hb4 hrow4
      have HBW : Hid (Below w.heap.size w w4) := HBT.out.below.trans ((HB2.out.mono HBT.out.below.size).trans ((HB3.out.mono (Nat.le_trans HBT.out.below.size HB2.out.size)).trans (HB4.out.mono (Nat.le_trans HBT.out.below.size (Nat.le_trans HB2.out.size HB3.out.size)))))
      have HC1 : Hid (Calls Try.prog 8 #[.slice a n c, .int .i64 hi] w4 fun e w' => e = .returned (.int .i64 (kept hi fs).length) ∧ w4 = w') := by
        rw [kept_cnt hi gs fs n HFL.out HBT.out.dates]
        exact count8 a n c hi gs w4 (HI.out.below HBW.out) hn2
      have HC2 : Hid (Calls Try.prog 8 #[.slice a n c, .int .i64 lo] w4 fun e w' => e = .returned (.int .i64 (kept lo fs).length) ∧ w4 = w') := by
        rw [kept_cnt lo gs fs n HFL.out HBT.out.dates]
        exact count8 a n c lo gs w4 (HI.out.below HBW.out) hn2
      have HSy : Hid (∀ k, k < (kept lo fs).length → Syms w4 ((kept lo fs).getD k nof).sa ((kept lo fs).getD k nof).sn ∧ ((kept lo fs).getD k nof).sn ≤ 65536) := by
        intro k hk
        obtain ⟨j, hj, e⟩ := kept_at lo fs k hk
        rw [e]
        have hjn : j < n := by have := HFL.out; omega
        exact ⟨(((HBT.out.syms j hjn).syms.below HB2.out).below HB3.out).below HB4.out, HBT.out.sns j hjn⟩
      have HRow3' : Hid (Row w4 a3 (kept lo fs).length (kept lo fs)) := HRow3.out.below HB4.out
      clear HB2 HB3 HB4 HRow HRow2 HRow3 HBT
      go_wp2_with fail
      refine HC1.out.mono ?_
      rintro e w' ⟨rfl, rfl⟩
      go_wp2_with fail
      refine HC2.out.mono ?_
      rintro e w' ⟨rfl, rfl⟩
      clear HC1 HC2
      go_wp2_with fail
      go_loopw [11] (fun i wr => ∃ k : Nat, k ≤ (kept lo fs).length ∧ i = .int .i64 k ∧ Below w4.heap.size w4 wr) (fun i _ => (kept lo fs).length - (intOf i).toNat)
      case atStart => exact ⟨0, Nat.zero_le _, rfl, Below.refl _ _⟩
      case round =>
        obtain ⟨k, hk, rfl, hbel⟩ := hrel
        by_cases hlt : k < (kept lo fs).length
        · obtain ⟨g3, e3, hg3, hc3⟩ := HRow3'.out (by omega)
          obtain ⟨g4, e4, hg4, hc4⟩ := HRow4.out (by omega)
          subst e3
          subst e4
          obtain ⟨hsy, hsn⟩ := HSy.out k hlt
          have hr3 : ∀ i, i < 6 → wr.cell? ⟨g3, k * 6 + i, none⟩ = ((kept lo fs).getD k nof).cells[i]? := fun i hi6 => (hbel.cell (p := ⟨g3, k * 6 + i, none⟩) hg3).trans (hc3 k hlt i hi6)
          have hr4 : ∀ i, i < 6 → wr.cell? ⟨g4, k * 6 + i, none⟩ = ((kept lo fs).getD k nof).cells[i]? := fun i hi6 => (hbel.cell (p := ⟨g4, k * 6 + i, none⟩) hg4).trans (hc4 k hlt i hi6)
          obtain ⟨f, hf⟩ : ∃ f, (kept lo fs).getD k nof = f := ⟨_, rfl⟩
          rw [hf] at hr3 hr4 hsy hsn
          clear hf hc3 hc4
          have x0 := hr3 0 (by omega)
          have x1 := hr3 1 (by omega)
          have x2 := hr3 2 (by omega)
          have x3 := hr3 3 (by omega)
          have x4 := hr3 4 (by omega)
          have x5 := hr3 5 (by omega)
          have y0 := hr4 0 (by omega)
          have y1 := hr4 1 (by omega)
          have y2 := hr4 2 (by omega)
          have y3 := hr4 3 (by omega)
          have y4 := hr4 4 (by omega)
          have y5 := hr4 5 (by omega)
          have hsame := same9 f wr.drew (by
            intro h0
            obtain ⟨b, off, e, hl, hc⟩ := hsy.below hbel h0
            exact ⟨b, off, e, hl, hc⟩) hsn
          obtain ⟨nm, dt, sa, sn, sc⟩ := f
          simp [F.cells] at x0 x1 x2 x3 x4 x5 y0 y1 y2 y3 y4 y5
          have HSame : Hid (Calls Try.prog 9 #[.agg #[.string nm, .int .u64 (wall dt), .int .i64 (ext dt), .pointer none, .map none, .slice sa sn sc], .agg #[.string nm, .int .u64 (wall dt), .int .i64 (ext dt), .pointer none, .map none, .slice sa sn sc]] wr.drew fun e w' => e = .returned (.bool true) ∧ Below wr.heap.size wr.drew w') := hsame
          have HB : Hid (Below w4.heap.size w4 wr) := hbel
          have hsz := hbel.size
          clear hr3 hr4 hsame hsy hsn hbel
          go_upto_region 18 with fail
          go_region_held2 (fun w' => (w'.cell? ⟨g3, k * 6, none⟩ = some (.string nm) ∧ w'.cell? ⟨g3, k * 6 + 1, none⟩ = some (.int .u64 (wall dt)) ∧ w'.cell? ⟨g3, k * 6 + 2, none⟩ = some (.int .i64 (ext dt)) ∧ w'.cell? ⟨g3, k * 6 + 3, none⟩ = some (.pointer none) ∧ w'.cell? ⟨g3, k * 6 + 4, none⟩ = some (.map none) ∧ w'.cell? ⟨g3, k * 6 + 5, none⟩ = some (.slice sa sn sc)) ∧
              (w'.cell? ⟨g4, k * 6, none⟩ = some (.string nm) ∧ w'.cell? ⟨g4, k * 6 + 1, none⟩ = some (.int .u64 (wall dt)) ∧ w'.cell? ⟨g4, k * 6 + 2, none⟩ = some (.int .i64 (ext dt)) ∧ w'.cell? ⟨g4, k * 6 + 3, none⟩ = some (.pointer none) ∧ w'.cell? ⟨g4, k * 6 + 4, none⟩ = some (.map none) ∧ w'.cell? ⟨g4, k * 6 + 5, none⟩ = some (.slice sa sn sc))) (go_keep)
            (first
              | (go_at_call 9; refine HSame.out.mono ?_; rintro e w5 ⟨rfl, hb5⟩; have s3 : ∀ o, w5.cell? ⟨g3, o, none⟩ = wr.cell? ⟨g3, o, none⟩ := fun o => hb5.cell (p := ⟨g3, o, none⟩) (Nat.lt_of_lt_of_le hg3 hsz); have s4 : ∀ o, w5.cell? ⟨g4, o, none⟩ = wr.cell? ⟨g4, o, none⟩ := fun o => hb5.cell (p := ⟨g4, o, none⟩) (Nat.lt_of_lt_of_le hg4 hsz)))
          have HB5 : Hid (Below w4.heap.size w4 w5) := HB.out.trans ((⟨hb5.os, hb5.tape, hb5.output, hb5.size, hb5.block⟩ : Below wr.heap.size wr w5).mono hsz)
          clear hb5 s3 s4 x0 x1 x2 x3 x4 x5 y0 y1 y2 y3 y4 y5
          go_wp2_with fail
          go_roundw
          case rel => exact ⟨k + 1, by omega, by go_num, HB5.out⟩
          case measure => simp [intOf]; omega
        · have HB : Hid (Below w4.heap.size w4 wr) := hbel
          clear hbel
          go_wp2_with fail
          go_ret
          exact ⟨rfl, HBW.out.trans (HB.out.mono HBW.out.size)⟩
end Go.Proofs.Qxb6605807a
