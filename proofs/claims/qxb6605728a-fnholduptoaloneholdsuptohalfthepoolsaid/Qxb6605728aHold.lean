/-
  FnHoldUpToAloneHoldsUpToHalfThePool (function 4): her walk.
-/
import Derived.Test.Qxb6605728aSmall
namespace Go.Proofs.Qxb6605728a
open Go.RowKit Go.Maps
set_option linter.unusedVariables false
set_option linter.unusedSimpArgs false

set_option maxHeartbeats 400000 in
theorem bytes13 (a0 : Int) (a1 : ByteArray) (a2 : Int) (a : Option Addr) (len cap : Nat) (w : World) (h1 : a1.size ≤ maxLen) (h2 : len ≤ maxLen) :
    Calls Try.prog 13 #[.int .i64 a0, .string a1, .int .i64 a2, .slice a len cap] w fun e w' => ∃ b, e = .returned (.bool b) ∧ w = w' := by
  unfold maxLen at h1 h2
  go_enter Try.func13, Try.ntmps13
  go_wp2
  all_goals (go_ret; exact ⟨_, rfl, rfl⟩)

/-- What the pool's map says of the one holder. -/
structure One (D : DataW Unit) (s : ByteArray) (hd : Int) : Prop where
  at_ : D.atKey (key s) (I64 0) = I64 hd
  has : Maps.has D (key s) = decide (0 < hd)
  size : (Maps.size D : Int) = if 0 < hd then 1 else 0
theorem One.start (s : ByteArray) : One (.map []) s 0 := ⟨rfl, rfl, rfl⟩
theorem One.put {D : DataW Unit} {s : ByteArray} {hd t : Int} (h : One D s hd) (hD : Tidy D) (ht : 0 < t) : One (D.put (key s) (I64 t)) s t := by
  refine ⟨atKey_put_same hD.isMap (by trivial) _ _, ?_, ?_⟩
  · rw [has_put_same hD.isMap (by trivial)]; simp [ht]
  · rw [size_put hD, h.has]
    have := h.size
    by_cases h0 : 0 < hd <;> simp [h0, ht] at this ⊢ <;> omega

theorem Body.le {w w' : World} {hb sb bm B : Nat} {W : World} (hT : Touch sb bm w w') (h : Below B W w) (h1 : B ≤ sb) (h2 : B ≤ bm) : Below B W w' := Touch.below h hT h1 h2

/-- One step of the law: 'holdUpTo' at a body alone in its pool. -/
theorem hold_step (hb sb bm n : Nat) (D : DataW Unit) (lim : Int) (s : ByteArray) (bound hd x t : Int) (b : Bool) (hd' : Int) (w : World) (hB : Body w hb sb s bound hd) (hP : Pool w sb bm n D lim hd) (hO : One D s hd) (h1 : hb ≠ sb) (h2 : hb ≠ bm)
    (ht : (if bound < x then bound else x) = t) (hs : s.size ≤ maxLen) (hn : n < maxLen)
    (hh0 : 0 ≤ hd) (hh1 : hd ≤ 2305843009213693952) (ht1 : t ≤ 2305843009213693952) (hl0 : 0 ≤ lim) (hl1 : lim ≤ 2305843009213693952)
    (hc : (t ≤ hd ∧ b = true ∧ hd' = hd) ∨ (hd < t ∧ t ≤ lim / 2 ∧ b = true ∧ hd' = t) ∨ (hd < t ∧ lim / 2 < t ∧ b = false ∧ hd' = hd)) :
    Calls Try.prog 15 #[.pointer (some ⟨hb, 0, none⟩), .int .i64 x] w fun e w' => e = .returned (.bool b) ∧ ∃ n' D', n' ≤ n + 1 ∧ Body w' hb sb s bound hd' ∧ Pool w' sb bm n' D' lim hd' ∧ One D' s hd' ∧
      ∀ B W, Below B W w → B ≤ hb → B ≤ sb → B ≤ bm → Below B W w' := by
  refine zhold ?_
  rcases hc with ⟨hc, rfl, rfl⟩ | ⟨hc, hc2, rfl, rfl⟩ | ⟨hc, hc2, rfl, rfl⟩
  · refine (hold_in hb sb s bound _ x t w hB ht hc).mono ?_
    rintro e w' ⟨rfl, rfl⟩
    exact ⟨rfl, n, D, by omega, hB, hP, hO, fun _ _ h _ _ _ => h⟩
  · refine (hold_yes hb sb bm n D lim s bound hd x _ w hB hP h1 h2 ht hc hs hO.at_ hn hh0 hh1 ht1 hl0 hl1 hc2).mono ?_
    rintro e w' ⟨rfl, hB', hP', w1, hT, hw⟩
    refine ⟨rfl, n + 1, _, by omega, hB', hP', hO.put (hP.own.tidy law9) (by omega), fun B W h g1 g2 g3 => ?_⟩
    rw [hw]
    exact (Touch.below h hT g2 g3).setCell g1 _
  · refine (hold_no hb sb bm n D lim s bound _ x t w hB hP h1 h2 ht hc hs hO.at_ hh0 hh1 ht1 hl0 hl1 hc2).mono ?_
    rintro e w' ⟨rfl, hB', hP', hT⟩
    exact ⟨rfl, n, D, by omega, hB', hP', hO, fun B W h g1 g2 g3 => Touch.below h hT g2 g3⟩

theorem Pool.look {w : World} {sb bm n : Nat} {D : DataW Unit} {lim hd : Int} {s : ByteArray} (hP : Pool w sb bm n D lim hd) (hO : One D s hd) (hs : s.size ≤ maxLen) :
    (Instr.lookup 29 (.map (some bm)) (.string s) true).run Try.prog w = .ok (.tuple #[.int .i64 hd, .bool (decide (0 < hd))]) w := by
  obtain ⟨v, ps, hrun, hv⟩ := hP.own.look_ok law9 Try.underlying29 (zero2 _) (plainElem_int Try.underlying2 (by decide)) (WideMaps.keyOf_string_mk Try.underlying9 hs)
  obtain ⟨c, rfl, hc, _⟩ := plainElem_int_inv Try.underlying2 hv
  have := hO.at_
  simp only [Prod.mk.injEq] at hc
  rw [hc.1] at this
  cases this
  rw [hO.has] at hrun
  exact hrun
theorem Pool.len {w : World} {sb bm n : Nat} {D : DataW Unit} {lim hd : Int} {s : ByteArray} (hP : Pool w sb bm n D lim hd) (hO : One D s hd) (v : Int) (hv : v = if 0 < hd then 1 else 0) (ty : TypeId) :
    (Builtin.len_ #[29] ty #[.map (some bm)]).run Try.prog w = .ok (.int .i64 v) w := by
  rw [hP.own.len Try.underlying29 ty, hO.size, hv]

/-- The pool and its map, as the law lays them. -/
theorem pool_start (lim : Int) (w : World) : Pool ((w.alloc (.map #[] 0)).alloc (.cells #[.int .i64 lim, .int .i32 0, .int .u32 0, .int .i64 0, .map (some w.heap.size)] 48)) (w.heap.size + 1) w.heap.size 0 (.map []) lim 0 := by
  refine ⟨?_, ?_, ?_, ?_, ?_, ?_, by omega, (World.ownsMap_made w _ _ _).alloc _⟩ <;> simp [go_sem]
theorem Pool.alloc {w : World} {sb bm n : Nat} {D : DataW Unit} {lim hd : Int} (h : Pool w sb bm n D lim hd) (o : Obj) : Pool (w.alloc o) sb bm n D lim hd := by
  have e : ∀ i, (w.alloc o).cell? ⟨sb, i, none⟩ = w.cell? ⟨sb, i, none⟩ := fun i => World.cell?_alloc_lt _ _ _ (show sb < w.heap.size from World.block_lt_of_cell? w ⟨sb, 0, none⟩ h.c0)
  have f : ∀ i, (w.alloc o).frozen? ⟨sb, i, none⟩ = w.frozen? ⟨sb, i, none⟩ := fun i => World.frozen?_of_block (Below.heap_alloc w o sb (show sb < w.heap.size from World.block_lt_of_cell? w ⟨sb, 0, none⟩ h.c0))
  exact ⟨(e _).trans h.c0, (e _).trans h.c1, (e _).trans h.c3, (e _).trans h.c4, (f _).trans h.f1, (f _).trans h.f3, h.ne, h.own.alloc o⟩
theorem body_start (w : World) (sb : Nat) (s : ByteArray) (bound : Int) : Body (w.alloc (.cells #[.nilIface, .pointer (some ⟨sb, 0, none⟩), .string s, .int .i64 bound, .int .i64 0, .int .i64 0] 53)) w.heap.size sb s bound 0 := by
  refine ⟨?_, ?_, ?_, ?_, ?_, ?_⟩ <;> simp [go_sem]

set_option maxRecDepth 20000 in
set_option maxHeartbeats 4000000 in
theorem main4 (a0 : Int) (a1 : ByteArray) (a2 : Int) (b off len cap : Nat) (zs : List Int) (w : World) (h1 : a1.size ≤ maxLen) (hl : len ≤ 131072) (hA : a1.size ≤ 1048576) (hS : a1.size + 8 * len ≤ 1048576)
    (h00 : 0 ≤ a0) (h01 : a0 ≤ 2305843009213693952) (h20 : 0 ≤ a2) (h21 : a2 ≤ 2305843009213693952)
    (hcell : ∀ j, j < len → w.cell? ⟨b, off + j, none⟩ = some (.int .i64 (zs.getD j 0))) (hb : b < w.heap.size) :
    Calls Try.prog 4 #[.int .i64 a0, .string a1, .int .i64 a2, .slice (some ⟨b, off, none⟩) len cap] w fun e w' => e = .returned (.bool true) ∧ Below w.heap.size w w' := by
  have hmm := @run_makeMap Try.prog
  have hbytes := bytes13 a0 a1 a2 (some ⟨b, off, none⟩) len cap w h1 (by unfold maxLen; omega)
  have HB : Hid (Calls Try.prog 13 #[.int .i64 a0, .string a1, .int .i64 a2, .slice (some ⟨b, off, none⟩) len cap] w fun e w' => ∃ b, e = .returned (.bool b) ∧ w = w') := hbytes
  clear hbytes
  have HCell : Hid (∀ j, j < len → w.cell? ⟨b, off + j, none⟩ = some (.int .i64 (zs.getD j 0))) := hcell
  clear hcell
  go_enter Try.func4, Try.ntmps4
  go_wp2_with (first
    | (go_at_call 13; refine HB.out.mono ?_; rintro e w' ⟨bb, rfl, rfl⟩; cases bb)
    | (go_at_call 8; refine (new_pool _ _ _ _).mono ?_; rintro e w' ⟨rfl, rfl⟩)
    | (go_at_call 14; refine (new_body _ _ _ _ _ _).mono ?_; rintro e w' ⟨rfl, rfl⟩))
  · go_ret
    exact ⟨rfl, Below.refl _ _⟩
  · clear HB
    go_loopw [11, 12] (fun h s wr => ∃ (k n : Nat) (hd : Int) (D : DataW Unit), k ≤ len ∧ s = .int .i64 k ∧ h = .int .i64 hd ∧ 0 ≤ hd ∧ hd ≤ 2305843009213693952 ∧ n ≤ k ∧
        Body wr (w.heap.size + 2) (w.heap.size + 1) a1 a2 hd ∧ Pool wr (w.heap.size + 1) w.heap.size n D a0 hd ∧ One D a1 hd ∧ Below w.heap.size w wr)
      (fun _ s _ => len - (intOf s).toNat)
    case atStart =>
      have hb0 := body_start ((w.alloc (.map #[] 0)).alloc (.cells #[.int .i64 a0, .int .i32 0, .int .u32 0, .int .i64 0, .map (some w.heap.size)] 48)) (w.heap.size + 1) a1 a2
      rw [show ((w.alloc (.map #[] 0)).alloc (.cells #[.int .i64 a0, .int .i32 0, .int .u32 0, .int .i64 0, .map (some w.heap.size)] 48)).heap.size = w.heap.size + 2 from by simp] at hb0
      exact ⟨0, 0, 0, .map [], Nat.zero_le _, rfl, rfl, by omega, by omega, Nat.le_refl _, hb0, (pool_start a0 w).alloc _, One.start a1,
        (((Below.refl _ _).alloc (Nat.le_refl _) _).alloc (by simp) _).alloc (by simp; omega) _⟩
    case round =>
      obtain ⟨k, n, hd, D, hk, rfl, rfl, hd0, hd1, hn, hB, hP, hO, hbel⟩ := hrel
      by_cases hlt : k < len
      · obtain ⟨z, hz⟩ : ∃ z, zs.getD k 0 = z := ⟨_, rfl⟩
        have hcz : wr.cell? ⟨b, off + k, none⟩ = some (.int .i64 z) := by rw [← hz]; exact (hbel.cell (by exact hb)).trans (HCell.out k hlt)
        clear hz
        obtain ⟨t, ht⟩ : ∃ t, (if a2 < z then a2 else z) = t := ⟨_, rfl⟩
        have ht1 : t ≤ 2305843009213693952 := by rw [← ht]; split <;> omega
        -- the three ways
        have hstep : ∃ (bb : Bool) (hd' : Int), 0 ≤ hd' ∧ hd' ≤ 2305843009213693952 ∧ ((t ≤ hd ∧ bb = true ∧ hd' = hd) ∨ (hd < t ∧ t ≤ a0 / 2 ∧ bb = true ∧ hd' = t) ∨ (hd < t ∧ a0 / 2 < t ∧ bb = false ∧ hd' = hd)) := by
          by_cases c1 : t ≤ hd
          · exact ⟨true, hd, hd0, hd1, .inl ⟨c1, rfl, rfl⟩⟩
          · by_cases c2 : t ≤ a0 / 2
            · exact ⟨true, t, by omega, by omega, .inr (.inl ⟨by omega, c2, rfl, rfl⟩)⟩
            · exact ⟨false, hd, hd0, hd1, .inr (.inr ⟨by omega, by omega, rfl, rfl⟩)⟩
        obtain ⟨bb, hd', hd0', hd1', hc⟩ := hstep
        have HS : Hid (Calls Try.prog 15 #[.pointer (some ⟨w.heap.size + 2, 0, none⟩), .int .i64 z] wr fun e w' => e = .returned (.bool bb) ∧ ∃ n' D', n' ≤ n + 1 ∧ Body w' (w.heap.size + 2) (w.heap.size + 1) a1 a2 hd' ∧ Pool w' (w.heap.size + 1) w.heap.size n' D' a0 hd' ∧ One D' a1 hd' ∧
            ∀ B W, Below B W wr → B ≤ w.heap.size + 2 → B ≤ w.heap.size + 1 → B ≤ w.heap.size → Below B W w') :=
          hold_step (w.heap.size + 2) (w.heap.size + 1) w.heap.size n D a0 a1 a2 hd z t bb hd' wr hB hP hO (by omega) (by omega) ht h1 (by unfold maxLen; omega) hd0 hd1 ht1 h00 h01 hc
        clear hB hP hO
        have HBel : Hid (Below w.heap.size w wr) := hbel
        clear hbel
        have hz2 : (a2 < z ∧ a2 = t) ∨ (¬ a2 < z ∧ z = t) := by
          by_cases hz : a2 < z
          · rw [if_pos hz] at ht; exact .inl ⟨hz, ht⟩
          · rw [if_neg hz] at ht; exact .inr ⟨hz, ht⟩
        clear ht
        have hp2 : (0 < hd' ∧ 1 = (if 0 < hd' then (1 : Int) else 0)) ∨ (hd' = 0 ∧ 0 = (if 0 < hd' then (1 : Int) else 0)) := by
          by_cases hp : 0 < hd'
          · exact .inl ⟨hp, by simp [hp]⟩
          · exact .inr ⟨by omega, by simp [hp]⟩
        have hp3 : ∃ lv : Int, lv = (if 0 < hd' then (1 : Int) else 0) ∧ ((0 < hd' ∧ lv = 1) ∨ (hd' = 0 ∧ lv = 0)) := by
          rcases hp2 with ⟨hp, h⟩ | ⟨hp, h⟩
          · exact ⟨1, h, .inl ⟨hp, rfl⟩⟩
          · exact ⟨0, h, .inr ⟨hp, rfl⟩⟩
        clear hp2
        obtain ⟨lv, hlv, hp⟩ := hp3
        have HL : Hid (lv = (if 0 < hd' then (1 : Int) else 0)) := hlv
        clear hlv
        have hc' : (t ≤ hd ∧ true = bb ∧ hd = hd') ∨ (hd < t ∧ t ≤ a0 / 2 ∧ true = bb ∧ t = hd') ∨ (hd < t ∧ a0 / 2 < t ∧ false = bb ∧ hd = hd') := by
          rcases hc with ⟨e1, e2, e3⟩ | ⟨e1, e2, e3, e4⟩ | ⟨e1, e2, e3, e4⟩
          · exact .inl ⟨e1, e2.symm, e3.symm⟩
          · exact .inr (.inl ⟨e1, e2, e3.symm, e4.symm⟩)
          · exact .inr (.inr ⟨e1, e2, e3.symm, e4.symm⟩)
        clear hc
        rcases hz2 with ⟨hz, rfl⟩ | ⟨hz, rfl⟩ <;> rcases hc' with ⟨hc, rfl, rfl⟩ | ⟨hc, hc2, rfl, rfl⟩ | ⟨hc, hc2, rfl, rfl⟩ <;> rcases hp with ⟨hp, rfl⟩ | ⟨hp, rfl⟩ <;> (try omega)
        all_goals
          go_wp2_with fail
          refine HS.out.mono ?_
          rintro e w' ⟨rfl, n', D', hn', hB', hP', hO', hbl'⟩
          have HF : Hid (n' ≤ n + 1 ∧ Body w' (w.heap.size + 2) (w.heap.size + 1) a1 a2 _ ∧ Pool w' (w.heap.size + 1) w.heap.size n' D' a0 _ ∧ One D' a1 _ ∧ Below w.heap.size w w') := ⟨hn', hB', hP', hO', hbl' _ _ HBel.out (by omega) (by omega) (by omega)⟩
          have hlk := hP'.look hO' h1
          have hlen := hP'.len hO' _ HL.out
          have g3 := hB'.c3
          have g4 := hB'.c4
          have g5 := hB'.c5
          have p3 := hP'.c3
          have p4 := hP'.c4
          clear hB' hP' hO' hbl' hn' HBel HS
          go_wp2_with (first
            | (go_at_call 16; refine (body_held _ _ _ g4).mono ?_; rintro e w'' ⟨rfl, rfl⟩)
            | (go_at_call 17; refine (body_read _ _ _ g5).mono ?_; rintro e w'' ⟨rfl, rfl⟩)
            | (go_at_call 18; refine (body_bound _ _ _ g3).mono ?_; rintro e w'' ⟨rfl, rfl⟩)
            | (go_at_call 11; refine (pool_held _ _ _ p3).mono ?_; rintro e w'' ⟨rfl, rfl⟩)
            | (go_at_call 12; refine (pool_map _ _ _ p4).mono ?_; rintro e w'' ⟨rfl, rfl⟩))
        all_goals
          obtain ⟨f1, f2, f3, f4, f5⟩ := HF.out
          go_roundw
          case rel => exact ⟨k + 1, n', _, D', by omega, by go_num, by first | rfl | rw [hp], by omega, by omega, by omega, f2, f3, f4, f5⟩
          case measure => simp [intOf]; omega
      · clear hB hP hO
        go_wp2
        go_ret
        exact ⟨rfl, hbel⟩
end Go.Proofs.Qxb6605728a
