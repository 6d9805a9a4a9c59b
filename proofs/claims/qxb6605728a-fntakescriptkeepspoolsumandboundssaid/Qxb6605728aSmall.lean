/-
  Contracts of the small functions of package server on the laws' roads.
-/
import Derived.Test.Qxb6605728aTake
import Derived.Deep.RegionHeld
namespace Go.Proofs.Qxb6605728a
open Go.RowKit Go.Maps
set_option linter.unusedVariables false
set_option linter.unusedSimpArgs false

set_option maxHeartbeats 400000 in
theorem new_pool (lim held : Int) (bm : Nat) (w : World) :
    Calls Try.prog 8 #[.int .i64 lim, .int .i64 held, .map (some bm)] w fun e w' => e = .returned (.pointer (some ⟨w.heap.size, 0, none⟩)) ∧
      w' = w.alloc (.cells #[.int .i64 lim, .int .i32 0, .int .u32 0, .int .i64 held, .map (some bm)] 48) := by
  go_enter Try.func8, Try.ntmps8
  go_wp2
  go_ret
  exact ⟨rfl, rfl⟩

set_option maxHeartbeats 400000 in
theorem ztake {sb : Nat} {s : ByteArray} {x : Int} {w : World} {b : Bool} {R : World → Prop}
    (h : Calls Try.prog 19 #[.pointer (some ⟨sb, 0, none⟩), .string s, .int .i64 x] w fun e w' => e = .returned (.bool b) ∧ R w') :
    Calls Try.prog 10 #[.pointer (some ⟨sb, 0, none⟩), .string s, .int .i64 x] w fun e w' => e = .returned (.bool b) ∧ R w' := by
  have H : Hid (Calls Try.prog 19 #[.pointer (some ⟨sb, 0, none⟩), .string s, .int .i64 x] w fun e w' => e = .returned (.bool b) ∧ R w') := h
  clear h
  go_enter Try.func10, Try.ntmps10
  go_wp2_with fail
  refine H.out.mono ?_
  rintro e w' ⟨rfl, hr⟩
  go_wp2_with fail
  go_ret
  exact ⟨rfl, hr⟩

set_option maxHeartbeats 400000 in
theorem pool_held (sb : Nat) (v : Int) (w : World) (h : w.cell? ⟨sb, 3, none⟩ = some (.int .i64 v)) :
    Calls Try.prog 11 #[.pointer (some ⟨sb, 0, none⟩)] w fun e w' => e = .returned (.int .i64 v) ∧ w = w' := by
  go_enter Try.func11, Try.ntmps11
  go_wp2
  go_ret
  exact ⟨rfl, rfl⟩

set_option maxHeartbeats 400000 in
theorem pool_map (sb bm : Nat) (w : World) (h : w.cell? ⟨sb, 4, none⟩ = some (.map (some bm))) :
    Calls Try.prog 12 #[.pointer (some ⟨sb, 0, none⟩)] w fun e w' => e = .returned (.map (some bm)) ∧ w = w' := by
  go_enter Try.func12, Try.ntmps12
  go_wp2
  go_ret
  exact ⟨rfl, rfl⟩

set_option maxHeartbeats 400000 in
theorem new_body (sb : Nat) (s : ByteArray) (bound held read : Int) (w : World) :
    Calls Try.prog 14 #[.pointer (some ⟨sb, 0, none⟩), .string s, .int .i64 bound, .int .i64 held, .int .i64 read] w fun e w' => e = .returned (.pointer (some ⟨w.heap.size, 0, none⟩)) ∧
      w' = w.alloc (.cells #[.nilIface, .pointer (some ⟨sb, 0, none⟩), .string s, .int .i64 bound, .int .i64 held, .int .i64 read] 53) := by
  go_enter Try.func14, Try.ntmps14
  go_wp2
  go_ret
  exact ⟨rfl, rfl⟩

set_option maxHeartbeats 400000 in
theorem body_held (hb : Nat) (v : Int) (w : World) (h : w.cell? ⟨hb, 4, none⟩ = some (.int .i64 v)) :
    Calls Try.prog 16 #[.pointer (some ⟨hb, 0, none⟩)] w fun e w' => e = .returned (.int .i64 v) ∧ w = w' := by
  go_enter Try.func16, Try.ntmps16
  go_wp2
  go_ret
  exact ⟨rfl, rfl⟩

set_option maxHeartbeats 400000 in
theorem body_read (hb : Nat) (v : Int) (w : World) (h : w.cell? ⟨hb, 5, none⟩ = some (.int .i64 v)) :
    Calls Try.prog 17 #[.pointer (some ⟨hb, 0, none⟩)] w fun e w' => e = .returned (.int .i64 v) ∧ w = w' := by
  go_enter Try.func17, Try.ntmps17
  go_wp2
  go_ret
  exact ⟨rfl, rfl⟩

set_option maxHeartbeats 400000 in
theorem body_bound (hb : Nat) (v : Int) (w : World) (h : w.cell? ⟨hb, 3, none⟩ = some (.int .i64 v)) :
    Calls Try.prog 18 #[.pointer (some ⟨hb, 0, none⟩)] w fun e w' => e = .returned (.int .i64 v) ∧ w = w' := by
  go_enter Try.func18, Try.ntmps18
  go_wp2
  go_ret
  exact ⟨rfl, rfl⟩

/-- The body at block hb, over the pool at block sb. -/
structure Body (w : World) (hb sb : Nat) (s : ByteArray) (bound held : Int) : Prop where
  c1 : w.cell? ⟨hb, 1, none⟩ = some (.pointer (some ⟨sb, 0, none⟩))
  c2 : w.cell? ⟨hb, 2, none⟩ = some (.string s)
  c3 : w.cell? ⟨hb, 3, none⟩ = some (.int .i64 bound)
  c4 : w.cell? ⟨hb, 4, none⟩ = some (.int .i64 held)
  c5 : w.cell? ⟨hb, 5, none⟩ = some (.int .i64 0)
  f4 : w.frozen? ⟨hb, 4, none⟩ = false

theorem Touch.cell {sb bm : Nat} {w w' : World} (t : Touch sb bm w w') {b : Nat} (h1 : b ≠ sb) (h2 : b ≠ bm) (o : Nat) : w'.cell? ⟨b, o, none⟩ = w.cell? ⟨b, o, none⟩ := World.cell?_of_block (t.block b h1 h2)
theorem Touch.frozen {sb bm : Nat} {w w' : World} (t : Touch sb bm w w') {b : Nat} (h1 : b ≠ sb) (h2 : b ≠ bm) (o : Nat) : w'.frozen? ⟨b, o, none⟩ = w.frozen? ⟨b, o, none⟩ := World.frozen?_of_block (t.block b h1 h2)
theorem Body.touch {sb bm : Nat} {w w' : World} (t : Touch sb bm w w') {hb : Nat} (h1 : hb ≠ sb) (h2 : hb ≠ bm) {s : ByteArray} {bound held : Int} (h : Body w hb sb s bound held) : Body w' hb sb s bound held :=
  ⟨(t.cell h1 h2 1).trans h.c1, (t.cell h1 h2 2).trans h.c2, (t.cell h1 h2 3).trans h.c3, (t.cell h1 h2 4).trans h.c4, (t.cell h1 h2 5).trans h.c5, (t.frozen h1 h2 4).trans h.f4⟩
theorem Pool.drew {w : World} {sb bm n : Nat} {D : DataW Unit} {lim held : Int} (h : Pool w sb bm n D lim held) : Pool w.drew sb bm n D lim held :=
  ⟨h.c0, h.c1, h.c3, h.c4, h.f1, h.f3, h.ne, h.own⟩
theorem Touch.drew {sb bm : Nat} {a w : World} (h : Touch sb bm a w) : Touch sb bm a w.drew := h.trans ⟨rfl, rfl, rfl, rfl, fun _ _ _ => rfl⟩

set_option maxHeartbeats 400000 in
/-- nothing to take: true, nothing turns -/
theorem hold_in (hb sb : Nat) (s : ByteArray) (bound held x t : Int) (w : World) (h : Body w hb sb s bound held) (ht : (if bound < x then bound else x) = t) (hle : t ≤ held) :
    Calls Try.prog 20 #[.pointer (some ⟨hb, 0, none⟩), .int .i64 x] w fun e w' => e = .returned (.bool true) ∧ w = w' := by
  obtain ⟨c1, c2, c3, c4, c5, f4⟩ := h
  go_enter Try.func20, Try.ntmps20
  go_wp2_with fail
  go_ret
  exact ⟨rfl, rfl⟩

theorem i64_wrap_id (n : Int) (h : -9223372036854775808 ≤ n ∧ n ≤ 9223372036854775807) : IntKind.i64.wrap n = n := by
  rw [IntKind.wrap_i64]; omega

set_option maxHeartbeats 400000 in
/-- refused -/
theorem hold_no (hb sb bm n : Nat) (D : DataW Unit) (lim : Int) (s : ByteArray) (bound held x t : Int) (w : World) (hB : Body w hb sb s bound held) (hP : Pool w sb bm n D lim held) (h1 : hb ≠ sb) (h2 : hb ≠ bm)
    (ht : (if bound < x then bound else x) = t) (hlt : held < t) (hs : s.size ≤ maxLen) (hv : D.atKey (key s) (I64 0) = I64 held)
    (hh0 : 0 ≤ held) (hh1 : held ≤ 2305843009213693952) (ht1 : t ≤ 2305843009213693952) (hl0 : 0 ≤ lim) (hl1 : lim ≤ 2305843009213693952)
    (hno : lim / 2 < t) :
    Calls Try.prog 20 #[.pointer (some ⟨hb, 0, none⟩), .int .i64 x] w fun e w' => e = .returned (.bool false) ∧ Body w' hb sb s bound held ∧ Pool w' sb bm n D lim held ∧ Touch sb bm w w' := by
  have HB : Hid (Body w hb sb s bound held) := hB
  have HV : Hid (D.atKey (key s) (I64 0) = I64 held) := hv
  have HC : Hid (Calls Try.prog 19 #[.pointer (some ⟨sb, 0, none⟩), .string s, .int .i64 (IntKind.i64.wrap (t - held))] w.drew fun e w' => e = .returned (.bool false) ∧ Pool w' sb bm n D lim held ∧ Touch sb bm w.drew w') := by
    rw [i64_wrap_id (t - held) (by omega)]
    by_cases hok : held + (t - held) ≤ lim
    · exact take_no2 sb bm n D lim held held (t - held) s w.drew hP.drew hs hv hh0 hh1 (by omega) (by omega) hh0 hh1 hl0 hl1 hok (by omega)
    · exact take_no1 sb bm n D lim held (t - held) s w.drew hP.drew hh0 hh1 (by omega) (by omega) (by omega)
  obtain ⟨c1, c2, c3, c4, c5, f4⟩ := hB
  clear hv hP hno
  go_enter Try.func20, Try.ntmps20
  go_wp2_with fail
  go_region_held (fun w' => w'.cell? ⟨hb, 1, none⟩ = some (.pointer (some ⟨sb, 0, none⟩)) ∧ w'.cell? ⟨hb, 2, none⟩ = some (.string s) ∧ w'.cell? ⟨hb, 4, none⟩ = some (.int .i64 held)) (go_keep)
    (first | (go_at_call 19; refine HC.out.mono ?_; rintro e w' ⟨rfl, hp', ht'⟩; have hk : ∀ o, w'.cell? ⟨hb, o, none⟩ = w.cell? ⟨hb, o, none⟩ := ht'.cell h1 h2))
  go_wp2_with fail
  go_ret
  exact ⟨rfl, HB.out.touch ((Touch.refl _ _ _).drew.trans ht') h1 h2, hp', (Touch.refl _ _ _).drew.trans ht'⟩

set_option maxHeartbeats 400000 in
/-- held -/
theorem hold_yes (hb sb bm n : Nat) (D : DataW Unit) (lim : Int) (s : ByteArray) (bound held x t : Int) (w : World) (hB : Body w hb sb s bound held) (hP : Pool w sb bm n D lim held) (h1 : hb ≠ sb) (h2 : hb ≠ bm)
    (ht : (if bound < x then bound else x) = t) (hlt : held < t) (hs : s.size ≤ maxLen) (hv : D.atKey (key s) (I64 0) = I64 held) (hn : n < maxLen)
    (hh0 : 0 ≤ held) (hh1 : held ≤ 2305843009213693952) (ht1 : t ≤ 2305843009213693952) (hl0 : 0 ≤ lim) (hl1 : lim ≤ 2305843009213693952)
    (hok : t ≤ lim / 2) :
    Calls Try.prog 20 #[.pointer (some ⟨hb, 0, none⟩), .int .i64 x] w fun e w' => e = .returned (.bool true) ∧ Body w' hb sb s bound t ∧ Pool w' sb bm (n + 1) (D.put (key s) (I64 t)) lim t ∧
      ∃ w1, Touch sb bm w w1 ∧ w' = w1.setCell ⟨hb, 4, none⟩ (.int .i64 t) := by
  have HB : Hid (Body w hb sb s bound held) := hB
  have HV : Hid (D.atKey (key s) (I64 0) = I64 held) := hv
  have HC : Hid (Calls Try.prog 19 #[.pointer (some ⟨sb, 0, none⟩), .string s, .int .i64 (IntKind.i64.wrap (t - held))] w.drew fun e w' => e = .returned (.bool true) ∧ Pool w' sb bm (n + 1) (D.put (key s) (I64 t)) lim t ∧ Touch sb bm w.drew w') := by
    rw [i64_wrap_id (t - held) (by omega)]
    have := take_yes sb bm n D lim held held (t - held) s w.drew hP.drew hs hv hn hh0 hh1 (by omega) (by omega) hh0 hh1 hl0 hl1 (by omega) (by omega)
    rw [show held + (t - held) = t from by omega] at this
    exact this
  obtain ⟨c1, c2, c3, c4, c5, f4⟩ := hB
  clear hv hP hok
  go_enter Try.func20, Try.ntmps20
  go_wp2_with fail
  go_region_held (fun w' => w'.cell? ⟨hb, 1, none⟩ = some (.pointer (some ⟨sb, 0, none⟩)) ∧ w'.cell? ⟨hb, 2, none⟩ = some (.string s) ∧ w'.cell? ⟨hb, 4, none⟩ = some (.int .i64 held)) (go_keep)
    (first | (go_at_call 19; refine HC.out.mono ?_; rintro e w' ⟨rfl, hp', ht'⟩; have hk : ∀ o, w'.cell? ⟨hb, o, none⟩ = w.cell? ⟨hb, o, none⟩ := ht'.cell h1 h2))
  have hkf : ∀ o, w'.frozen? ⟨hb, o, none⟩ = w.frozen? ⟨hb, o, none⟩ := ht'.frozen h1 h2
  go_wp2_with fail
  go_ret
  have hT := (Touch.refl sb bm w).drew.trans ht'
  have hB1 := HB.out.touch hT h1 h2
  have e1 : ∀ o, (w'.setCell ⟨hb, 4, none⟩ (.int .i64 t)).cell? ⟨sb, o, none⟩ = w'.cell? ⟨sb, o, none⟩ := fun o => World.cell?_setCell_other _ _ _ _ (by simp [h1])
  refine ⟨rfl, ⟨?_, ?_, ?_, ?_, ?_, ?_⟩, ⟨(e1 0).trans hp'.c0, (e1 1).trans hp'.c1, (e1 3).trans hp'.c3, (e1 4).trans hp'.c4, ?_, ?_, hp'.ne, hp'.own.setCell (Ne.symm h2) _⟩, w', hT, rfl⟩
  · rw [World.cell?_setCell_other _ _ _ _ (by simp)]; exact hB1.c1
  · rw [World.cell?_setCell_other _ _ _ _ (by simp)]; exact hB1.c2
  · rw [World.cell?_setCell_other _ _ _ _ (by simp)]; exact hB1.c3
  · exact World.cell?_setCell_same _ _ _ hB1.c4
  · rw [World.cell?_setCell_other _ _ _ _ (by simp)]; exact hB1.c5
  · rw [World.frozen?_setCell]; exact hB1.f4
  · rw [World.frozen?_setCell]; exact hp'.f1
  · rw [World.frozen?_setCell]; exact hp'.f3

set_option maxHeartbeats 400000 in
theorem zhold {hb : Nat} {x : Int} {w : World} {b : Bool} {R : World → Prop}
    (h : Calls Try.prog 20 #[.pointer (some ⟨hb, 0, none⟩), .int .i64 x] w fun e w' => e = .returned (.bool b) ∧ R w') :
    Calls Try.prog 15 #[.pointer (some ⟨hb, 0, none⟩), .int .i64 x] w fun e w' => e = .returned (.bool b) ∧ R w' := by
  have H : Hid (Calls Try.prog 20 #[.pointer (some ⟨hb, 0, none⟩), .int .i64 x] w fun e w' => e = .returned (.bool b) ∧ R w') := h
  clear h
  go_enter Try.func15, Try.ntmps15
  go_wp2_with fail
  refine H.out.mono ?_
  rintro e w' ⟨rfl, hr⟩
  go_wp2_with fail
  go_ret
  exact ⟨rfl, hr⟩
end Go.Proofs.Qxb6605728a
