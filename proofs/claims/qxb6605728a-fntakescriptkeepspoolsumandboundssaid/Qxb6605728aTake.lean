/-
  The pool's 'take' (function 19), the lock free, the map the pool's own: by the lock's contracts and the laws on maps.
-/
import Derived.Test.Qxb6605728aRows
import Derived.Test.Qxb6605728aLocks
import Derived.Conc.MuLone
import Derived.Maps.OwnSet
import Derived.Maps.OwnOps
import Derived.WalkKit
import Derived.WalkSpells
import Derived.Deep.QuietTactic
import Derived.BigQuiet
namespace Go.Proofs.Qxb6605728a
open Go.RowKit Go.Maps
open Go.MuLone
open Go.WideMaps (keyOf_string_mk)
set_option linter.unusedVariables false
set_option linter.unusedSimpArgs false

theorem law9 : Keyed Try.prog 9 := string_keyed Try.underlying9
theorem zero2 (w : World) : (zeroValue 2).run Try.prog w = .ok (.int .i64 0) w := by kernel_rfl
abbrev key (s : ByteArray) : Lit := .string s.data.toList
abbrev I64 (n : Int) : DataW Unit := .lit (.int .i64 n)

/-- Blocks sb and bm alone may have turned. -/
structure Touch (sb bm : Nat) (w w' : World) : Prop where
  os : w'.os = w.os
  tape : w'.tape = w.tape
  output : w'.output = w.output
  size : w'.heap.size = w.heap.size
  block : ∀ k, k ≠ sb → k ≠ bm → w'.heap[k]? = w.heap[k]?

theorem Touch.refl (sb bm : Nat) (w : World) : Touch sb bm w w := ⟨rfl, rfl, rfl, rfl, fun _ _ _ => rfl⟩
theorem Touch.trans {sb bm : Nat} {a b c : World} (h : Touch sb bm a b) (k : Touch sb bm b c) : Touch sb bm a c :=
  ⟨k.os.trans h.os, k.tape.trans h.tape, k.output.trans h.output, k.size.trans h.size, fun i h1 h2 => (k.block i h1 h2).trans (h.block i h1 h2)⟩
theorem Touch.setCell {sb bm : Nat} {a w : World} (h : Touch sb bm a w) (o : Nat) (u : Value) : Touch sb bm a (w.setCell ⟨sb, o, none⟩ u) :=
  h.trans ⟨rfl, rfl, rfl, by simp [World.setCell], fun k h1 _ => Below.heap_setCell _ _ _ _ h1⟩
theorem drewN_fields : ∀ (n : Nat) (w : World), (w.drewN n).os = w.os ∧ (w.drewN n).tape = w.tape ∧ (w.drewN n).output = w.output ∧ (w.drewN n).heap = w.heap
  | 0, w => ⟨rfl, rfl, rfl, rfl⟩
  | n + 1, w => drewN_fields n w.drew
theorem Touch.drewN {sb bm : Nat} {a w : World} (h : Touch sb bm a w) (n : Nat) : Touch sb bm a (w.drewN n) := by
  obtain ⟨h1, h2, h3, h4⟩ := drewN_fields n w
  exact h.trans ⟨h1, h2, h3, by rw [h4], fun k _ _ => by rw [h4]⟩
theorem Touch.turned {sb bm : Nat} {a w w' : World} (h : Touch sb bm a w) (ht : w.mapTurned w' bm) : Touch sb bm a w' := by
  refine h.trans ⟨ht.grown.os, ht.grown.tape, ht.grown.output, ?_, ?_⟩
  · obtain ⟨es, c, es', c', _, rfl⟩ := ht
    simp [ChangeMaps.setBlock]
  · intro k _ h2
    obtain ⟨es, c, es', c', hb, rfl⟩ := ht
    simp [ChangeMaps.setBlock, Array.getElem?_setIfInBounds, Ne.symm h2]
theorem Touch.below {sb bm B : Nat} {a w w' : World} (h : Below B a w) (t : Touch sb bm w w') (h1 : B ≤ sb) (h2 : B ≤ bm) : Below B a w' :=
  h.trans ⟨t.os, t.tape, t.output, by rw [t.size]; exact Nat.le_refl _, fun k hk => t.block k (by omega) (by omega)⟩
theorem Touch.row {sb bm : Nat} {w w' : World} (t : Touch sb bm w w') {base : Nat} {e : TypeId} {size : Nat} {v : Value} {n : Nat} {xs : List Value} (h : w.ownsRow base e size v n xs)
    (h1 : v.ownBlock ≠ some sb) (h2 : v.ownBlock ≠ some bm) : w'.ownsRow base e size v n xs := by
  refine ⟨h.1, ?_⟩
  rcases h.2 with hn | ⟨g, cap, cur, rfl, hb, hgg, rest⟩
  · exact .inl hn
  · refine .inr ⟨g, cap, cur, rfl, hb, ?_, rest⟩
    rw [t.block g (fun e => h1 (by simp [Value.ownBlock, e])) (fun e => h2 (by simp [Value.ownBlock, e]))]
    exact hgg

/-- The pool at block sb: its limit, its lock free, what it holds; its map at block bm reads as D. -/
structure Pool (w : World) (sb bm n : Nat) (D : DataW Unit) (lim held : Int) : Prop where
  c0 : w.cell? ⟨sb, 0, none⟩ = some (.int .i64 lim)
  c1 : w.cell? ⟨sb, 1, none⟩ = some (.int .i32 0)
  c3 : w.cell? ⟨sb, 3, none⟩ = some (.int .i64 held)
  c4 : w.cell? ⟨sb, 4, none⟩ = some (.map (some bm))
  f1 : w.frozen? ⟨sb, 1, none⟩ = false
  f3 : w.frozen? ⟨sb, 3, none⟩ = false
  ne : bm ≠ sb
  own : w.ownsMap Try.prog 9 (plainElem Try.prog 2) bm n D

theorem cell_drewN (n : Nat) (w : World) (a : Addr) : (w.drewN n).cell? a = w.cell? a := World.cell?_of_block (by rw [(drewN_fields n w).2.2.2])
theorem frozen_drewN (n : Nat) (w : World) (a : Addr) : (w.drewN n).frozen? a = w.frozen? a := World.frozen?_of_block (by rw [(drewN_fields n w).2.2.2])
theorem ownsMap_heap {w w' : World} (h : w'.heap = w.heap) {k : TypeId} {R : Value → Option (DataW Unit × List MemPlace)} {b n : Nat} {D : DataW Unit} (ho : w.ownsMap Try.prog k R b n D) : w'.ownsMap Try.prog k R b n D := by
  obtain ⟨es, c, h1, h2⟩ := ho
  exact ⟨es, c, by rw [h]; exact h1, h2⟩

/-- the lock taken and let go again: the pool stands -/
theorem Pool.after_no {w : World} {sb bm n : Nat} {D : DataW Unit} {lim held : Int} (h : Pool w sb bm n D lim held) (nq : Nat) :
    Pool (((w.setCell ⟨sb, 1, none⟩ (.int .i32 1)).drewN nq).setCell ⟨sb, 1, none⟩ (.int .i32 0)) sb bm n D lim held ∧ Touch sb bm w (((w.setCell ⟨sb, 1, none⟩ (.int .i32 1)).drewN nq).setCell ⟨sb, 1, none⟩ (.int .i32 0)) := by
  refine ⟨⟨?_, ?_, ?_, ?_, ?_, ?_, h.ne, ?_⟩, (((Touch.refl _ _ _).setCell _ _).drewN nq).setCell _ _⟩
  · rw [World.cell?_setCell_other _ _ _ _ (by simp), cell_drewN, World.cell?_setCell_other _ _ _ _ (by simp)]; exact h.c0
  · rw [World.cell?_setCell_same (u := .int .i32 1)]
    rw [cell_drewN]; exact World.cell?_setCell_same _ _ _ h.c1
  · rw [World.cell?_setCell_other _ _ _ _ (by simp), cell_drewN, World.cell?_setCell_other _ _ _ _ (by simp)]; exact h.c3
  · rw [World.cell?_setCell_other _ _ _ _ (by simp), cell_drewN, World.cell?_setCell_other _ _ _ _ (by simp)]; exact h.c4
  · rw [World.frozen?_setCell, frozen_drewN, World.frozen?_setCell]; exact h.f1
  · rw [World.frozen?_setCell, frozen_drewN, World.frozen?_setCell]; exact h.f3
  · exact (ownsMap_heap (drewN_fields nq _).2.2.2 (h.own.setCell (a := ⟨sb, 1, none⟩) h.ne _)).setCell (a := ⟨sb, 1, none⟩) h.ne _

set_option maxHeartbeats 1600000 in
/-- refused by the pool's own bound -/
theorem take_no1 (sb bm n : Nat) (D : DataW Unit) (lim held x : Int) (s : ByteArray) (w : World) (hp : Pool w sb bm n D lim held)
    (hh0 : 0 ≤ held) (hh1 : held ≤ 2305843009213693952) (hx0 : 0 ≤ x) (hx1 : x ≤ 2305843009213693952)
    (hno : lim < held + x) :
    Calls Try.prog 19 #[.pointer (some ⟨sb, 0, none⟩), .string s, .int .i64 x] w fun e w' => e = .returned (.bool false) ∧ Pool w' sb bm n D lim held ∧ Touch sb bm w w' := by
  have HP : Hid (Pool w sb bm n D lim held) := hp
  obtain ⟨c0, c1, c3, c4, f1, f3, hne, hown⟩ := hp
  clear hown
  have hd : decide (lim < held + x) = true := by simpa using hno
  go_enter_defers Try.func19, Try.ntmps19
  go_wp2_with (go_at_call 21; refine (lock_free muLib ⟨sb, 1, none⟩ _ c1 f1).mono ?_; rintro e w' ⟨rfl, rfl⟩)
  go_quiet (fail)
  go_wp2_with fail
  refine leaves_cons (f := 22) (args := #[.pointer (some ⟨sb, 1, none⟩)]) (by simp) (by simp [go_sem]) ?_
  refine (unlock_deferred muLib ⟨sb, 1, none⟩ .returning _ ?_ ?_).mono ?_
  · rw [cell_drewN]; exact World.cell?_setCell_same w _ _ c1
  · simp [f1]
  rintro e u' w'' ⟨rfl, rfl, rfl⟩
  exact ⟨_, results_tmp rfl _ _ _, rfl, HP.out.after_no _⟩

set_option maxHeartbeats 1600000 in
/-- refused by the holder's bound -/
theorem take_no2 (sb bm n : Nat) (D : DataW Unit) (lim held v x : Int) (s : ByteArray) (w : World) (hp : Pool w sb bm n D lim held) (hs : s.size ≤ maxLen) (hv : D.atKey (key s) (I64 0) = I64 v)
    (hh0 : 0 ≤ held) (hh1 : held ≤ 2305843009213693952) (hx0 : 0 ≤ x) (hx1 : x ≤ 2305843009213693952) (hv0 : 0 ≤ v) (hv1 : v ≤ 2305843009213693952) (hl0 : 0 ≤ lim) (hl1 : lim ≤ 2305843009213693952)
    (hok : held + x ≤ lim) (hno : lim / 2 < v + x) :
    Calls Try.prog 19 #[.pointer (some ⟨sb, 0, none⟩), .string s, .int .i64 x] w fun e w' => e = .returned (.bool false) ∧ Pool w' sb bm n D lim held ∧ Touch sb bm w w' := by
  have HP : Hid (Pool w sb bm n D lim held) := hp
  obtain ⟨c0, c1, c3, c4, f1, f3, hne, hown⟩ := hp
  have hd : decide (lim < held + x) = false := by simpa using hok
  have hlook : ∀ m, (Instr.lookup 29 (.map (some bm)) (.string s) false).run Try.prog ((w.setCell ⟨sb, 1, none⟩ (.int .i32 1)).drewN m) = .ok (.int .i64 v) ((w.setCell ⟨sb, 1, none⟩ (.int .i32 1)).drewN m) := by
    intro m
    obtain ⟨c, hrun, hat, _⟩ := (ownsMap_heap (drewN_fields m _).2.2.2 (hown.setCell (a := ⟨sb, 1, none⟩) hne (.int .i32 1))).lookup_int law9 Try.underlying29 Try.underlying2 (zero2 _) (keyOf_string_mk Try.underlying9 hs)
    rw [hv] at hat
    cases hat
    exact hrun
  clear hown
  have HV : Hid (D.atKey (key s) (I64 0) = I64 v) := hv
  clear hv
  have hl' : (w.setCell ⟨sb, 1, none⟩ (.int .i32 1)) = (w.setCell ⟨sb, 1, none⟩ (.int .i32 1)).drewN 0 := rfl
  have hlook0 := hlook 0
  rw [← hl'] at hlook0
  clear hl'
  go_enter_defers Try.func19, Try.ntmps19
  go_wp2_with (go_at_call 21; refine (lock_free muLib ⟨sb, 1, none⟩ _ c1 f1).mono ?_; rintro e w' ⟨rfl, rfl⟩)
  go_quiet (fail)
  go_wp2_with fail
  refine leaves_cons (f := 22) (args := #[.pointer (some ⟨sb, 1, none⟩)]) (by simp) (by simp [go_sem]) ?_
  refine (unlock_deferred muLib ⟨sb, 1, none⟩ .returning _ ?_ ?_).mono ?_
  · rw [cell_drewN]; exact World.cell?_setCell_same w _ _ c1
  · simp [f1]
  rintro e u' w'' ⟨rfl, rfl, rfl⟩
  exact ⟨_, results_tmp rfl _ _ _, rfl, HP.out.after_no _⟩

theorem wf_of {n : Int} (h0 : 0 ≤ n) (h1 : n ≤ 9223372036854775807) : (Lit.int .i64 n).wf = true := WalkArith.wf_i64 (by omega)

set_option maxHeartbeats 1600000 in
/-- admitted -/
theorem take_yes (sb bm n : Nat) (D : DataW Unit) (lim held v x : Int) (s : ByteArray) (w : World) (hp : Pool w sb bm n D lim held) (hs : s.size ≤ maxLen) (hv : D.atKey (key s) (I64 0) = I64 v) (hn : n < maxLen)
    (hh0 : 0 ≤ held) (hh1 : held ≤ 2305843009213693952) (hx0 : 0 ≤ x) (hx1 : x ≤ 2305843009213693952) (hv0 : 0 ≤ v) (hv1 : v ≤ 2305843009213693952) (hl0 : 0 ≤ lim) (hl1 : lim ≤ 2305843009213693952)
    (hok : held + x ≤ lim) (hok2 : v + x ≤ lim / 2) :
    Calls Try.prog 19 #[.pointer (some ⟨sb, 0, none⟩), .string s, .int .i64 x] w fun e w' => e = .returned (.bool true) ∧ Pool w' sb bm (n + 1) (D.put (key s) (I64 (v + x))) lim (held + x) ∧ Touch sb bm w w' := by
  have HP : Hid (Pool w sb bm n D lim held) := hp
  obtain ⟨c0, c1, c3, c4, f1, f3, hne, hown⟩ := hp
  have hd : decide (lim < held + x) = false := by simpa using hok
  have hlook : ∀ m, (Instr.lookup 29 (.map (some bm)) (.string s) false).run Try.prog ((w.setCell ⟨sb, 1, none⟩ (.int .i32 1)).drewN m) = .ok (.int .i64 v) ((w.setCell ⟨sb, 1, none⟩ (.int .i32 1)).drewN m) := by
    intro m
    obtain ⟨c, hrun, hat, _⟩ := (ownsMap_heap (drewN_fields m _).2.2.2 (hown.setCell (a := ⟨sb, 1, none⟩) hne (.int .i32 1))).lookup_int law9 Try.underlying29 Try.underlying2 (zero2 _) (keyOf_string_mk Try.underlying9 hs)
    rw [hv] at hat
    cases hat
    exact hrun
  have hown2 : ∀ m, (((w.setCell ⟨sb, 1, none⟩ (.int .i32 1)).drewN m).setCell ⟨sb, 3, none⟩ (.int .i64 (held + x))).ownsMap Try.prog 9 (plainElem Try.prog 2) bm n D := fun m =>
    (ownsMap_heap (drewN_fields m _).2.2.2 (hown.setCell (a := ⟨sb, 1, none⟩) hne (.int .i32 1))).setCell (a := ⟨sb, 3, none⟩) hne _
  have hlook2 : ∀ m, (Instr.lookup 29 (.map (some bm)) (.string s) false).run Try.prog (((w.setCell ⟨sb, 1, none⟩ (.int .i32 1)).drewN m).setCell ⟨sb, 3, none⟩ (.int .i64 (held + x))) = .ok (.int .i64 v) (((w.setCell ⟨sb, 1, none⟩ (.int .i32 1)).drewN m).setCell ⟨sb, 3, none⟩ (.int .i64 (held + x))) := by
    intro m
    obtain ⟨c, hrun, hat, _⟩ := (hown2 m).lookup_int law9 Try.underlying29 Try.underlying2 (zero2 _) (keyOf_string_mk Try.underlying9 hs)
    rw [hv] at hat
    cases hat
    exact hrun
  clear hown
  have HV : Hid (D.atKey (key s) (I64 0) = I64 v) := hv
  clear hv
  have hl' : (w.setCell ⟨sb, 1, none⟩ (.int .i32 1)) = (w.setCell ⟨sb, 1, none⟩ (.int .i32 1)).drewN 0 := rfl
  have hlook0 := hlook 0
  rw [← hl'] at hlook0
  clear hl'
  have hkey := keyOf_string_mk Try.underlying9 hs
  go_enter_defers Try.func19, Try.ntmps19
  go_wp2_with (go_at_call 21; refine (lock_free muLib ⟨sb, 1, none⟩ _ c1 f1).mono ?_; rintro e w' ⟨rfl, rfl⟩)
  go_quiet (fail)
  clear hlook hlook0
  have hwf : (Lit.int .i64 (v + x)).wf = true := wf_of (by omega) (by omega)
  go_wp2_with (at_mapUpdate; refine wpList_mapUpdate_in _ rfl _ _ _ 29 rfl 9 2 law9 Try.underlying29 _ bm n D rfl (hown2 _) hn _ _ _ rfl rfl hkey _ [] (plainElem_int Try.underlying2 hwf) ?_; intro w1 hown3 hturn)
  have k1 : ∀ o, ((w.setCell ⟨sb, 1, none⟩ (.int .i32 1)).drewN nq |>.setCell ⟨sb, 3, none⟩ (.int .i64 (held + x))).cell? ⟨sb, o, none⟩ = w1.cell? ⟨sb, o, none⟩ := by
    intro o
    obtain ⟨es, c, es', c', hb, rfl⟩ := hturn
    simp [World.cell?, ChangeMaps.setBlock, hne]
  have k2 : ((w.setCell ⟨sb, 1, none⟩ (.int .i32 1)).drewN nq |>.setCell ⟨sb, 3, none⟩ (.int .i64 (held + x))).cell? ⟨sb, 1, none⟩ = some (.int .i32 1) := by
    rw [World.cell?_setCell_other _ _ _ _ (by simp), cell_drewN]; exact World.cell?_setCell_same w _ _ c1
  have kf : ∀ o, w1.frozen? ⟨sb, o, none⟩ = w.frozen? ⟨sb, o, none⟩ := by
    intro o
    rw [hturn.frozen, World.frozen?_setCell, frozen_drewN, World.frozen?_setCell]
  refine leaves_cons (f := 22) (args := #[.pointer (some ⟨sb, 1, none⟩)]) (by simp) (by simp [go_sem]) ?_
  refine (unlock_deferred muLib ⟨sb, 1, none⟩ .returning _ ((k1 1).symm.trans k2) ((kf 1).trans f1)).mono ?_
  rintro e u' w'' ⟨rfl, rfl, rfl⟩
  refine ⟨_, results_tmp rfl _ _ _, rfl, ⟨?_, ?_, ?_, ?_, ?_, ?_, hne, ?_⟩, ?_⟩
  · rw [World.cell?_setCell_other _ _ _ _ (by simp), ← k1, World.cell?_setCell_other _ _ _ _ (by simp), cell_drewN, World.cell?_setCell_other _ _ _ _ (by simp)]; exact c0
  · exact World.cell?_setCell_same _ _ _ ((k1 1).symm.trans k2)
  · rw [World.cell?_setCell_other _ _ _ _ (by simp), ← k1]
    refine World.cell?_setCell_same (u := .int .i64 held) _ _ _ ?_
    rw [cell_drewN, World.cell?_setCell_other _ _ _ _ (by simp)]; exact c3
  · rw [World.cell?_setCell_other _ _ _ _ (by simp), ← k1, World.cell?_setCell_other _ _ _ _ (by simp), cell_drewN, World.cell?_setCell_other _ _ _ _ (by simp)]; exact c4
  · rw [World.frozen?_setCell, kf]; exact f1
  · rw [World.frozen?_setCell, kf]; exact f3
  · exact hown3.setCell (a := ⟨sb, 1, none⟩) hne _
  · exact (((((Touch.refl _ _ _).setCell _ _).drewN nq).setCell _ _).turned hturn).setCell _ _
end Go.Proofs.Qxb6605728a
