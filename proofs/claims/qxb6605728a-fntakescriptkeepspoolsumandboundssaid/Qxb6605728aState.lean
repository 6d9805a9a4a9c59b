/-
  FnTakeScriptKeepsPoolSumAndBounds: what the law's loop carries, and what each way of the round does to it.
-/
import Derived.Test.Qxb6605728aLedger
import Derived.Test.Qxb6605728aSmall
import Derived.Maps.AppendAt
namespace Go.Proofs.Qxb6605728a
open Go.RowKit Go.Maps
set_option linter.unusedVariables false
set_option linter.unusedSimpArgs false

theorem Try.info9 : (Try.prog.info? 9).map (fun i => (i.zero, i.size, i.bytes)) = some (some (.string ByteArray.empty), 1, 16) := by kernel_rfl
theorem Try.info2 : (Try.prog.info? 2).map (fun i => (i.zero, i.size, i.bytes)) = some (some (.int .i64 0), 1, 8) := by kernel_rfl

/-- What 'take' answers. -/
def wantB (T v x lim : Int) : Bool := decide (T + x ≤ lim ∧ v + x ≤ lim / 2)

theorem take_step (sb bm n : Nat) (D : DataW Unit) (lim held v x : Int) (s : ByteArray) (w : World) (hp : Pool w sb bm n D lim held) (hs : s.size ≤ maxLen) (hv : D.atKey (key s) (I64 0) = I64 v) (hn : n < maxLen)
    (hh0 : 0 ≤ held) (hh1 : held ≤ 2305843009213693952) (hx0 : 0 ≤ x) (hx1 : x ≤ 2305843009213693952) (hv0 : 0 ≤ v) (hv1 : v ≤ 2305843009213693952) (hl0 : 0 ≤ lim) (hl1 : lim ≤ 2305843009213693952) :
    Calls Try.prog 10 #[.pointer (some ⟨sb, 0, none⟩), .string s, .int .i64 x] w fun e w' => e = .returned (.bool (wantB held v x lim)) ∧
      (wantB held v x lim = true ∧ Pool w' sb bm (n + 1) (D.put (key s) (I64 (v + x))) lim (held + x) ∨ wantB held v x lim = false ∧ Pool w' sb bm n D lim held) ∧ Touch sb bm w w' := by
  by_cases h1 : held + x ≤ lim
  · by_cases h2 : v + x ≤ lim / 2
    · have e : wantB held v x lim = true := by simp [wantB, h1, h2]
      rw [e]
      refine (ztake (take_yes sb bm n D lim held v x s w hp hs hv hn hh0 hh1 hx0 hx1 hv0 hv1 hl0 hl1 h1 h2)).mono ?_
      rintro e w' ⟨rfl, h, t⟩
      exact ⟨rfl, .inl ⟨rfl, h⟩, t⟩
    · have e : wantB held v x lim = false := by simp [wantB, h2]
      rw [e]
      refine (ztake (take_no2 sb bm n D lim held v x s w hp hs hv hh0 hh1 hx0 hx1 hv0 hv1 hl0 hl1 h1 (by omega))).mono ?_
      rintro e w' ⟨rfl, h, t⟩
      exact ⟨rfl, .inr ⟨rfl, h⟩, t⟩
  · have e : wantB held v x lim = false := by simp [wantB, h1]
    rw [e]
    refine (ztake (take_no1 sb bm n D lim held x s w hp hh0 hh1 hx0 hx1 (by omega))).mono ?_
    rintro e w' ⟨rfl, h, t⟩
    exact ⟨rfl, .inr ⟨rfl, h⟩, t⟩

/-- The slice that owns a row, its shape. -/
theorem row_shape {w : World} {B : Nat} {e : TypeId} {v : Value} {n : Nat} {xs : List Value} (h : w.ownsRow B e 1 v n xs) :
    ∃ a c, v = .slice a n c ∧ (0 < n → ∃ g, a = some ⟨g, 0, none⟩ ∧ ∀ j, j < n → w.cell? ⟨g, j, none⟩ = xs[j]?) := by
  have h' := h
  rcases h.2 with ⟨rfl, rfl⟩ | ⟨g, cap, cur, rfl, _⟩
  · exact ⟨none, 0, rfl, fun h => by omega⟩
  · exact ⟨some ⟨g, 0, none⟩, cap, rfl, fun _ => ⟨g, rfl, fun j hj => h'.cellAt j (by omega)⟩⟩

structure St (w0 wr : World) (vn va : Value) (k : Nat) (lim T : Int) (n m : Nat) (D : DataW Unit) (ns : List ByteArray) (am : List Int) : Prop where
  len : ns.length = n
  nk : n ≤ k
  ml : m ≤ k
  names : wr.ownsRow (w0.heap.size + 2) 9 1 vn n (ns.map Value.string)
  amts : wr.ownsRow (w0.heap.size + 2) 2 1 va n (am.map (Value.int .i64))
  apart : vn.ownBlock = none ∨ vn.ownBlock ≠ va.ownBlock
  pool : Pool wr (w0.heap.size + 1) w0.heap.size m D lim T
  led : Ledger D ns am T lim
  sz : ∀ s ∈ ns, s.size ≤ maxLen
  below : Below w0.heap.size w0 wr
  size : w0.heap.size + 2 ≤ wr.heap.size

theorem St.strs {w0 wr : World} {a : Option Addr} {c : Nat} {va : Value} {k : Nat} {lim T : Int} {n m : Nat} {D : DataW Unit} {ns : List ByteArray} {am : List Int} (h : St w0 wr (.slice a n c) va k lim T n m D ns am) : Strs wr a n ns := by
  intro h0
  obtain ⟨a', c', e, hg⟩ := row_shape h.names
  cases e
  obtain ⟨g, rfl, hc⟩ := hg h0
  refine ⟨g, 0, rfl, fun j hj => ?_⟩
  have hl := h.len
  rw [Nat.zero_add, hc j hj]
  simp [List.getElem?_eq_getElem (show j < ns.length by omega)]
theorem St.ints {w0 wr : World} {a : Option Addr} {c : Nat} {vn : Value} {k : Nat} {lim T : Int} {n m : Nat} {D : DataW Unit} {ns : List ByteArray} {am : List Int} (h : St w0 wr vn (.slice a n c) k lim T n m D ns am) : Ints wr a n am := by
  intro h0
  obtain ⟨a', c', e, hg⟩ := row_shape h.amts
  cases e
  obtain ⟨g, rfl, hc⟩ := hg h0
  refine ⟨g, 0, rfl, fun j hj => ?_⟩
  have hl := h.len
  have hl2 := h.led.len
  rw [Nat.zero_add, hc j hj]
  simp [List.getElem?_eq_getElem (show j < am.length by omega)]

/-- What the law's own search says is the map's own share. -/
theorem St.share {w0 wr : World} {vn va : Value} {k : Nat} {lim T : Int} {n m : Nat} {D : DataW Unit} {ns : List ByteArray} {am : List Int} (h : St w0 wr vn va k lim T n m D ns am) (hl : 0 ≤ lim) {s : ByteArray} {r : Int}
    (hr : (r = -1 ∧ ∀ i, i < n → ns.getD i ByteArray.empty ≠ s) ∨ ∃ i : Nat, i < n ∧ r = i ∧ ns.getD i ByteArray.empty = s) :
    ∃ v, D.atKey (key s) (I64 0) = I64 v ∧ 0 ≤ v ∧ v ≤ lim / 2 ∧ ((r = -1 ∧ v = 0 ∧ s ∉ ns) ∨ ∃ i : Nat, i < n ∧ r = i ∧ nm ns i = s ∧ am.getD i 0 = v) := by
  have hlen := h.len
  rcases hr with ⟨hr, hno⟩ | ⟨i, hi, hr, rfl⟩
  · have hs : s ∉ ns := by
      intro hm
      obtain ⟨i, hi, e⟩ := mem_nm hm
      exact hno i (by omega) e
    refine ⟨0, atKey_of_not_has ?_ _, by omega, by omega, .inl ⟨hr, rfl, hs⟩⟩
    cases e : Maps.has D (key s)
    · rfl
    · exact absurd ((h.led.has s).1 e) hs
  · have := h.led.nn i (by omega)
    exact ⟨am.getD i 0, h.led.at_ i (by omega), this.1, this.2, .inr ⟨i, hi, hr, rfl, rfl⟩⟩

/-- 'len' of the pool's map; 'a, ok := after[names[j]]'. -/
theorem St.lenMap {w0 wr : World} {vn va : Value} {k : Nat} {lim T : Int} {n m : Nat} {D : DataW Unit} {ns : List ByteArray} {am : List Int} (h : St w0 wr vn va k lim T n m D ns am) (ty : TypeId) :
    (Builtin.len_ #[29] ty #[.map (some w0.heap.size)]).run Try.prog wr = .ok (.int .i64 n) wr := by
  rw [h.pool.own.len Try.underlying29 ty, h.led.size, h.len]
theorem St.lookMap {w0 wr : World} {vn va : Value} {k : Nat} {lim T : Int} {n m : Nat} {D : DataW Unit} {ns : List ByteArray} {am : List Int} (h : St w0 wr vn va k lim T n m D ns am) {j : Nat} (hj : j < n) :
    (Instr.lookup 29 (.map (some w0.heap.size)) (.string (nm ns j)) true).run Try.prog wr = .ok (.tuple #[.int .i64 (am.getD j 0), .bool true]) wr := by
  have hl := h.len
  have hmem : nm ns j ∈ ns := nm_mem (by omega)
  obtain ⟨v, ps, hrun, hv⟩ := h.pool.own.look_ok law9 Try.underlying29 (zero2 _) (plainElem_int Try.underlying2 (by decide)) (WideMaps.keyOf_string_mk Try.underlying9 (h.sz _ hmem))
  obtain ⟨c, rfl, hc, _⟩ := plainElem_int_inv Try.underlying2 hv
  have hat := h.led.at_ j (by omega)
  simp only [Prod.mk.injEq] at hc
  rw [hc.1] at hat
  cases hat
  rw [(h.led.has _).2 hmem] at hrun
  exact hrun

theorem own_ne {w : World} {B : Nat} {e : TypeId} {v : Value} {n : Nat} {xs : List Value} (h : w.ownsRow (B + 2) e 1 v n xs) (b : Nat) (hb : b < B + 2) : v.ownBlock ≠ some b := by
  intro e'
  have := (h.lt b e').1
  omega

/-- refused: nothing that the law carries has turned -/
theorem St.no {w0 wr w' : World} {vn va : Value} {k : Nat} {lim T : Int} {n m : Nat} {D : DataW Unit} {ns : List ByteArray} {am : List Int} (h : St w0 wr vn va k lim T n m D ns am)
    (ht : Touch (w0.heap.size + 1) w0.heap.size wr w') (hp : Pool w' (w0.heap.size + 1) w0.heap.size m D lim T) : St w0 w' vn va (k + 1) lim T n m D ns am :=
  ⟨h.len, by have := h.nk; omega, by have := h.ml; omega, ht.row h.names (own_ne h.names _ (by omega)) (own_ne h.names _ (by omega)), ht.row h.amts (own_ne h.amts _ (by omega)) (own_ne h.amts _ (by omega)), h.apart, hp, h.led, h.sz,
    Touch.below h.below ht (by omega) (by omega), by rw [ht.size]; exact h.size⟩

theorem Pool.kept {w w' : World} {sb bm n : Nat} {D : DataW Unit} {lim held : Int} (h : Pool w sb bm n D lim held) {row : Option Nat} (hg : w.grownBy w' row) (h1 : some sb ≠ row) (h2 : some bm ≠ row) : Pool w' sb bm n D lim held := by
  have hlt : sb < w.heap.size := World.block_lt_of_cell? w ⟨sb, 0, none⟩ h.c0
  have e : ∀ i, w'.cell? ⟨sb, i, none⟩ = w.cell? ⟨sb, i, none⟩ := fun i => World.cell?_of_block (hg.block sb hlt h1)
  have f : ∀ i, w'.frozen? ⟨sb, i, none⟩ = w.frozen? ⟨sb, i, none⟩ := fun i => World.frozen?_of_block (hg.block sb hlt h1)
  exact ⟨(e _).trans h.c0, (e _).trans h.c1, (e _).trans h.c3, (e _).trans h.c4, (f _).trans h.f1, (f _).trans h.f3, h.ne, h.own.kept hg h2⟩

theorem grown_setCell (w : World) (g o : Nat) (u : Value) : w.grownBy (w.setCell ⟨g, o, none⟩ u) (some g) :=
  ⟨rfl, rfl, rfl, by simp [World.setCell], fun k _ hk => Below.heap_setCell _ _ _ _ (fun e => hk (by rw [e]))⟩

/-- the holder is known: its share goes up -/
theorem St.found {w0 wr w' : World} {vn : Value} {g c : Nat} {k : Nat} {lim T x : Int} {n m : Nat} {D : DataW Unit} {ns : List ByteArray} {am : List Int} (h : St w0 wr vn (.slice (some ⟨g, 0, none⟩) n c) k lim T n m D ns am)
    {i : Nat} (hi : i < n) (hx : 0 ≤ x) (h1 : T + x ≤ lim) (h2 : am.getD i 0 + x ≤ lim / 2)
    (ht : Touch (w0.heap.size + 1) w0.heap.size wr w') (hp : Pool w' (w0.heap.size + 1) w0.heap.size (m + 1) (D.put (key (nm ns i)) (I64 (am.getD i 0 + x))) lim (T + x)) :
    St w0 (w'.setCell ⟨g, i, none⟩ (.int .i64 (am.getD i 0 + x))) vn (.slice (some ⟨g, 0, none⟩) n c) (k + 1) lim (T + x) n (m + 1) (D.put (key (nm ns i)) (I64 (am.getD i 0 + x))) ns (am.set i (am.getD i 0 + x)) := by
  have hA := ht.row h.amts (own_ne h.amts _ (by omega)) (own_ne h.amts _ (by omega))
  have hN := ht.row h.names (own_ne h.names _ (by omega)) (own_ne h.names _ (by omega))
  have hgb := (h.amts.lt g rfl).1
  have hg := grown_setCell w' g i (.int .i64 (am.getD i 0 + x))
  refine ⟨h.len, by have := h.nk; omega, by have := h.ml; omega, hN.kept hg h.apart, ?_, h.apart, hp.kept hg (by simp; omega) (by simp; omega), h.led.found (h.pool.own.tidy law9) (by rw [h.len]; exact hi) hx h1 h2, h.sz,
    (Touch.below h.below ht (by omega) (by omega)).setCell (by show w0.heap.size ≤ g; omega) _, ?_⟩
  · have := hA.stored i (.int .i64 (am.getD i 0 + x))
    rw [List.map_set]
    exact this.1
  · have := h.size
    have := ht.size
    simp [World.setCell]
    omega

theorem apart_symm {a b : Option Nat} (h : a = none ∨ a ≠ b) : b = none ∨ b ≠ a := by
  rcases h with h | h
  · cases b
    · exact .inl rfl
    · exact .inr (by rw [h]; simp)
  · exact .inr (Ne.symm h)

/-- the holder is new: both slices grow by one -/
theorem St.new {w0 wr w' w1 w2 : World} {vn va vn' va' : Value} {k : Nat} {lim T x : Int} {n m : Nat} {D : DataW Unit} {ns : List ByteArray} {am : List Int} {s : ByteArray} {o1 o2 : Obj} {q1 q2 : Nat} (h : St w0 wr vn va k lim T n m D ns am)
    (hs : s ∉ ns) (hss : s.size ≤ maxLen) (hx : 0 ≤ x) (h1 : T + x ≤ lim) (h2 : x ≤ lim / 2)
    (ht : Touch (w0.heap.size + 1) w0.heap.size wr w') (hp : Pool w' (w0.heap.size + 1) w0.heap.size (m + 1) (D.put (key s) (I64 x)) lim (T + x))
    (hN : w1.ownsRow (w0.heap.size + 2) 9 1 vn' (n + 1) (ns.map Value.string ++ [.string s])) (hg1 : (w'.alloc o1).grownBy w1 vn.ownBlock) (hat1 : vn'.ownBlock = vn.ownBlock ∨ vn'.ownBlock = some q1) (hq1 : w'.heap.size ≤ q1)
    (hA : w2.ownsRow (w0.heap.size + 2) 2 1 va' (n + 1) (am.map (Value.int .i64) ++ [.int .i64 x])) (hg2 : (w1.alloc o2).grownBy w2 va.ownBlock) (hat2 : va'.ownBlock = va.ownBlock ∨ va'.ownBlock = some q2) (hq2 : w1.heap.size ≤ q2) :
    St w0 w2 vn' va' (k + 1) lim (T + x) (n + 1) (m + 1) (D.put (key s) (I64 x)) (ns ++ [s]) (am ++ [x]) := by
  have hA0 := ht.row h.amts (own_ne h.amts _ (by omega)) (own_ne h.amts _ (by omega))
  have hN0 := ht.row h.names (own_ne h.names _ (by omega)) (own_ne h.names _ (by omega))
  have g1 : w'.grownBy w1 vn.ownBlock := (World.grownBy_alloc w' o1 _).trans hg1
  have g2 : w1.grownBy w2 va.ownBlock := (World.grownBy_alloc w1 o2 _).trans hg2
  have n1 : ∀ b, b < w0.heap.size + 2 → some b ≠ vn.ownBlock := fun b hb => Ne.symm (own_ne h.names b hb)
  have n2 : ∀ b, b < w0.heap.size + 2 → some b ≠ va.ownBlock := fun b hb => Ne.symm (own_ne h.amts b hb)
  have hsz1 := g1.size
  have hsz2 := g2.size
  have hszt := ht.size
  have hsz := h.size
  -- the new names' row, the old amounts' row
  have apart1 : vn'.ownBlock = none ∨ vn'.ownBlock ≠ va.ownBlock := by
    rcases hat1 with e | e
    · rw [e]; exact h.apart
    · right
      rw [e]
      intro e2
      have := (hA0.lt q1 e2.symm).2
      omega
  have apart2 : vn'.ownBlock = none ∨ vn'.ownBlock ≠ va'.ownBlock := by
    rcases hat2 with e | e
    · rw [e]; exact apart1
    · right
      rw [e]
      intro e2
      have := (hN.lt q2 e2).2
      omega
  refine ⟨by simp [h.len], by have := h.nk; omega, by have := h.ml; omega, ?_, ?_, apart2, ?_, h.led.new (h.pool.own.tidy law9) hs hx h1 h2, ?_, ?_, by omega⟩
  · rw [List.map_append]
    exact hN.kept g2 apart1
  · rw [List.map_append]
    exact hA
  · exact (hp.kept g1 (n1 _ (by omega)) (n1 _ (by omega))).kept g2 (n2 _ (by omega)) (n2 _ (by omega))
  · intro t ht'
    rcases List.mem_append.1 ht' with ht' | ht'
    · exact h.sz t ht'
    · rw [List.mem_singleton.1 ht']; exact hss
  · refine Below.grown (Below.grown (Touch.below h.below ht (by omega) (by omega)) g1 (by omega) ?_) g2 (by omega) ?_
    · intro b hb
      have := (h.names.lt b hb).1
      omega
    · intro b hb
      have := (h.amts.lt b hb).1
      omega
end Go.Proofs.Qxb6605728a
