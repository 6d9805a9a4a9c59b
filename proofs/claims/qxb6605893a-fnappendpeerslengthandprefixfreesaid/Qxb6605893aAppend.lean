/-
  AppendUvarint, appendPeers: contracts (functions 18, 17, 12).
-/
import Derived.Test.Qxb6605893aRows
import Derived.Test.Qxb6605893aUv
import Derived.WalkKit
import Derived.WalkSpells
import Derived.WalkLawsBesides
import Derived.Maps.AppendAt
import Derived.Lib.AppendStr
import Derived.Deep.AppendLies
import Derived.Deep.DeepCutAuto
namespace Go.Proofs.Qxb6605893a
open Go.RowKit
open Go.Lib (strCells strCells_length)
set_option linter.unusedVariables false
set_option linter.unusedSimpArgs false

theorem Try.info5 : (Try.prog.info? 5).map (fun i => (i.zero, i.size, i.bytes)) = some (some (.int .u8 0), 1, 1) := by kernel_rfl
theorem Try.info9 : (Try.prog.info? 9).map (fun i => (i.zero, i.size, i.bytes)) = some (some (.string ByteArray.empty), 1, 16) := by kernel_rfl

/-- w' is w but for v's own row and new blocks; v' lies in v's own row or in a new block. -/
structure App (w w' : World) (v v' : Value) : Prop where
  os : w'.os = w.os
  tape : w'.tape = w.tape
  output : w'.output = w.output
  size : w.heap.size ≤ w'.heap.size
  block : ∀ k, k < w.heap.size → v.ownBlock ≠ some k → w'.heap[k]? = w.heap[k]?
  loc : v'.ownBlock = v.ownBlock ∨ ∃ g, v'.ownBlock = some g ∧ w.heap.size ≤ g
theorem App.refl (w : World) (v : Value) : App w w v v := ⟨rfl, rfl, rfl, Nat.le_refl _, fun _ _ _ => rfl, .inl rfl⟩
theorem App.trans {a b c : World} {u v x : Value} (h : App a b u v) (k : App b c v x) : App a c u x := by
  refine ⟨k.os.trans h.os, k.tape.trans h.tape, k.output.trans h.output, Nat.le_trans h.size k.size, fun i hi hne => ?_, ?_⟩
  · rw [k.block i (Nat.lt_of_lt_of_le hi h.size) ?_, h.block i hi hne]
    rcases h.loc with e | ⟨g, e, hg⟩
    · rw [e]; exact hne
    · rw [e]; intro e'; cases e'; omega
  · rcases k.loc with e | ⟨g, e, hg⟩
    · rw [e]; exact h.loc
    · exact .inr ⟨g, e, Nat.le_trans h.size hg⟩
theorem App.of_grown {w w' : World} {o : Obj} {v v' : Value} (hg : (w.alloc o).grownBy w' v.ownBlock) (hat : v'.ownBlock = v.ownBlock ∨ v'.ownBlock = some (w.alloc o).heap.size) : App w w' v v' := by
  have hs := hg.size
  have e : (w.alloc o).heap.size = w.heap.size + 1 := by simp
  refine ⟨hg.os, hg.tape, hg.output, by omega, fun k hk hne => ?_, ?_⟩
  · rw [hg.block k (by omega) (fun e => hne e.symm), Below.heap_alloc _ _ _ hk]
  · rcases hat with h | h
    · exact .inl h
    · exact .inr ⟨_, h, by omega⟩
theorem App.of_grown' {w w' : World} {v v' : Value} (hg : w.grownBy w' v.ownBlock) (hat : v'.ownBlock = v.ownBlock ∨ v'.ownBlock = some w.heap.size) : App w w' v v' := by
  refine ⟨hg.os, hg.tape, hg.output, hg.size, fun k hk hne => hg.block k hk (fun e => hne e.symm), ?_⟩
  rcases hat with h | h
  · exact .inl h
  · exact .inr ⟨_, h, Nat.le_refl _⟩

/-- Where 'append(b, s...)' puts the new slice. -/
theorem append_string_loc {P : Program} (w : World) (base : Nat) (t u ty e : TypeId) (i : TypeInfo) (ht : P.underlying t = some (.slice e)) (hu : P.underlying u = some .string) (hi : P.info? e = some i) (hz : i.zero = some (.int .u8 0))
    (hsize : i.size = 1) (hby : i.bytes = 1) (v : Value) (n : Nat) (xs : List Value) (hown : w.ownsRow base e 1 v n xs) (s : ByteArray)
    (h63 : n + s.size ≤ maxLen) (hbytes : n + s.size ≤ 140737488355328) (hbase : base ≤ w.heap.size) {v' : Value} {w' : World}
    (hr : (Builtin.append_ #[t, u] ty #[v, .string s]).run P w = .ok v' w') : v'.ownBlock = v.ownBlock ∨ v'.ownBlock = some w.heap.size := by
  have hsmall : n + s.size ≤ 9223372036854775807 := by simp only [maxLen] at h63; omega
  have hxl : xs.length = n := by simpa using hown.1
  rcases hown.2 with ⟨rfl, rfl⟩ | ⟨g, cap, cur, rfl, hbg, hg, hnc, hcm, hcs, htake⟩
  · obtain ⟨v1, w1, hr1, ho1, _, hnil⟩ := Lib.run_append_own_string (P := P) w base t u ty e i ht hu hi hz hsize hby _ 0 xs hown s h63 hbytes hbase
    rw [hr] at hr1
    cases hr1
    by_cases hm : s.size = 0
    · rw [hnil.2 ⟨rfl, hm⟩]; exact .inl rfl
    · have := run_append_nil_string (P := P) w t u ty e i (.int .u8 0) ht hu hi hz s (by omega) (by omega) (by rw [hby]; omega)
      rw [hr] at this
      cases this
      exact .inr rfl
  · by_cases hroom : n + s.size ≤ cap
    · have hr2 := Lib.run_append_room_string (P := P) w t u ty e i ht hu hi hsize g n cap cur hg s hroom (by rw [hcs]; omega)
      rw [hr] at hr2
      cases hr2
      exact .inl rfl
    · have holds : ∀ j u, xs[j]? = some u → w.cell? ((⟨g, 0, none⟩ : Addr).add j) = some u := hown.cells (g := g) rfl
      have hr2 := Lib.run_append_grow_string (P := P) w t u ty e i (.int .u8 0) ht hu hi hz ⟨g, 0, none⟩ n cap xs (by rw [hsize]; omega) holds s (by omega) (by omega) (by rw [hby]; exact growslice_fits (by omega) (by omega))
      rw [hr] at hr2
      cases hr2
      exact .inr rfl

/-- At the operation, for the walk. -/
theorem wpList_append_string_at {P : Program} (w : World) {ops : Array Oper} {rest : List Oper} {o : Oper} {a : Act} {Q : Exit → Act → World → Prop} (hgd : o.guard = none) (sl x : Operand) (t u : TypeId)
    (ho : o.op = .call { callee := .builtin .append, args := #[sl, x], argTypes := #[t, u] })
    (base : Nat) (e : TypeId) (i : TypeInfo) (ht : P.underlying t = some (.slice e)) (hu : P.underlying u = some .string) (hi : P.info? e = some i) (hz : i.zero = some (.int .u8 0))
    (hsize : i.size = 1) (hby : i.bytes = 1)
    (v : Value) (n : Nat) (xs : List Value) (hs : a.eval sl = v) (hown : w.ownsRow base e 1 v n xs) (s : ByteArray) (hx : a.eval x = .string s)
    (h63 : n + s.size ≤ maxLen) (hbytes : n + s.size ≤ 140737488355328) (hbase : base ≤ w.heap.size)
    (h : ∀ v' w', w'.ownsRow base e 1 v' (n + s.size) (xs ++ strCells s) → App w w' v v' → wpList P ops Q rest (a.put o.dst v') w') : wpList P ops Q (o :: rest) a w := by
  refine wpList_plain hgd fun K hK => ?_
  obtain ⟨v', w', hr, h2, h3, h4⟩ := Lib.run_append_own_string (P := P) w base t u o.type e i ht hu hi hz hsize hby v n xs hown s h63 hbytes hbase
  have hloc := append_string_loc (P := P) w base t u o.type e i ht hu hi hz hsize hby v n xs hown s h63 hbytes hbase hr
  unfold Oper.wp execOp
  simp only [ho, resolve, invoke, builtin, Sem.run_bind, Sem.run_pure, Result.andThen_ok, List.map_toArray, List.map_cons, List.map_nil, hs, hx, hr]
  exact hK _ _ (h v' w' h2 (App.of_grown' h3 hloc))

abbrev U8 (L : List Int) : List Value := L.map (Value.int .u8)
theorem U8_append (a b : List Int) : U8 (a ++ b) = U8 a ++ U8 b := List.map_append

set_option maxRecDepth 20000 in
set_option maxHeartbeats 1000000 in
theorem uv18 (v : Value) (n : Nat) (L : List Int) (y : Nat) (B : Nat) (w : World) (hy : y < 2097152) (hn : n ≤ 1099511627776) (hB : B ≤ w.heap.size) (hown : w.ownsRow B 5 1 v n (U8 L)) :
    Calls Try.prog 18 #[v, .int .u64 y] w fun e w' => ∃ v', e = .returned v' ∧ w'.ownsRow B 5 1 v' (n + (uv y).length) (U8 (L ++ uv y)) ∧ App w w' v v' := by
  have HO : Hid (w.ownsRow B 5 1 v n (U8 L)) := hown
  clear hown
  obtain ⟨i0, hi, hz0, hz1, hz2⟩ := info_parts Try.info5
  go_enter Try.func18, Try.ntmps18
  go_wp2_with fail
  go_loopw [0, 1] (fun b x wr => ∃ (z : Nat) (ds : List Int), x = .int .u64 z ∧ z ≤ y ∧ ds.length ≤ 3 ∧ wr.ownsRow B 5 1 b (n + ds.length) (U8 (L ++ ds)) ∧ ds ++ uv z = uv y ∧ App w wr v b) (fun _ x _ => (intOf x).toNat)
  case atStart => exact ⟨y, [], rfl, Nat.le_refl _, by simp, by simpa using HO.out, by simp, App.refl _ _⟩
  case round =>
    obtain ⟨z, ds, rfl, hz, hdl, hown, hds, happ⟩ := hrel
    have HO1 : Hid (wr.ownsRow B 5 1 u0 (n + ds.length) (U8 (L ++ ds))) := hown
    have HDS : Hid (ds ++ uv z = uv y) := hds
    have HA : Hid (App w wr v u0) := happ
    clear hown hds happ
    have hws : B ≤ wr.heap.size := Nat.le_trans hB HA.out.size
    have hb1 : n + ds.length + 1 ≤ maxLen := by unfold maxLen; omega
    have hb2 : (n + ds.length + 1) * 1 ≤ 140737488355328 := by omega
    by_cases hlt : z < 128
    · go_wp2_with (at_builtin; refine wpList_append_own_at _ rfl _ _ 26 rfl B 5 i0 (.int .u8 0) 1 1 Try.underlying26 hi hz0 hz1 hz2 rfl (by decide) u0 (n + ds.length) (U8 (L ++ ds)) rfl (HO1.out.alloc _) ⟨wr.heap.size, 0, none⟩ 1 1 [.int .u8 z] rfl rfl (cell_one_new _ _ _) (ints_oneCell .u8 [z]) hb1 hb2 (by simp; omega) ?_; intro v' w1 hN1 hg1 hni1 hat1)
      go_ret
      refine ⟨v', rfl, ?_, HA.out.trans (App.of_grown hg1 hat1)⟩
      have e1 : (uv y).length = ds.length + 1 := by rw [← HDS.out, uv_small z hlt]; simp
      rw [e1, ← HDS.out, uv_small z hlt, ← List.append_assoc, U8_append]
      exact hN1
    · have hor : bits .or .u8 ((z : Int) % 256) 128 = ((z % 128 + 128 : Nat) : Int) := by rw [or128 _ (by omega) (by omega)]; omega
      go_upto_region 3 with (at_builtin; refine wpList_append_own_at _ rfl _ _ 26 rfl B 5 i0 (.int .u8 0) 1 1 Try.underlying26 hi hz0 hz1 hz2 rfl (by decide) u0 (n + ds.length) (U8 (L ++ ds)) rfl (HO1.out.alloc _) ⟨wr.heap.size, 0, none⟩ 1 1 [.int .u8 ((z % 128 + 128 : Nat) : Int)] rfl rfl (cell_one_new _ _ _) (ints_oneCell .u8 [((z % 128 + 128 : Nat) : Int)]) hb1 hb2 (by simp; omega) ?_; intro v' w1 hN1 hg1 hni1 hat1)
      have e1 : (ds ++ [((z % 128 + 128 : Nat) : Int)]) ++ uv (z / 128) = uv y := by
        rw [← HDS.out, uv_step z (by omega) (by omega), List.append_assoc]; rfl
      have hdl2 : ds.length + 1 ≤ 3 := by
        have h1 := congrArg List.length e1
        have h2 := uv_len (z / 128)
        have h3 := uv_len y
        simp at h1
        omega
      have HN : Hid (w1.ownsRow B 5 1 v' (n + (ds ++ [((z % 128 + 128 : Nat) : Int)]).length) (U8 (L ++ (ds ++ [((z % 128 + 128 : Nat) : Int)])))) := by
        show w1.ownsRow _ _ _ _ _ _
        rw [← List.append_assoc, U8_append, List.length_append]
        exact hN1
      have HA1 : Hid (App w w1 v v') := HA.out.trans (App.of_grown hg1 hat1)
      have HE : Hid ((ds ++ [((z % 128 + 128 : Nat) : Int)]) ++ uv (z / 128) = uv y) := e1
      clear e1 hN1 hg1 hni1 hat1 hor
      go_wp2_with fail
      go_roundw
      case rel => exact ⟨z / 128, _, by go_num, by omega, by simp; omega, HN.out, HE.out, HA1.out⟩
      case measure => simp [intOf]; omega

/-- A slice of strings that lies apart from v's own row. -/
def Peers (w : World) (a : Option Addr) (m : Nat) (ss : List ByteArray) (v : Value) : Prop :=
  0 < m → ∃ g off, a = some ⟨g, off, none⟩ ∧ g < w.heap.size ∧ v.ownBlock ≠ some g ∧ ∀ j, j < m → w.cell? ⟨g, off + j, none⟩ = some (.string (ss.getD j ByteArray.empty))

set_option maxRecDepth 20000 in
set_option maxHeartbeats 1000000 in
theorem peers17 (v : Value) (n : Nat) (L : List Int) (pa : Option Addr) (m pc : Nat) (ss : List ByteArray) (B : Nat) (w : World) (hn : n ≤ 1048576) (hm : m ≤ 65536) (hl : ss.length = m)
    (hs : ∀ j, j < ss.length → (ss.getD j ByteArray.empty).size ≤ 1048576) (hB : B ≤ w.heap.size) (hown : w.ownsRow B 5 1 v n (U8 L)) (hp : Peers w pa m ss v) :
    Calls Try.prog 17 #[v, .slice pa m pc] w fun e w' => ∃ v', e = .returned v' ∧ w'.ownsRow B 5 1 v' (n + (enc ss).length) (U8 (L ++ enc ss)) ∧ App w w' v v' := by
  have HO : Hid (w.ownsRow B 5 1 v n (U8 L)) := hown
  have HP : Hid (Peers w pa m ss v) := hp
  have HS : Hid (∀ j, j < ss.length → (ss.getD j ByteArray.empty).size ≤ 1048576) := hs
  have HL : Hid (ss.length = m) := hl
  clear hown hp hs hl
  obtain ⟨i0, hi, hz0, hz1, hz2⟩ := info_parts Try.info5
  go_enter Try.func17, Try.ntmps17
  go_wp2_with fail
  refine (uv18 v n L m B w (by omega) (by omega) hB HO.out).mono ?_
  rintro e w1 ⟨v1, rfl, ho1, ha1⟩
  have HO1 : Hid (w1.ownsRow B 5 1 v1 (n + (uv m).length) (U8 (L ++ uv m))) := ho1
  have HA1 : Hid (App w w1 v v1) := ha1
  clear ho1 ha1
  go_wp2_with fail
  go_loopw [0, 14] (fun b i wr => ∃ k : Nat, k ≤ m ∧ i = .int .i64 k ∧ wr.ownsRow B 5 1 b (n + (uv m ++ encP (ss.take k)).length) (U8 (L ++ (uv m ++ encP (ss.take k)))) ∧ App w wr v b) (fun _ i _ => m - (intOf i).toNat)
  case atStart => exact ⟨0, Nat.zero_le _, rfl, by simpa [encP] using HO1.out, HA1.out⟩
  case round =>
    obtain ⟨k, hk, rfl, hown, happ⟩ := hrel
    have HO2 : Hid (wr.ownsRow B 5 1 u0 (n + (uv m ++ encP (ss.take k)).length) (U8 (L ++ (uv m ++ encP (ss.take k))))) := hown
    have HA2 : Hid (App w wr v u0) := happ
    clear hown happ
    by_cases hlt : k < m
    · obtain ⟨g, off, e, hg, hne, hc⟩ := HP.out (by omega)
      subst e
      have hkl : k < ss.length := by rw [HL.out]; exact hlt
      have hcell : wr.cell? ⟨g, off + k, none⟩ = some (.string (ss.getD k ByteArray.empty)) := (World.cell?_of_block (w := w) (HA2.out.block g hg hne)).trans (hc k hlt)
      have hsz := HS.out k hkl
      have hel := encP_len ss k HS.out (by omega)
      have hul := uv_len m
      have htk := encP_take ss k hkl
      obtain ⟨p, hpd⟩ : ∃ p, ss.getD k ByteArray.empty = p := ⟨_, rfl⟩
      rw [hpd] at hcell hsz htk
      have HT : Hid (encP (ss.take (k + 1)) = encP (ss.take k) ++ (uv p.size ++ bytes p)) := htk
      clear hc hpd htk hne
      have hb0 : n + (uv m ++ encP (ss.take k)).length ≤ 1099511627776 := by rw [List.length_append]; omega
      have hws : B ≤ wr.heap.size := Nat.le_trans hB HA2.out.size
      have HC : Hid (Calls Try.prog 18 #[u0, .int .u64 (p.size : Nat)] wr fun e w' => ∃ v', e = .returned v' ∧ w'.ownsRow B 5 1 v' (n + (uv m ++ encP (ss.take k)).length + (uv p.size).length) (U8 (L ++ (uv m ++ encP (ss.take k)) ++ uv p.size)) ∧ App wr w' u0 v') := uv18 u0 _ _ p.size B wr (by omega) hb0 hws HO2.out
      go_wp2_with fail
      refine HC.out.mono ?_
      rintro e w2 ⟨v2, rfl, ho3, ha3⟩
      have HO3 : Hid (w2.ownsRow B 5 1 v2 (n + (uv m ++ encP (ss.take k)).length + (uv p.size).length) (U8 (L ++ (uv m ++ encP (ss.take k)) ++ uv p.size))) := ho3
      have HA3 : Hid (App wr w2 u0 v2) := ha3
      clear ho3 ha3 HC
      have hup := uv_len p.size
      have hb1 : n + (uv m ++ encP (ss.take k)).length + (uv p.size).length + p.size ≤ maxLen := by unfold maxLen; omega
      have hb2 : n + (uv m ++ encP (ss.take k)).length + (uv p.size).length + p.size ≤ 140737488355328 := by omega
      have hb3 : B ≤ w2.heap.size := Nat.le_trans hws HA3.out.size
      go_wp2_with (at_builtin; refine wpList_append_string_at _ rfl _ _ 26 9 rfl B 5 i0 Try.underlying26 Try.underlying9 hi hz0 hz1 hz2 v2 _ _ rfl HO3.out p rfl hb1 hb2 hb3 ?_; intro v4 w4 ho4 ha4)
      have HO4 : Hid (w4.ownsRow B 5 1 v4 (n + (uv m ++ encP (ss.take (k + 1))).length) (U8 (L ++ (uv m ++ encP (ss.take (k + 1)))))) := by
        show w4.ownsRow _ _ _ _ _ _
        have e1 : L ++ (uv m ++ encP (ss.take k)) ++ uv p.size ++ bytes p = L ++ (uv m ++ encP (ss.take (k + 1))) := by rw [HT.out]; simp [List.append_assoc]
        have e2 : n + (uv m ++ encP (ss.take k)).length + (uv p.size).length + p.size = n + (uv m ++ encP (ss.take (k + 1))).length := by rw [HT.out]; simp [bytes_len]; omega
        rw [← e1, ← e2, U8_append _ (bytes p), show U8 (bytes p) = strCells p from (strCells_bytes p).symm]
        exact ho4
      have HA4 : Hid (App w w4 v v4) := HA2.out.trans (HA3.out.trans ha4)
      clear ho4 ha4
      go_roundw
      case rel => exact ⟨k + 1, by omega, by go_num, HO4.out, HA4.out⟩
      case measure => simp [intOf]; omega
    · have hke : k = m := by omega
      go_wp2_with fail
      go_ret
      refine ⟨u0, rfl, ?_, HA2.out⟩
      have e1 : enc ss = uv m ++ encP (ss.take k) := by unfold enc; rw [HL.out, List.take_of_length_le (by rw [HL.out]; omega)]
      rw [e1]
      exact HO2.out

set_option maxRecDepth 20000 in
set_option maxHeartbeats 400000 in
theorem zpeers12 {v : Value} {pa : Option Addr} {m pc : Nat} {w : World} {R : Value → World → Prop}
    (h : Calls Try.prog 17 #[v, .slice pa m pc] w fun e w' => ∃ v', e = .returned v' ∧ R v' w') :
    Calls Try.prog 12 #[v, .slice pa m pc] w fun e w' => ∃ v', e = .returned v' ∧ R v' w' := by
  have H : Hid (Calls Try.prog 17 #[v, .slice pa m pc] w fun e w' => ∃ v', e = .returned v' ∧ R v' w') := h
  clear h
  go_enter Try.func12, Try.ntmps12
  go_wp2_with fail
  refine H.out.mono ?_
  rintro e w' ⟨v', rfl, hr⟩
  have HR : Hid (R v' w') := hr
  clear hr
  go_wp2_with fail
  go_ret
  exact ⟨v', rfl, HR.out⟩
end Go.Proofs.Qxb6605893a
