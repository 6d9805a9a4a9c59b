/-
  FnAppendPeersDecodesBack: the walk (function 4).
-/
import Derived.Test.Qxb6605893aPrep
namespace Go.Proofs.Qxb6605893a
open Go.RowKit
set_option linter.unusedVariables false
set_option linter.unusedSimpArgs false

theorem idx_str (s : ByteArray) (i : Nat) (h : i < s.size) (w : World) : (Instr.index 9 (.string s) (.int .i64 (i : Int))).run Try.prog w = .ok (.int .u8 ((bytes s).getD i 0)) w := by
  rw [run_index_string w 9 s .i64 i Try.underlying9, dif_pos ⟨by omega, by omega⟩]
  have h2 : i < s.data.toList.length := by rw [Array.length_toList]; exact h
  have e : (bytes s).getD i 0 = ((s[i]'h).toNat : Int) := by
    unfold bytes
    rw [List.getD_eq_getElem?_getD, List.getElem?_map, List.getElem?_eq_getElem h2]
    rfl
  rw [e]
  rfl

set_option maxRecDepth 20000 in
set_option maxHeartbeats 4000000 in
theorem law4 (a : Option Addr) (n c : Nat) (pa : Option Addr) (m pc : Nat) (L : List Int) (ss : List ByteArray) (w : World) (hn : n ≤ maxLen) (hm : m ≤ maxLen) (hL : L.length = n) (hl : ss.length = m)
    (hs : ∀ j, j < m → (nm ss j).size ≤ maxLen) (ra : RowIn w a n (U8 L)) (rp : RowIn w pa m (St ss)) :
    Calls Try.prog 4 #[.slice a n c, .slice pa m pc] w fun e w' => e = .returned (.bool true) ∧ Below w.heap.size w w' := by
  have HRA : Hid (RowIn w a n (U8 L)) := ra
  have HRP : Hid (RowIn w pa m (St ss)) := rp
  have HLL : Hid (L.length = n) := hL
  have HL : Hid (ss.length = m) := hl
  have HN : Hid (n ≤ maxLen) := hn
  have HM : Hid (m ≤ maxLen) := hm
  have HS : Hid (∀ j, j < m → (nm ss j).size ≤ maxLen) := hs
  clear ra rp hL hl hn hm hs
  go_enter Try.func4, Try.ntmps4
  go_wp2_with fail
  refine (bytes8 a n c pa m pc ss w HN.out HM.out HL.out HS.out HRP.out).mono ?_
  rintro e w' ⟨⟨bb, rfl, hbb⟩, rfl⟩
  have HBB : Hid (bb = true → Good n m ss) := hbb
  clear hbb
  cases bb
  · go_wp2_with fail
    go_ret
    exact ⟨rfl, Below.refl _ _⟩
  have hg : Good n m ss := HBB.out rfl
  have hn1 : n ≤ 1048576 := hg.1
  have HS1 : Hid (∀ j, j < m → (nm ss j).size ≤ 1048576) := hg.2
  clear HBB hg
  go_wp2_with fail
  refine (size9 a n c pa m pc ss w hn1 HM.out HL.out HS1.out HRP.out).mono ?_
  rintro e w' ⟨⟨z, rfl, hz⟩, rfl⟩
  have HZ : Hid (z ≤ 1048576 → Few m) := hz
  clear hz
  by_cases hz1 : 1048576 < z
  · go_wp2_with fail
    go_ret
    exact ⟨rfl, Below.refl _ _⟩
  have hm1 : m ≤ 65536 := HZ.out (by omega)
  clear HZ
  go_wp2_with fail
  refine (clone10 a n c (U8 L) w HRA.out (by rw [List.length_map]; exact HLL.out) (ints_oneCell .u8 L) hn1).mono ?_
  rintro e w1 ⟨vb, rfl, ho1, hb1⟩
  obtain ⟨ab, cb, rfl, rab⟩ := rowIn_of ho1
  have O1 : Hid (w1.ownsRow w.heap.size 5 1 (.slice ab n cb) n (U8 L)) := ho1
  have B1 : Hid (Below w.heap.size w w1) := hb1
  have RAB : Hid (RowIn w1 ab n (U8 L)) := rab
  clear ho1 hb1 rab
  go_wp2_with fail
  refine (clone11 pa m pc (St ss) w1 (HRP.out.below B1.out) (by rw [List.length_map]; exact HL.out) (by intro u hu; obtain ⟨s, _, rfl⟩ := List.mem_map.1 hu; rfl) (by omega)).mono ?_
  rintro e w2 ⟨vp, rfl, ho2, hb2⟩
  obtain ⟨ap, cp, rfl, rap⟩ := rowIn_of ho2
  have O2 : Hid (w2.ownsRow w1.heap.size 9 1 (.slice ap m cp) m (St ss)) := ho2
  have B2 : Hid (Below w1.heap.size w1 w2) := hb2
  clear ho2 hb2 rap
  go_wp2_with fail
  refine (clone10 ab n cb (U8 L) w2 (RAB.out.below B2.out) (by rw [List.length_map]; exact HLL.out) (ints_oneCell .u8 L) hn1).mono ?_
  rintro e w3 ⟨vo, rfl, ho3, hb3⟩
  obtain ⟨ao, co, rfl, rao⟩ := rowIn_of ho3
  have O3 : Hid (w3.ownsRow w2.heap.size 5 1 (.slice ao n co) n (U8 L)) := ho3
  have B3 : Hid (Below w2.heap.size w2 w3) := hb3
  clear ho3 hb3 rao
  go_wp2_with fail
  refine (zpeers12 (R := fun v' w' => w'.ownsRow w.heap.size 5 1 v' (n + (enc ss).length) (U8 (L ++ enc ss)) ∧ App w3 w' (.slice ab n cb) v') ?_).mono ?_
  · obtain ⟨q1, q2, q3⟩ := prep HL.out O1.out B1.out O2.out B2.out B3.out
    exact peers17 (.slice ab n cb) n L ap m cp ss w.heap.size w3 hn1 hm1 HL.out (by rw [HL.out]; exact HS1.out) q3 q1 q2
  rintro e w4 ⟨v', rfl, ho4, happ⟩
  obtain ⟨af, cf, rfl, raf⟩ := rowIn_of ho4
  obtain ⟨o5, o6, hb6⟩ := after O1.out B1.out O2.out B2.out O3.out B3.out happ
  have RO : Hid (RowIn w4 ao n (U8 L)) := rowIn_slice o5
  have RP : Hid (RowIn w4 ap m (St ss)) := rowIn_slice o6
  have BB : Hid (Below w.heap.size w w4) := hb6
  have hs4 : w.heap.size ≤ w4.heap.size := hb6.size
  have HEL := enc_len ss (by rw [HL.out]; exact HS1.out) (by rw [HL.out]; exact hm1)
  obtain ⟨N, hN⟩ : ∃ N, N = n + (enc ss).length := ⟨_, rfl⟩
  rw [← hN] at raf ⊢
  have hN1 : n < N := by omega
  have hN2 : N ≤ 200000000000 := by omega
  have HNE : Hid (N = n + (enc ss).length) := hN
  obtain ⟨bo, oo, e, hbo, hcf⟩ := raf (by omega)
  subst e
  have CF : Hid (∀ j, j < N → w4.cell? ⟨bo, oo + j, none⟩ = (U8 (L ++ enc ss))[j]?) := hcf
  clear O1 B1 O2 B2 O3 B3 ho4 happ o5 o6 hb6 raf hcf hN HEL RAB HRA HRP
  have cells : Hid (∀ (wr : World), Below w4.heap.size w4 wr → ∀ j, j < N → wr.cell? ⟨bo, oo + j, none⟩ = some (.int .u8 ((L ++ enc ss).getD j 0))) := by
    intro wr hb j hj
    rw [hb.cell (p := ⟨bo, oo + j, none⟩) hbo, CF.out j hj, U8_at _ _ (by rw [List.length_append, HLL.out, ← HNE.out]; exact hj)]
  clear CF
  go_wp2_with fail
  go_loopw [7] (fun i wr => ∃ k : Nat, k ≤ n ∧ i = .int .i64 k ∧ Hid (Below w4.heap.size w4 wr)) (fun i _ => n - (intOf i).toNat)
  case atStart => exact ⟨0, Nat.zero_le _, rfl, Below.refl _ _⟩
  case round =>
    obtain ⟨k, hk, rfl, HB⟩ := hrel
    by_cases hlt : k < n
    · obtain ⟨b, off, e, hlb, hc⟩ := (RO.out.below HB.out) (by omega)
      subst e
      have hck := (hc k hlt).trans (U8_at L k (by rw [HLL.out]; exact hlt))
      have hcf := cells.out wr HB.out k (by omega)
      have e1 : (L ++ enc ss).getD k 0 = L.getD k 0 := by
        have := getD_mid (LL := L ++ enc ss) (pre := []) (mid := L) (post := enc ss) rfl 0 rfl k (by rw [HLL.out]; exact hlt)
        rwa [Nat.zero_add] at this
      rw [e1] at hcf
      have hi1 : (k : Int) < (n : Int) := by omega
      have hi2 : (k : Int) < (N : Int) := by omega
      clear hc e1
      go_wp2_with fail
      go_quiet (fail)
      go_wp2_with fail
      go_roundw
      case rel => exact ⟨k + 1, by omega, by go_num, below_drew HB.out _⟩
      case measure => simp [intOf]; omega
    · go_wp2_with fail
      have hu1 : n + (uv m).length ≤ N := by
        have h1 := HNE.out
        unfold enc at h1
        rw [List.length_append, HL.out] at h1
        omega
      have HU1 : Hid (n + (uv m).length ≤ N) := hu1
      clear hu1
      refine (read13 bo oo N cf n m wr (by omega) (by omega) HU1.out ?_).mono ?_
      · intro j hj
        rw [cells.out wr HB.out (n + j) (by have := HU1.out; omega), getD_mid (LL := L ++ enc ss) (pre := L) (mid := uv m) (post := encP ss) (by unfold enc; rw [HL.out, List.append_assoc]) n HLL.out j hj]
      rintro e w' ⟨rfl, rfl⟩
      obtain ⟨U, hU⟩ : ∃ U, U = n + (uv m).length := ⟨_, rfl⟩
      rw [← hU]
      have HU : Hid (U = n + (uv m).length) := hU
      have hUN : U ≤ N := by rw [HU.out]; exact HU1.out
      clear hU
      go_wp2_with fail
      go_loopw [9, 11] (fun pv i wr => ∃ k P : Nat, k ≤ m ∧ i = .int .i64 k ∧ pv = .int .i64 P ∧ Hid (P = U + (encP (ss.take k)).length) ∧ Hid (Below w4.heap.size w4 wr)) (fun _ i _ => m - (intOf i).toNat)
      case atStart => exact ⟨0, U, Nat.zero_le _, rfl, rfl, by show U = _; simp [encP], HB.out⟩
      case round =>
        obtain ⟨k, P, hk, rfl, rfl, HP, HB2⟩ := hrel
        by_cases hlt2 : k < m
        · obtain ⟨b, off, e, hlb, hc⟩ := (RP.out.below HB2.out) (by omega)
          subst e
          have hck := (hc k hlt2).trans (St_at ss k (by rw [HL.out]; exact hlt2))
          have hsk := HS1.out k hlt2
          have hcut := enc_cut L ss k (by rw [HL.out]; exact hlt2)
          have hcut2 := enc_cut2 L ss k (by rw [HL.out]; exact hlt2)
          have htk : encP (ss.take (k + 1)) = encP (ss.take k) ++ (uv (nm ss k).size ++ bytes (nm ss k)) := encP_take ss k (by rw [HL.out]; exact hlt2)
          obtain ⟨s, hsd⟩ : ∃ s, nm ss k = s := ⟨_, rfl⟩
          rw [hsd] at hck hsk hcut hcut2 htk
          have hp1 : (L ++ (uv ss.length ++ encP (ss.take k))).length = P := by
            rw [HP.out, HU.out, List.length_append, List.length_append, HLL.out, HL.out]; omega
          have hlen : N = P + (uv s.size).length + s.size + (encP (ss.drop (k + 1))).length := by
            have h0 : (L ++ enc ss).length = N := by rw [List.length_append, HLL.out, HNE.out]
            rw [hcut, List.length_append, List.length_append, hp1, List.length_append, bytes_len] at h0
            omega
          have HCut : Hid (L ++ enc ss = (L ++ (uv ss.length ++ encP (ss.take k))) ++ uv s.size ++ (bytes s ++ encP (ss.drop (k + 1)))) := hcut
          have HCut2 : Hid (L ++ enc ss = (L ++ (uv ss.length ++ encP (ss.take k)) ++ uv s.size) ++ bytes s ++ encP (ss.drop (k + 1))) := hcut2
          have HTk : Hid (encP (ss.take (k + 1)) = encP (ss.take k) ++ (uv s.size ++ bytes s)) := htk
          have HP1 : Hid ((L ++ (uv ss.length ++ encP (ss.take k))).length = P) := hp1
          have hf : P + (uv s.size).length + s.size ≤ N := by omega
          have HF : Hid (P + (uv s.size).length + s.size ≤ N) := hf
          clear hc hsd hcut hcut2 htk hp1 hlen hf
          go_wp2_with fail
          refine (read13 bo oo N cf P s.size wr (by omega) (by omega) (by have := HF.out; omega) ?_).mono ?_
          · intro j hj
            rw [cells.out wr HB2.out (P + j) (by have := HF.out; omega), getD_mid HCut.out P HP1.out j hj]
          rintro e w' ⟨rfl, rfl⟩
          obtain ⟨P2, hP2⟩ : ∃ P2, P2 = P + (uv s.size).length := ⟨_, rfl⟩
          rw [← hP2]
          have HP2 : Hid (P2 = P + (uv s.size).length) := hP2
          have hP2N : P2 + s.size ≤ N := by rw [HP2.out]; exact HF.out
          clear hP2
          go_wp2_with fail
          go_loopw [14] (fun i wr => ∃ j : Nat, j ≤ s.size ∧ i = .int .i64 j ∧ Hid (Below w4.heap.size w4 wr)) (fun i _ => s.size - (intOf i).toNat)
          case atStart => exact ⟨0, Nat.zero_le _, rfl, HB2.out⟩
          case round =>
            obtain ⟨j, hj, rfl, HB3⟩ := hrel
            by_cases hlt3 : j < s.size
            · have hcf := cells.out wr HB3.out (P2 + j) (by omega)
              rw [getD_mid HCut2.out P2 (by rw [List.length_append, HP1.out, HP2.out]) j (by rw [bytes_len]; exact hlt3)] at hcf
              have hidx := idx_str s j hlt3
              have hi1 : (j : Int) < (s.size : Int) := by omega
              have hi2 : ((P2 + j : Nat) : Int) < (N : Int) := by omega
              go_wp2_with fail
              go_quiet (fail)
              go_wp2_with fail
              go_roundw
              case rel => exact ⟨j + 1, by omega, by go_num, below_drew HB3.out _⟩
              case measure => simp [intOf]; omega
            · go_wp2_with fail
              go_roundw
              case rel => exact ⟨k + 1, P2 + s.size, by omega, by go_num, by go_num, by show _ = _; rw [HTk.out, HP2.out, HP.out, List.length_append, List.length_append, bytes_len]; omega, HB3.out⟩
              case measure => simp [intOf]; omega
        · have hkm : k = m := by omega
          have hfin : P = N := by
            rw [HP.out, HU.out, HNE.out, hkm]
            unfold enc
            rw [List.take_of_length_le (by rw [HL.out]; exact Nat.le_refl _), List.length_append, HL.out]
            omega
          have HFin : Hid (P = N) := hfin
          clear hfin
          go_wp2_with fail
          go_ret
          refine ⟨?_, BB.out.trans (below_smaller HB2.out hs4)⟩
          exact congrArg (fun b => Ending.returned (.bool b)) (decide_eq_true (by rw [HFin.out]))
end Go.Proofs.Qxb6605893a
