/-
  FnAppendPeersLengthAndPrefixFree: the walk (function 5).
-/
import Derived.Test.Qxb6605893aPrep
namespace Go.Proofs.Qxb6605893a
open Go.RowKit
set_option linter.unusedVariables false
set_option linter.unusedSimpArgs false

theorem uvlenq (y q : Nat) (hq : q = (uv y).length) (hy : y < 2097152) (w : World) : Calls Try.prog 15 #[.int .u64 y] w fun e w' => e = .returned (.int .i64 (q : Int)) ∧ w' = w :=
  (uvlen15 y w hy).mono fun e w' ⟨h1, h2⟩ => ⟨by rw [h1, hq], h2.symm⟩
theorem peers_nil {w : World} {B m pc : Nat} {pa : Option Addr} {ss : List ByteArray} (hu : w.ownsRow B 9 1 (.slice pa m pc) m (St ss)) (hl : ss.length = m) : Peers w pa m ss (.slice none 0 0) :=
  peers_of hu hl (fun k h => by cases h)

set_option maxRecDepth 20000 in
set_option maxHeartbeats 4000000 in
theorem law5 (a : Option Addr) (n c : Nat) (pa : Option Addr) (m pc : Nat) (L : List Int) (ss : List ByteArray) (w : World) (hn : n ≤ maxLen) (hm : m ≤ maxLen) (hL : L.length = n) (hl : ss.length = m)
    (hs : ∀ j, j < m → (nm ss j).size ≤ maxLen) (ra : RowIn w a n (U8 L)) (rp : RowIn w pa m (St ss)) :
    Calls Try.prog 5 #[.slice a n c, .slice pa m pc] w fun e w' => e = .returned (.bool true) ∧ Below w.heap.size w w' := by
  have HRA : Hid (RowIn w a n (U8 L)) := ra
  have HRP : Hid (RowIn w pa m (St ss)) := rp
  have HLL : Hid (L.length = n) := hL
  have HL : Hid (ss.length = m) := hl
  have HN : Hid (n ≤ maxLen) := hn
  have HM : Hid (m ≤ maxLen) := hm
  have HS : Hid (∀ j, j < m → (nm ss j).size ≤ maxLen) := hs
  clear ra rp hL hl hn hm hs
  go_enter Try.func5, Try.ntmps5
  go_wp2_with fail
  refine (bytes14 a n c pa m pc ss w HN.out HM.out HL.out HS.out HRP.out).mono ?_
  rintro e w' ⟨⟨bb, rfl, hbb⟩, rfl⟩
  have HBB : Hid (bb = true → Good n m ss) := hbb
  clear hbb
  cases bb
  · go_wp2_with fail
    go_ret
    exact ⟨rfl, Below.refl _ _⟩
  have hg : Good n m ss := HBB.out rfl
  have hn1 : n ≤ 1048576 := hg.1
  have HS1 : Hid (∀ j, j < m → (nm ss j).size ≤ 1048576) := hg.2
  clear HBB hg
  go_wp2_with fail
  refine (size9 a n c pa m pc ss w hn1 HM.out HL.out HS1.out HRP.out).mono ?_
  rintro e w' ⟨⟨z, rfl, hz⟩, rfl⟩
  have HZ : Hid (z ≤ 1048576 → Few m) := hz
  clear hz
  by_cases hz1 : 1048576 < z
  · go_wp2_with fail
    go_ret
    exact ⟨rfl, Below.refl _ _⟩
  have hm1 : m ≤ 65536 := HZ.out (by omega)
  clear HZ
  go_wp2_with fail
  refine (clone10 a n c (U8 L) w HRA.out (by rw [List.length_map]; exact HLL.out) (ints_oneCell .u8 L) hn1).mono ?_
  rintro e w1 ⟨vb, rfl, ho1, hb1⟩
  obtain ⟨ab, cb, rfl, rab⟩ := rowIn_of ho1
  have O1 : Hid (w1.ownsRow w.heap.size 5 1 (.slice ab n cb) n (U8 L)) := ho1
  have B1 : Hid (Below w.heap.size w w1) := hb1
  have RAB : Hid (RowIn w1 ab n (U8 L)) := rab
  clear ho1 hb1 rab
  go_wp2_with fail
  refine (clone11 pa m pc (St ss) w1 (HRP.out.below B1.out) (by rw [List.length_map]; exact HL.out) (by intro u hu; obtain ⟨s, _, rfl⟩ := List.mem_map.1 hu; rfl) (by omega)).mono ?_
  rintro e w2 ⟨vp, rfl, ho2, hb2⟩
  obtain ⟨ap, cp, rfl, rap⟩ := rowIn_of ho2
  have O2 : Hid (w2.ownsRow w1.heap.size 9 1 (.slice ap m cp) m (St ss)) := ho2
  have B2 : Hid (Below w1.heap.size w1 w2) := hb2
  clear ho2 hb2 rap
  go_wp2_with fail
  refine (clone10 ab n cb (U8 L) w2 (RAB.out.below B2.out) (by rw [List.length_map]; exact HLL.out) (ints_oneCell .u8 L) hn1).mono ?_
  rintro e w3 ⟨vo, rfl, ho3, hb3⟩
  obtain ⟨ao, co, rfl, rao⟩ := rowIn_of ho3
  have O3 : Hid (w3.ownsRow w2.heap.size 5 1 (.slice ao n co) n (U8 L)) := ho3
  have B3 : Hid (Below w2.heap.size w2 w3) := hb3
  clear ho3 hb3 rao
  have HEL := enc_len ss (by rw [HL.out]; exact HS1.out) (by rw [HL.out]; exact hm1)
  obtain ⟨E, hE⟩ : ∃ E, E = (enc ss).length := ⟨_, rfl⟩
  rw [← hE] at HEL
  obtain ⟨hE1, hE2⟩ := HEL
  have HE : Hid (E = (enc ss).length) := hE
  have HEP : Hid (∀ k, k ≤ m → (encP (ss.take k)).length ≤ k * 1048579) := fun k hk => encP_len ss k (by rw [HL.out]; exact HS1.out) (by rw [HL.out]; exact hk)
  have RP3 : Hid (RowIn w3 ap m (St ss)) := rowIn_slice (own_below O2.out B3.out)
  have huv := uv_len m
  obtain ⟨q, hq⟩ : ∃ q, q = (uv m).length := ⟨_, rfl⟩
  rw [← hq] at huv
  obtain ⟨hq1, hq2⟩ := huv
  have HQ : Hid (q = (uv m).length) := hq
  clear hE hq
  go_wp2_with fail
  refine (uvlenq m q HQ.out (by omega) w3).mono ?_
  rintro e w' ⟨rfl, rfl⟩
  go_wp2_with fail
  go_loopw [6, 7] (fun t i wr => ∃ k T : Nat, k ≤ m ∧ i = .int .i64 k ∧ t = .int .i64 T ∧ Hid (T = n + q + (encP (ss.take k)).length) ∧ Hid (Below w'.heap.size w' wr)) (fun _ i _ => m - (intOf i).toNat)
  case atStart => exact ⟨0, n + q, Nat.zero_le _, rfl, by go_num, by show n + q = _; simp [encP], Below.refl _ _⟩
  case round =>
    obtain ⟨k, T, hk, rfl, rfl, HT, HB⟩ := hrel
    have hT : T ≤ 100000000000 := by have h1 := HT.out; have h2 := HEP.out k hk; omega
    by_cases hlt : k < m
    · obtain ⟨b, off, e, hlb, hc⟩ := (RP3.out.below HB.out) (by omega)
      subst e
      have hck := (hc k hlt).trans (St_at ss k (by rw [HL.out]; exact hlt))
      have hsk := HS1.out k hlt
      have htk : encP (ss.take (k + 1)) = encP (ss.take k) ++ (uv (nm ss k).size ++ bytes (nm ss k)) := encP_take ss k (by rw [HL.out]; exact hlt)
      obtain ⟨s, hsd⟩ : ∃ s, nm ss k = s := ⟨_, rfl⟩
      rw [hsd] at hck hsk htk
      have hus := uv_len s.size
      obtain ⟨r, hr⟩ : ∃ r, r = (uv s.size).length := ⟨_, rfl⟩
      rw [← hr] at hus
      obtain ⟨hr1, hr2⟩ := hus
      have HR : Hid (r = (uv s.size).length) := hr
      have HTk : Hid (encP (ss.take (k + 1)) = encP (ss.take k) ++ (uv s.size ++ bytes s)) := htk
      have hi1 : (k : Int) < (m : Int) := by omega
      have hss : s.size < 2097152 := by omega
      clear hc hsd htk hr
      go_wp2_with fail
      go_quiet (first | (go_at_call 15; refine Calls.quiet_of_same (uvlenq s.size r HR.out hss _)))
      go_wp2_with fail
      go_roundw
      case rel => exact ⟨k + 1, T + (r + s.size), by omega, by go_num, by go_num, by show _ = _; rw [HTk.out, HT.out, HR.out, List.length_append, List.length_append, bytes_len]; omega, below_drew HB.out _⟩
      case measure => simp [intOf]; omega
    · have hkm : k = m := by omega
      have hTE : T = n + E := by
        rw [HT.out, HE.out, HQ.out, hkm]
        unfold enc
        rw [List.take_of_length_le (by rw [HL.out]; exact Nat.le_refl _), List.length_append, HL.out]
        omega
      have B4 : Hid (Below w2.heap.size w2 wr) := B3.out.trans (below_smaller HB.out B3.out.size)
      have O4 : Hid (wr.ownsRow w2.heap.size 5 1 (.slice ao n co) n (U8 L)) := own_below O3.out HB.out
      have HTE : Hid (T = n + E) := hTE
      have hT1 : n ≤ T := by omega
      have hT2 : (T : Int) - (n : Int) = (E : Int) := by omega
      clear hTE hkm
      go_wp2_with fail
      refine (zpeers12 (R := fun v' w' => w'.ownsRow w.heap.size 5 1 v' (n + (enc ss).length) (U8 (L ++ enc ss)) ∧ App wr w' (.slice ab n cb) v') ?_).mono ?_
      · obtain ⟨q1, q2, q3⟩ := prep HL.out O1.out B1.out O2.out B2.out B4.out
        exact peers17 (.slice ab n cb) n L ap m cp ss w.heap.size wr hn1 hm1 HL.out (by rw [HL.out]; exact HS1.out) q3 q1 q2
      rintro e w4 ⟨v', rfl, ho4, happ⟩
      rw [← HE.out, ← HTE.out] at ho4
      obtain ⟨af, cf, rfl, raf⟩ := rowIn_of ho4
      obtain ⟨o5, o6, hb6⟩ := after O1.out B1.out O2.out B2.out O4.out B4.out happ
      have A4 : Hid (w4.ownsRow w.heap.size 5 1 (.slice af T cf) T (U8 (L ++ enc ss))) := ho4
      have A5 : Hid (w4.ownsRow w2.heap.size 5 1 (.slice ao n co) n (U8 L)) := o5
      have A6 : Hid (w4.ownsRow w1.heap.size 9 1 (.slice ap m cp) m (St ss)) := o6
      have BB : Hid (Below w.heap.size w w4) := hb6
      have hs4 : w.heap.size ≤ w4.heap.size := hb6.size
      clear ho4 happ raf o5 o6 hb6
      go_wp2_with fail
      refine (zpeers12 (R := fun v' w' => w'.ownsRow w4.heap.size 5 1 v' (0 + (enc ss).length) (U8 ([] ++ enc ss)) ∧ App w4 w' (.slice none 0 0) v') ?_).mono ?_
      · exact peers17 (.slice none 0 0) 0 [] ap m cp ss w4.heap.size w4 (by omega) hm1 HL.out (by rw [HL.out]; exact HS1.out) (Nat.le_refl _) (World.ownsRow_nil _ _ _ _) (peers_nil A6.out HL.out)
      rintro e w5 ⟨v', rfl, ho7, happ⟩
      rw [← HE.out, Nat.zero_add, List.nil_append] at ho7
      obtain ⟨al, cl, rfl, ral⟩ := rowIn_of ho7
      have RF : Hid (RowIn w5 af T (U8 (L ++ enc ss))) := rowIn_slice (happ.keeps A4.out (fun k h => by cases h))
      have RO : Hid (RowIn w5 ao n (U8 L)) := rowIn_slice (happ.keeps A5.out (fun k h => by cases h))
      have BC : Hid (Below w.heap.size w w5) := happ.below BB.out hs4 (fun k h => by cases h)
      have hs5 : w.heap.size ≤ w5.heap.size := Nat.le_trans hs4 happ.size
      have RL : Hid (RowIn w5 al E (U8 (enc ss))) := ral
      clear ho7 happ ral A4 A5 A6 O1 B1 O2 B2 O3 B3 O4 B4 RP3 RAB HRA HRP
      go_wp2_with fail
      go_loopw [10] (fun i wr => ∃ k : Nat, k ≤ n ∧ i = .int .i64 k ∧ Hid (Below w5.heap.size w5 wr)) (fun i _ => n - (intOf i).toNat)
      case atStart => exact ⟨0, Nat.zero_le _, rfl, Below.refl _ _⟩
      case round =>
        obtain ⟨k, hk, rfl, HB⟩ := hrel
        by_cases hlt : k < n
        · obtain ⟨b, off, e, hlb, hc⟩ := (RO.out.below HB.out) (by omega)
          subst e
          obtain ⟨bf, of, e, hlf, hcf⟩ := (RF.out.below HB.out) (by omega)
          subst e
          have hck := (hc k hlt).trans (U8_at L k (by rw [HLL.out]; exact hlt))
          have hcfk := (hcf k (by omega)).trans (U8_at (L ++ enc ss) k (by rw [List.length_append, HLL.out]; omega))
          have e1 : (L ++ enc ss).getD k 0 = L.getD k 0 := by
            have := getD_mid (LL := L ++ enc ss) (pre := []) (mid := L) (post := enc ss) rfl 0 rfl k (by rw [HLL.out]; exact hlt)
            rwa [Nat.zero_add] at this
          rw [e1] at hcfk
          have hi1 : (k : Int) < (n : Int) := by omega
          have hi2 : (k : Int) < (T : Int) := by omega
          clear hc hcf e1
          go_wp2_with fail
          go_quiet (fail)
          go_wp2_with fail
          go_roundw
          case rel => exact ⟨k + 1, by omega, by go_num, below_drew HB.out _⟩
          case measure => simp [intOf]; omega
        · go_wp2_with fail
          go_loopw [11] (fun i wr => ∃ k : Nat, k ≤ E ∧ i = .int .i64 k ∧ Hid (Below w5.heap.size w5 wr)) (fun i _ => E - (intOf i).toNat)
          case atStart => exact ⟨0, Nat.zero_le _, rfl, HB.out⟩
          case round =>
            obtain ⟨k, hk, rfl, HB⟩ := hrel
            by_cases hlt : k < E
            · obtain ⟨b, off, e, hlb, hc⟩ := (RL.out.below HB.out) (by omega)
              subst e
              obtain ⟨bf, of, e, hlf, hcf⟩ := (RF.out.below HB.out) (by omega)
              subst e
              have hte := HTE.out
              have hck := (hc k hlt).trans (U8_at (enc ss) k (by rw [← HE.out]; exact hlt))
              have hcfk := (hcf (n + k) (by omega)).trans (U8_at (L ++ enc ss) (n + k) (by rw [List.length_append, HLL.out, ← HE.out]; omega))
              have e1 : (L ++ enc ss).getD (n + k) 0 = (enc ss).getD k 0 :=
                getD_mid (LL := L ++ enc ss) (pre := L) (mid := enc ss) (post := []) (List.append_nil _).symm n HLL.out k (by rw [← HE.out]; exact hlt)
              rw [e1] at hcfk
              have hi1 : (k : Int) < (E : Int) := by omega
              have hi2 : ((n + k : Nat) : Int) < (T : Int) := by omega
              clear hc hcf e1 hte
              go_wp2_with fail
              go_quiet (fail)
              go_wp2_with fail
              go_roundw
              case rel => exact ⟨k + 1, by omega, by go_num, below_drew HB.out _⟩
              case measure => simp [intOf]; omega
            · go_wp2_with fail
              go_ret
              exact ⟨rfl, BC.out.trans (below_smaller HB.out hs5)⟩
end Go.Proofs.Qxb6605893a
