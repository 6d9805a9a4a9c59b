/-
  FnTakeScriptKeepsPoolSumAndBounds (function 3): her walk.
-/
import Derived.Test.Qxb6605728aState
import Derived.Deep.DeepCutAuto
namespace Go.Proofs.Qxb6605728a
open Go.RowKit Go.Maps
set_option linter.unusedVariables false
set_option linter.unusedSimpArgs false

theorem pool_start (lim : Int) (w : World) : Pool ((w.alloc (.map #[] 0)).alloc (.cells #[.int .i64 lim, .int .i32 0, .int .u32 0, .int .i64 0, .map (some w.heap.size)] 48)) (w.heap.size + 1) w.heap.size 0 (.map []) lim 0 := by
  refine ⟨?_, ?_, ?_, ?_, ?_, ?_, by omega, (World.ownsMap_made w _ _ _).alloc _⟩ <;> simp [go_sem]

theorem St.start (lim : Int) (w : World) (h : 0 ≤ lim) : St w ((w.alloc (.map #[] 0)).alloc (.cells #[.int .i64 lim, .int .i32 0, .int .u32 0, .int .i64 0, .map (some w.heap.size)] 48)) (.slice none 0 0) (.slice none 0 0) 0 lim 0 0 0 (.map []) [] [] :=
  ⟨rfl, Nat.le_refl _, Nat.le_refl _, World.ownsRow_nil _ _ _ _, World.ownsRow_nil _ _ _ _, .inl rfl, pool_start lim w, Ledger.start lim h, by simp,
    ((Below.refl _ _).alloc (Nat.le_refl _) _).alloc (by simp) _, by simp⟩

set_option maxRecDepth 20000 in
set_option maxHeartbeats 4000000 in
theorem main3 (a0 : Int) (a : Option Addr) (len cap : Nat) (a' : Option Addr) (len' cap' : Nat) (ss : List ByteArray) (zs : List Int) (w : World) (h1 : len ≤ maxLen) (h2 : len' ≤ maxLen)
    (hS : Strs w a len ss) (hm : ∀ j, j < len → (ss.getD j ByteArray.empty).size ≤ maxLen) (hI : Ints w a' len' zs)
    (h00 : 0 ≤ a0) (h01 : a0 ≤ 2305843009213693952) :
    Calls Try.prog 3 #[.int .i64 a0, .slice a len cap, .slice a' len' cap'] w fun e w' => e = .returned (.bool true) ∧ Below w.heap.size w w' := by
  have hmm := @run_makeMap Try.prog
  have HB : Hid (Calls Try.prog 5 #[.int .i64 a0, .slice a len cap, .slice a' len' cap'] w fun e w' => Says (fun _ => True) e ∧ w = w') := bytes5 a0 a len cap a' len' cap' ss w h1 h2 hS hm
  have HC : Hid (Calls Try.prog 6 #[.slice a len cap, .slice a' len' cap', .string ByteArray.empty] w fun e w' => Says (fun b => b = true → len ≤ 1024 ∧ len' ≤ 1024) e ∧ w = w') := size6 a len cap a' len' cap' ss w h1 h2 hS hm
  have HS : Hid (Strs w a len ss) := hS
  have HI : Hid (Ints w a' len' zs) := hI
  have HM : Hid (∀ j, j < len → (ss.getD j ByteArray.empty).size ≤ maxLen) := hm
  clear hS hI hm
  unfold maxLen at h1 h2
  go_enter Try.func3, Try.ntmps3
  go_wp2_with fail
  refine HB.out.mono ?_
  rintro e w' ⟨⟨bb, rfl, -⟩, rfl⟩
  cases bb
  · go_wp2_with fail
    go_ret
    exact ⟨rfl, Below.refl _ _⟩
  go_wp2_with fail
  refine HC.out.mono ?_
  rintro e w' ⟨⟨bb, rfl, hbb⟩, rfl⟩
  cases bb
  · go_wp2_with fail
    go_ret
    exact ⟨rfl, Below.refl _ _⟩
  obtain ⟨hl1, hl2⟩ := hbb rfl
  clear hbb HB HC
  go_wp2_with fail
  go_loop [7] (fun i => ∃ k : Nat, k ≤ len' ∧ i = .int .i64 k ∧ Hid (∀ j, j < k → 0 ≤ zs.getD j 0 ∧ zs.getD j 0 ≤ 2305843009213693952)) (fun i => len' - (intOf i).toNat)
  case atStart => exact ⟨0, Nat.zero_le _, rfl, fun j hj => by omega⟩
  case round =>
    obtain ⟨k, hk, rfl, hz⟩ := hrel
    by_cases hlt : k < len'
    · obtain ⟨b, off, rfl, hc⟩ := HI.out (by omega)
      have hck := hc k hlt
      obtain ⟨z, hzk⟩ : ∃ z, zs.getD k 0 = z := ⟨_, rfl⟩
      rw [hzk] at hck
      have HK : Hid (zs.getD k 0 = z) := hzk
      clear hzk hc
      by_cases hz1 : 0 ≤ z ∧ z ≤ 2305843009213693952
      · obtain ⟨hz0, hz1⟩ := hz1
        go_wp2_with fail
        go_round
        case rel => exact ⟨k + 1, by omega, by go_num, fun j hj => by
          by_cases e : j = k
          · subst e; rw [HK.out]; exact ⟨hz0, hz1⟩
          · exact hz j (by omega)⟩
        case measure => simp [intOf]; omega
      · go_wp2_with fail
        all_goals
          go_ret
          exact ⟨rfl, Below.refl _ _⟩
    · have hke : k = len' := by omega
      have HZ : Hid (∀ j, j < len' → 0 ≤ zs.getD j 0 ∧ zs.getD j 0 ≤ 2305843009213693952) := hke ▸ hz
      clear hz hke hk
      go_wp2_with (first
        | (go_at_call 7; refine (min7 len len' _ (by unfold maxLen; omega) (by unfold maxLen; omega)).mono ?_; rintro e w' ⟨st, rfl, hs1, hs2, rfl⟩)
        | (go_at_call 8; refine (new_pool _ _ _ _).mono ?_; rintro e w' ⟨rfl, rfl⟩))
      go_loopw [10, 11, 12, 13] (fun vn va tot s wr => ∃ (k n m : Nat) (T : Int) (D : DataW Unit) (ns : List ByteArray) (am : List Int), k ≤ st ∧ s = .int .i64 k ∧ tot = .int .i64 T ∧ St w wr vn va k a0 T n m D ns am)
        (fun _ _ _ s _ => st - (intOf s).toNat)
      case atStart => exact ⟨0, 0, 0, 0, _, _, _, Nat.zero_le _, rfl, rfl, St.start a0 w h00⟩
      case round =>
        obtain ⟨i, n, m, T, D, ns, am, hi, rfl, rfl, hst⟩ := hrel
        by_cases hlt2 : i < st
        · obtain ⟨b, off, rfl, hc⟩ := HS.out (by omega)
          obtain ⟨b', off', rfl, hc'⟩ := HI.out (by omega)
          have hci := (hst.below.cell (p := ⟨b, off + i, none⟩) (World.block_lt_of_cell? w _ (hc i (by omega)))).trans (hc i (by omega))
          have hci' := (hst.below.cell (p := ⟨b', off' + i, none⟩) (World.block_lt_of_cell? w _ (hc' i (by omega)))).trans (hc' i (by omega))
          have hms := HM.out i (by omega)
          have hxs := HZ.out i (by omega)
          obtain ⟨h, hhd⟩ : ∃ h, ss.getD i ByteArray.empty = h := ⟨_, rfl⟩
          obtain ⟨x, hxd⟩ : ∃ x, zs.getD i 0 = x := ⟨_, rfl⟩
          rw [hhd] at hci hms
          rw [hxd] at hci' hxs
          clear hc hc' hhd hxd
          obtain ⟨hx0, hx1⟩ := hxs
          obtain ⟨an, cn, rfl, -⟩ := row_shape hst.names
          obtain ⟨aa, ca, rfl, -⟩ := row_shape hst.amts
          have hnk := hst.nk
          have hmk := hst.ml
          have HL : Hid (Calls Try.prog 9 #[.slice an n cn, .int .i64 n, .string h] wr fun e w' => (∃ r : Int, e = .returned (.int .i64 r) ∧ ((r = -1 ∧ ∀ i, i < n → ns.getD i ByteArray.empty ≠ h) ∨ ∃ i : Nat, i < n ∧ r = i ∧ ns.getD i ByteArray.empty = h)) ∧ wr = w') := last9 an n cn h ns wr (by omega) hst.strs
          have HST : Hid (St w wr (.slice an n cn) (.slice aa n ca) i a0 T n m D ns am) := hst
          clear hst
          go_upto_if 85 with (go_at_call 9; refine HL.out.mono ?_; rintro e w' ⟨⟨r, rfl, hr⟩, rfl⟩; have HR : Hid ((r = -1 ∧ ∀ i, i < n → ns.getD i ByteArray.empty ≠ h) ∨ ∃ i : Nat, i < n ∧ r = i ∧ ns.getD i ByteArray.empty = h) := hr; clear hr)
          obtain ⟨v, hv, hv0, hv1, hvr⟩ := HST.out.share h00 HR.out
          have hT1 := HST.out.led.le
          have hT0 := (HST.out.led.sums 0).2.2
          have HV : Hid (D.atKey (key h) (I64 0) = I64 v) := hv
          have HVR : Hid ((r = -1 ∧ v = 0 ∧ h ∉ ns) ∨ ∃ i : Nat, i < n ∧ r = i ∧ nm ns i = h ∧ am.getD i 0 = v) := hvr
          clear hv hvr HR HL
          go_cut [17] (fun v17 wc => v17 = .int .i64 v ∧ wr = wc)
          case first =>
            rcases HVR.out with ⟨rfl, rfl, -⟩ | ⟨j, hj, rfl, -, hjv⟩
            · go_wp2_with fail
              go_meet
              case rel => exact ⟨rfl, rfl⟩
            · obtain ⟨ga, oa, rfl, hca⟩ := HST.out.ints (by omega)
              have hcj := hca j hj
              rw [hjv] at hcj
              clear hjv hca
              go_wp2_with fail
              go_meet
              case rel => exact ⟨rfl, rfl⟩
          case rest =>
            obtain ⟨rfl, rfl⟩ := hcut
            go_upto_region 26 with fail
            go_cut [18] (fun v18 wc => v18 = .bool (wantB T v x a0) ∧ wr = wc)
            case first =>
              by_cases c1 : T + x ≤ a0
              · by_cases c2 : v + x ≤ a0 / 2
                · go_wp2_with fail
                  go_meet
                  case rel => exact ⟨by simp [wantB] <;> omega, rfl⟩
                · go_wp2_with fail
                  go_meet
                  case rel => exact ⟨by simp [wantB] <;> omega, rfl⟩
              · go_wp2_with fail
                go_meet
                case rel => exact ⟨by simp [wantB] <;> omega, rfl⟩
            case rest =>
              obtain ⟨rfl, rfl⟩ := hcut
              have HT : Hid (Calls Try.prog 10 #[.pointer (some ⟨w.heap.size + 1, 0, none⟩), .string h, .int .i64 x] wr fun e w' => e = .returned (.bool (wantB T v x a0)) ∧
                  (wantB T v x a0 = true ∧ Pool w' (w.heap.size + 1) w.heap.size (m + 1) (D.put (key h) (I64 (v + x))) a0 (T + x) ∨ wantB T v x a0 = false ∧ Pool w' (w.heap.size + 1) w.heap.size m D a0 T) ∧ Touch (w.heap.size + 1) w.heap.size wr w') :=
                take_step (w.heap.size + 1) w.heap.size m D a0 T v x h wr HST.out.pool hms HV.out (by unfold maxLen; omega) hT0 (by omega) hx0 hx1 hv0 (by omega) h00 h01
              have hwant : ∃ q, wantB T v x a0 = q := ⟨_, rfl⟩
              obtain ⟨q, hq⟩ := hwant
              have HQ : Hid (wantB T v x a0 = q) := hq
              rw [hq] at HT ⊢
              clear hq
              go_upto_if 109 with (go_at_call 10; refine HT.out.mono ?_; rintro e w' ⟨rfl, hpp, htt⟩; have HPP : Hid (q = true ∧ Pool w' (w.heap.size + 1) w.heap.size (m + 1) (D.put (key h) (I64 (v + x))) a0 (T + x) ∨ q = false ∧ Pool w' (w.heap.size + 1) w.heap.size m D a0 T) := hpp; clear hpp)
              clear HT
              have HTT : Hid (Touch (w.heap.size + 1) w.heap.size wr w') := htt
              clear htt
              go_cut [10, 11, 12] (fun vn va tot wc => ∃ (n' m' : Nat) (T' : Int) (D' : DataW Unit) (ns' : List ByteArray) (am' : List Int), tot = .int .i64 T' ∧ St w wc vn va (i + 1) a0 T' n' m' D' ns' am')
              case first =>
                rcases HPP.out with ⟨rfl, hp⟩ | ⟨rfl, hp⟩
                · have HP : Hid (Pool w' (w.heap.size + 1) w.heap.size (m + 1) (D.put (key h) (I64 (v + x))) a0 (T + x)) := hp
                  have hq : T + x ≤ a0 ∧ v + x ≤ a0 / 2 := by simpa [wantB] using HQ.out
                  obtain ⟨hq1, hq2⟩ := hq
                  clear hp HPP HQ
                  rcases HVR.out with ⟨rfl, rfl, hno⟩ | ⟨j, hj, rfl, hjn, hjv⟩
                  · have HN : Hid (w'.ownsRow (w.heap.size + 2) 9 1 (.slice an n cn) n (ns.map Value.string)) := HTT.out.row HST.out.names (own_ne HST.out.names _ (by omega)) (own_ne HST.out.names _ (by omega))
                    have HA : Hid (w'.ownsRow (w.heap.size + 2) 2 1 (.slice aa n ca) n (am.map (Value.int .i64))) := HTT.out.row HST.out.amts (own_ne HST.out.amts _ (by omega)) (own_ne HST.out.amts _ (by omega))
                    have HSZ : Hid (w.heap.size + 2 ≤ w'.heap.size) := by have := HTT.out.size; have := HST.out.size; exact (by omega : w.heap.size + 2 ≤ w'.heap.size)
                    have hone1 : ∀ u ∈ [Value.string h], u.oneCell' = true := by intro u hu; simp at hu; subst hu; rfl
                    have hone2 : ∀ u ∈ [Value.int .i64 x], u.oneCell' = true := by intro u hu; simp at hu; subst hu; rfl
                    have hb1 : n + 1 ≤ maxLen := by unfold maxLen; omega
                    have hb2 : (n + 1) * 16 ≤ 140737488355328 := by omega
                    have hb3 : (n + 1) * 8 ≤ 140737488355328 := by omega
                    have hb4 : w.heap.size + 2 ≤ (w'.alloc (.cells #[.string h] 9)).heap.size := by have := HSZ.out; simp; omega
                    obtain ⟨i9, hi9, hz9, hy9, hw9⟩ := info_parts Try.info9
                    obtain ⟨i2, hi2, hz2, hy2, hw2⟩ := info_parts Try.info2
                    go_upto_region 34 with (at_builtin; refine wpList_append_own_at _ rfl _ _ 22 rfl (w.heap.size + 2) 9 i9 (.string ByteArray.empty) 1 16 Try.underlying22 hi9 hz9 hy9 hw9 rfl (by decide) (.slice an n cn) n (ns.map Value.string) rfl (HN.out.alloc _) ⟨w'.heap.size, 0, none⟩ 1 1 [.string h] rfl rfl (cell_one_new _ _ _) hone1 hb1 hb2 hb4 ?_; intro vn' w1 hN1 hg1 hni1 hat1)
                    have HN1 : Hid (w1.ownsRow (w.heap.size + 2) 9 1 vn' (n + 1) (ns.map Value.string ++ [.string h])) := hN1
                    have HG1 : Hid ((w'.alloc (.cells #[.string h] 9)).grownBy w1 (Value.slice an n cn).ownBlock) := hg1
                    have HAT1 : Hid (vn'.ownBlock = (Value.slice an n cn).ownBlock ∨ vn'.ownBlock = some (w'.alloc (.cells #[.string h] 9)).heap.size) := hat1
                    have HA1 : Hid (w1.ownsRow (w.heap.size + 2) 2 1 (.slice aa n ca) n (am.map (Value.int .i64))) := (HA.out.alloc _).kept hg1 (apart_symm HST.out.apart)
                    have hb5 : w.heap.size + 2 ≤ (w1.alloc (.cells #[.int .i64 x] 2)).heap.size := by have := HSZ.out; have := hg1.size; simp at this ⊢; omega
                    clear hN1 hg1 hni1 hat1
                    go_wp2_with (at_builtin; refine wpList_append_own_at _ rfl _ _ 23 rfl (w.heap.size + 2) 2 i2 (.int .i64 0) 1 8 Try.underlying23 hi2 hz2 hy2 hw2 rfl (by decide) (.slice aa n ca) n (am.map (Value.int .i64)) rfl (HA1.out.alloc _) ⟨w1.heap.size, 0, none⟩ 1 1 [.int .i64 x] rfl rfl (cell_one_new _ _ _) hone2 hb1 hb3 hb5 ?_; intro va' w2 hA2 hg2 hni2 hat2)
                    have hp0 := HP.out
                    rw [show (0 : Int) + x = x from by omega] at hp0
                    have hst' := HST.out.new (s := h) (x := x) (o1 := .cells #[.string h] 9) (o2 := .cells #[.int .i64 x] 2) hno hms hx0 hq1 (by omega) HTT.out hp0 HN1.out HG1.out HAT1.out (by simp) hA2 hg2 hat2 (by simp)
                    go_meet
                    case rel => exact ⟨_, _, _, _, _, _, rfl, hst'⟩
                  · subst hjn
                    obtain ⟨a1, c1, e1, hg⟩ := row_shape HST.out.amts
                    cases e1
                    obtain ⟨ga, rfl, -⟩ := hg (by omega)
                    clear hg
                    have hA := HTT.out.row HST.out.amts (own_ne HST.out.amts _ (by omega)) (own_ne HST.out.amts _ (by omega))
                    have hcj := hA.cellAt j (by omega)
                    have hfj := hA.frozenAt j
                    clear hA
                    have hlam : j < am.length := by rw [HST.out.led.len, HST.out.len]; exact hj
                    rw [List.getElem?_map, List.getElem?_eq_getElem hlam] at hcj
                    rw [show am[j] = v from by rw [← hjv]; simp [List.getElem?_eq_getElem hlam]] at hcj
                    have hst' := HST.out.found (i := j) hj hx0 hq1 (by rw [hjv]; exact hq2) HTT.out (by rw [hjv]; exact HP.out)
                    rw [hjv] at hst'
                    have HST' := hst'
                    clear hjv hlam
                    simp only [Option.map_some] at hcj
                    have HF : Hid (∃ n' m' D' ns' am', St w (w'.setCell ⟨ga, j, none⟩ (.int .i64 (v + x))) (.slice an n cn) (.slice (some ⟨ga, 0, none⟩) n ca) (i + 1) a0 (T + x) n' m' D' ns' am') := ⟨_, _, _, _, _, hst'⟩
                    clear hst' HST'
                    go_wp2_with fail
                    obtain ⟨n', m', D', ns', am', hf⟩ := HF.out
                    go_meet
                    case rel => exact ⟨n', m', _, D', ns', am', rfl, hf⟩
                · clear HQ
                  have hst' := HST.out.no HTT.out hp
                  clear hp HPP
                  go_wp2_with fail
                  go_meet
                  case rel => exact ⟨_, _, _, _, _, _, rfl, hst'⟩
              case rest =>
                obtain ⟨n', m', T', D', ns', am', rfl, hst⟩ := hcut
                clear HPP HQ HTT HVR HV HST
                obtain ⟨an', cn', rfl, -⟩ := row_shape hst.names
                obtain ⟨aa', ca', rfl, -⟩ := row_shape hst.amts
                have p3 := hst.pool.c3
                have p4 := hst.pool.c4
                have hT1' := hst.led.le
                have hT0' := (hst.led.sums 0).2.2
                have hlenm := hst.lenMap
                have hnk' := hst.nk
                have HST : Hid (St w wc (.slice an' n' cn') (.slice aa' n' ca') (i + 1) a0 T' n' m' D' ns' am') := hst
                clear hst
                go_wp2_with (first
                  | (go_at_call 11; refine (pool_held _ _ _ p3).mono ?_; rintro e w'' ⟨rfl, rfl⟩)
                  | (go_at_call 12; refine (pool_map _ _ _ p4).mono ?_; rintro e w'' ⟨rfl, rfl⟩))
                go_loop [21, 22] (fun sm kk => ∃ j : Nat, j ≤ n' ∧ kk = .int .i64 j ∧ sm = .int .i64 (sumTo am' j)) (fun _ kk => n' - (intOf kk).toNat)
                case atStart => exact ⟨0, Nat.zero_le _, rfl, by rw [sumTo_zero]⟩
                case round =>
                  obtain ⟨j, hj, rfl, rfl⟩ := hrel
                  have hsj := HST.out.led.sums j
                  obtain ⟨hsj0, hsj1, -⟩ := hsj
                  by_cases hjn : j < n'
                  · obtain ⟨gn, on, rfl, hcn⟩ := HST.out.strs (by omega)
                    obtain ⟨ga, oa, rfl, hca⟩ := HST.out.ints (by omega)
                    have hcnj := hcn j hjn
                    have hcaj := hca j hjn
                    have hlk := HST.out.lookMap hjn
                    obtain ⟨hnn0, hnn1⟩ := HST.out.led.nn j (by rw [HST.out.len]; exact hjn)
                    have hss := sumTo_succ am' j (by rw [HST.out.led.len, HST.out.len]; exact hjn)
                    obtain ⟨hsk0, hsk1, -⟩ := HST.out.led.sums (j + 1)
                    obtain ⟨s, hs⟩ : ∃ s, nm ns' j = s := ⟨_, rfl⟩
                    obtain ⟨y, hy⟩ : ∃ y, am'.getD j 0 = y := ⟨_, rfl⟩
                    rw [show ns'.getD j ByteArray.empty = s from hs] at hcnj
                    rw [hs, hy] at hlk
                    rw [hy] at hcaj hnn0 hnn1 hss
                    rw [hss] at hsk0 hsk1
                    have HSS : Hid (sumTo am' (j + 1) = sumTo am' j + y) := hss
                    clear hs hy hcn hca hss
                    go_wp2_with fail
                    go_round
                    case rel => exact ⟨j + 1, by omega, by go_num, by rw [HSS.out]⟩
                    case measure => simp [intOf]; omega
                  · have hje : sumTo am' j = T' := by
                      rw [show j = am'.length from by have := HST.out.led.len; have := HST.out.len; omega, sumTo_all]
                      exact HST.out.led.sum
                    go_wp2_with fail
                    go_roundw
                    case rel => exact ⟨i + 1, n', m', T', D', ns', am', by omega, by go_num, rfl, HST.out⟩
                    case measure => simp [intOf]; omega
        · have HBel : Hid (Below w.heap.size w wr) := hst.below
          clear hst
          go_wp2_with fail
          go_ret
          exact ⟨rfl, HBel.out⟩
end Go.Proofs.Qxb6605728a
