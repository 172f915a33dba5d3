/-
  THE WALK of FnDrawPermutesAndAdvances.
-/
import Derived.Test.Qxb6604560aPerm
namespace Go.Proofs.Qxb6604560a
open Go.RowKit

theorem first_pick (xs st : List Int) (nx m n : Nat) (hl : xs.length = n) (h0 : 0 < m) (hm : m ≤ n) : ∃ q : Nat, uV st nx % (n : Int) = (q : Int) ∧ q < n ∧ (dXs xs st nx m).getD 0 0 = xs.getD q 0 := by
  obtain ⟨k, rfl⟩ : ∃ k, m = k + 1 := ⟨m - 1, by omega⟩
  have hd := dJ_lt n (uV st nx) 0 (by omega)
  have h1 := Int.emod_nonneg (uV st nx) (show (n : Int) ≠ 0 by omega)
  have h2 := Int.emod_lt_of_pos (uV st nx) (show 0 < (n : Int) by omega)
  have h3 : dJ n (uV st nx) 0 = (uV st nx % (n : Int)).toNat := by unfold dJ; simp
  refine ⟨(uV st nx % (n : Int)).toNat, by omega, by omega, ?_⟩
  rw [dXs_first xs st nx k (by omega), hl, h3]

set_option maxRecDepth 100000 in
set_option maxHeartbeats 4000000 in
theorem perm_main (ao : Option Addr) (n cap K NX : Nat) (xs st : List Int) (w : World) (hl : xs.length = n) (h8 : 8 * (n : Int) ≤ 1046080) (hK : K ≤ n) (hK6 : K ≤ 65536) (hst : st.length = 312) (hNX : NX ≤ 312)
    (hcl : ∀ w1, Kept (fun _ => False) w w1 → Calls Try.prog 6 #[.slice ao n cap] w1 fun e w' => ∃ g, e = .returned (.slice (some ⟨g, 0, none⟩) n n) ∧ w1.heap.size ≤ g ∧ Row w' g xs ∧ Kept (fun _ => False) w1 w') :
    Calls Try.prog 4 #[.slice ao n cap, .int .i64 K, .agg (words st), .int .i64 NX] w fun e w' => e = .returned (.bool true) ∧ Below w.heap.size w w' := by
  have HL := hide hl
  have HS := hide hst
  have HC := hide hcl
  have HZ := hide (size24_of st hst)
  have hn : n ≤ 1048576 := by omega
  have hnI : (n : Int) ≤ 1048576 := by omega
  clear hl hst hcl
  go_enter Try.func4, Try.ntmps4
  go_wp2_with (refine wpList_load_row rfl 24 _ rfl w.heap.size rfl 24 (words st) (0, 0) _ (heap_alloc_new _ _) Try.underlying24 rfl HZ.out ?_)
  refine (zz11_in _ _ _ _ _ _ _ hnI).mono ?_
  rintro e w1 ⟨rfl, hk1⟩
  have HX1 : Hid (Box w1 w.heap.size st) := hk1.box (show Box (w.alloc (.cells (words st) 24)) w.heap.size st from heap_alloc_new _ _) (fun h => h)
  have HK1 : Hid (Kept (fun _ => False) w w1) := ((Kept.refl _ _).alloc _).trans hk1
  clear hk1
  have HB1 : Hid (w.heap.size < w1.heap.size) := by
    have := HX1.out
    by_cases hlt : w.heap.size < w1.heap.size
    · exact hlt
    · have h0 : w1.heap[w.heap.size]? = none := by simp; omega
      rw [Box, h0] at this; cases this
  obtain ⟨B, hB⟩ : ∃ B, B = w.heap.size := ⟨_, rfl⟩
  rw [← hB] at HX1 HB1 ⊢
  have HBe := hide hB
  clear hB
  go_wp2_with fail
  refine (HC.out _ HK1.out).mono ?_
  rintro e w2 ⟨g0, rfl, hg0, hr0, hk2⟩
  have R0_2 := hide hr0
  have X2 : Hid (Box w2 B st) := hk2.box HX1.out (fun h => h)
  have K2 : Hid (Kept (fun _ => False) w w2) := HK1.out.trans hk2
  have S2 : Hid (w1.heap.size ≤ g0 ∧ g0 < w2.heap.size) := ⟨hg0, hr0.lt⟩
  clear hg0 hr0 hk2
  go_wp2_with fail
  refine (clone_row g0 n n xs _ HL.out hn R0_2.out).mono ?_
  rintro e w3 ⟨g1, rfl, hg1, hr1, hk3⟩
  have R1_3 := hide hr1
  have R0_3 : Hid (Row w3 g0 xs) := hk3.row R0_2.out (fun h => h)
  have X3 : Hid (Box w3 B st) := hk3.box X2.out (fun h => h)
  have K3 : Hid (Kept (fun _ => False) w w3) := K2.out.trans hk3
  have S3 : Hid (w2.heap.size ≤ g1 ∧ g1 < w3.heap.size) := ⟨hg1, hr1.lt⟩
  clear hg1 hr1 hk3
  go_wp2_with (refine wpList_load_row rfl 24 _ rfl B rfl 24 (words st) (0, 0) _ X3.out Try.underlying24 rfl HZ.out ?_)
  refine (new_ex st _ _ HS.out).mono ?_
  rintro e w5 ⟨g3, rfl, hg3, hq3, hk5⟩
  have Q3_5 := hide hq3
  have R1_5 : Hid (Row w5 g1 xs) := hk5.row R1_3.out (fun h => h)
  have R0_5 : Hid (Row w5 g0 xs) := hk5.row R0_3.out (fun h => h)
  have X5 : Hid (Box w5 B st) := hk5.box X3.out (fun h => h)
  have K5 : Hid (Kept (fun _ => False) w w5) := K3.out.trans hk5
  have S5 : Hid (w3.heap.size ≤ g3 ∧ g3 < w5.heap.size) := ⟨hg3, hq3.lt⟩
  clear hg3 hq3 hk5
  go_wp2_with (refine wpList_load_row rfl 24 _ rfl B rfl 24 (words st) (0, 0) _ X5.out Try.underlying24 rfl HZ.out ?_)
  refine (new_ex st _ _ HS.out).mono ?_
  rintro e w6 ⟨g4, rfl, hg4, hq4, hk6⟩
  have Q4_6 := hide hq4
  have Q3_6 : Hid (Gen w6 g3 st NX) := hk6.gen Q3_5.out (fun h => h)
  have R1_6 : Hid (Row w6 g1 xs) := hk6.row R1_5.out (fun h => h)
  have R0_6 : Hid (Row w6 g0 xs) := hk6.row R0_5.out (fun h => h)
  have K6 : Hid (Kept (fun _ => False) w w6) := K5.out.trans hk6
  have S6 : Hid (w5.heap.size ≤ g4 ∧ g4 < w6.heap.size) := ⟨hg4, hq4.lt⟩
  clear hg4 hq4 hk6
  have ORD : Hid (w.heap.size = B ∧ B < g0 ∧ g0 < g1 ∧ g1 < g3 ∧ g3 < g4) := by
    have h1 := HB1.out; have h2 := S2.out; have h3 := S3.out; have h5 := S5.out; have h6 := S6.out; have h0 := HBe.out
    show _ ∧ _
    omega
  clear HX1 HK1 R0_2 X2 K2 S2 R1_3 R0_3 X3 K3 S3 Q3_5 R1_5 R0_5 X5 K5 S5 S6 HB1
  go_wp2_with fail
  refine (zzDraw_any g1 g3 n K xs st NX _ HL.out hn hK R1_6.out HS.out hNX Q3_6.out (by have := ORD.out; omega)).mono ?_
  rintro e w7 ⟨rfl, hr1, hq3, hk7⟩
  have R1_7 := hide hr1
  have Q3_7 := hide hq3
  have Q4_7 : Hid (Gen w7 g4 st NX) := hk7.gen Q4_6.out (by have := ORD.out; omega)
  have R0_7 : Hid (Row w7 g0 xs) := hk7.row R0_6.out (by have := ORD.out; omega)
  have K7 : Hid (Kept (fun _ => False) w w7) := K6.out.old hk7 (fun i hi => by have := ORD.out; omega)
  clear hr1 hq3 hk7 Q4_6 Q3_6 R1_6 R0_6 K6
  have p1 : ((K : Int) != (K : Int)) = false := neF rfl
  go_wp2
  go_loopw [14, 15] (fun f i wr => ∃ m : Nat, m ≤ K ∧ f = .int .u64 (firstV st NX m) ∧ i = .int .i64 m ∧ Gen wr g4 (dSt st NX m) (dNx NX m) ∧ Kept (fun b => b = g4) w7 wr) (fun _ i _ => K - (intOf i).toNat)
  case atStart => exact ⟨0, Nat.zero_le _, rfl, rfl, Q4_7.out, Kept.refl _ _⟩
  case round =>
    obtain ⟨m, hm, rfl, rfl, hq4, hk8⟩ := hrel
    by_cases hlt : m < K
    · have HQ := hide hq4
      have HK8 := hide hk8
      clear hq4 hk8
      go_wp2_with fail
      refine (uint_any g4 _ _ _ (dSt_length st NX HS.out m) (dNx_le NX hNX m) HQ.out).mono ?_
      rintro e w8 ⟨rfl, hq8, hk8⟩
      have HQ8 : Hid (Gen w8 g4 (dSt st NX (m + 1)) (dNx NX (m + 1))) := hq8
      have HK9 : Hid (Kept (fun b => b = g4) w7 w8) := HK8.out.trans hk8
      clear hq8 hk8
      by_cases hm0 : m = 0
      · have p2 : ((m : Int) == 0) = true := eqT (by omega)
        have hf : firstV st NX (m + 1) = uV (dSt st NX m) (dNx NX m) := by rw [firstV_pos _ _ _ (by omega), hm0]; rfl
        have HF := hide hf
        clear hf hm0
        go_wp2
        go_roundw
        case rel => exact ⟨m + 1, by omega, by rw [HF.out], by go_num, HQ8.out, HK9.out⟩
        case measure => simp [intOf]; omega
      · have p2 : ((m : Int) == 0) = false := eqF (by omega)
        have hf : firstV st NX (m + 1) = firstV st NX m := by rw [firstV_pos _ _ _ (by omega), firstV_pos _ _ _ (by omega)]
        have HF := hide hf
        clear hf hm0
        go_wp2
        go_roundw
        case rel => exact ⟨m + 1, by omega, by rw [HF.out], by go_num, HQ8.out, HK9.out⟩
        case measure => simp [intOf]; omega
    · obtain rfl : m = K := by omega
      have Q4 := hide hq4
      have Q3 : Hid (Gen wr g3 (dSt st NX m) (dNx NX m)) := hk8.gen Q3_7.out (by have := ORD.out; omega)
      have R1 : Hid (Row wr g1 (dXs xs st NX m)) := hk8.row R1_7.out (by have := ORD.out; omega)
      have R0 : Hid (Row wr g0 xs) := hk8.row R0_7.out (by have := ORD.out; omega)
      have KK : Hid (Kept (fun _ => False) w wr) := K7.out.old hk8 (fun i hi => by have := ORD.out; omega)
      have DL : Hid ((dSt st NX m).length = 312) := dSt_length st NX HS.out m
      clear hq4 hk8 Q4_7 Q3_7 R1_7 R0_7 K7 hm
      go_wp2_with fail
      refine wp_region_quiet_lit (by kernel_rfl) (by kernel_rfl) ?_
      repeat (go_big_quiet_step (fail))
      go_big_quiet_want
      refine quiet_load_gen _ rfl g3 rfl _ _ DL.out Q3.out ?_
      go_simp
      go_big_quiet_on
      repeat (go_big_quiet_step (fail))
      go_big_quiet_want
      refine quiet_load_gen _ rfl g4 rfl _ _ DL.out Q4.out ?_
      go_simp
      go_big_quiet_on
      repeat (go_big_quiet_step (fail))
      go_big_quiet_want
      refine quiet_neq_gen _ _ _ rfl _ _ DL.out rfl rfl ?_
      go_simp
      go_big_quiet_on
      refine wpQuiet_nil ?_
      intro _ hw'
      obtain ⟨nq, hw''⟩ := hw'
      subst hw''
      have hly : (dXs xs st NX m).length = n := by rw [dXs_length]; exact HL.out
      have hperm := dXs_perm xs st NX m (by rw [HL.out]; exact hK)
      have hfst : 0 < m → ∃ q : Nat, uV st NX % (n : Int) = (q : Int) ∧ q < n ∧ (dXs xs st NX m).getD 0 0 = xs.getD q 0 := fun h0 => first_pick xs st NX m n HL.out h0 hK
      obtain ⟨ys, hys⟩ : ∃ ys, ys = dXs xs st NX m := ⟨_, rfl⟩
      rw [← hys] at hly hperm hfst R1
      have HY := hide hly
      have HPM := hide hperm
      have R1W : Hid (Row (wr.drewN nq) g1 ys) := R1.out.drewN nq
      have R0W : Hid (Row (wr.drewN nq) g0 xs) := R0.out.drewN nq
      have KW : Hid (Kept (fun _ => False) w (wr.drewN nq)) := KK.out.drewN nq
      clear hys hly hperm R1 R0 KK Q3 Q4 DL
      obtain ⟨W, hW⟩ : ∃ W, W = wr.drewN nq := ⟨_, rfl⟩
      rw [← hW] at R1W R0W KW ⊢
      clear hW
      by_cases hm0 : 0 < m
      all_goals first
        | (obtain ⟨q, hq, hqn, hpick⟩ := hfst hm0
           have c1 := R1W.out.cell 0 (by rw [HY.out]; omega)
           have c0 := R0W.out.cell q (by rw [HL.out]; exact hqn)
           rw [hpick] at c1
           have v0 := uV_pos st NX
           have v1 := uV_max st NX
           have hfv : firstV st NX m = uV st NX := firstV_pos st NX m hm0
           rw [hfv]
           generalize uV st NX = v at hq v0 v1 ⊢
           generalize xs.getD q 0 = x at c0 c1
           have hmI : (0 : Int) < (m : Int) := by omega
           have hnI2 : (0 : Int) < (n : Int) := by omega
           have hpn := neq34_same ⟨g1, 0, none⟩
           clear hpick hfv hfst
           go_wp2
           go_quiet (fail)
           go_wp2
           go_quiet (fail)
           go_wp2
           clear hmI hnI2 c0 c1 v0 v1 hq hqn hpn)
        | (have hmI : ¬ (0 : Int) < (m : Int) := by omega
           clear hfst
           go_wp2
           clear hmI)
      all_goals
        go_loopw [17] (fun i wr => ∃ j N : Nat, j ≤ m ∧ i = .int .i64 j ∧ wr = W.drewN N) (fun i _ => m - (intOf i).toNat)
        case atStart => first | exact ⟨0, _, Nat.zero_le _, rfl, World.drewN_drewN _ _ _⟩ | exact ⟨0, 0, Nat.zero_le _, rfl, rfl⟩
        case round =>
          obtain ⟨j, N, hj, rfl, rfl⟩ := hrel
          by_cases hlt : j < m
          · have cm := R1W.out.cell j (by rw [HY.out]; omega)
            generalize ys.getD j 0 = ym at cm
            have hmn : j < n := by omega
            go_wp2
            go_quiet (fail)
            go_wp2
            go_roundw
            case rel => exact ⟨j + 1, _, by omega, by go_num, rfl⟩
            case measure => simp [intOf]; omega
          · have S0 : Hid (g0 < (W.drewN N).heap.size ∧ g1 < (W.drewN N).heap.size) := ⟨(R0W.out.drewN N).lt, (R1W.out.drewN N).lt⟩
            have KN : Hid (Kept (fun _ => False) w (W.drewN N)) := KW.out.drewN N
            go_wp2_with fail
            refine (clone_row g0 n n xs _ HL.out hn (R0W.out.drewN N)).mono ?_
            rintro e w11 ⟨g5, rfl, hg5, hr5, hk5⟩
            have A5 := hide hr5
            have A1 : Hid (Row w11 g1 ys) := hk5.row (R1W.out.drewN N) (fun h => h)
            have KA : Hid (Kept (fun _ => False) w w11) := KN.out.trans hk5
            have S5 : Hid (g1 < g5 ∧ w.heap.size ≤ g5) := ⟨by have := S0.out; omega, by have := KN.out.size; omega⟩
            clear hg5 hr5 hk5
            go_wp2_with fail
            refine (sort_any g5 n xs _ HL.out hn A5.out).mono ?_
            rintro e w12 ⟨g6, L1, rfl, hr6, hs1, hp1, hg6, hk6⟩
            have B6 := hide hr6
            have B1 : Hid (Row w12 g1 ys) := hk6.row A1.out (by have := S5.out; omega)
            have KB : Hid (Kept (fun _ => False) w w12) := KA.out.old hk6 (fun i hi => by have := S5.out; omega)
            have HS1 := hide hs1
            have HP1 := hide hp1
            clear hr6 hs1 hp1 hg6 hk6 A5 A1
            go_wp2_with fail
            refine (clone_row g1 n n ys _ HY.out hn B1.out).mono ?_
            rintro e w13 ⟨g7, rfl, hg7, hr7, hk7⟩
            have C7 := hide hr7
            have C6 : Hid (Row w13 g6 L1) := hk7.row B6.out (fun h => h)
            have KC : Hid (Kept (fun _ => False) w w13) := KB.out.trans hk7
            have S7 : Hid (g6 < g7 ∧ w.heap.size ≤ g7) := ⟨by have := B6.out.lt; omega, by have := KB.out.size; omega⟩
            clear hg7 hr7 hk7 B6 B1
            go_wp2_with fail
            refine (sort_any g7 n ys _ HY.out hn C7.out).mono ?_
            rintro e w14 ⟨g8, L2, rfl, hr8, hs2, hp2, hg8, hk8⟩
            have D6 : Hid (Row w14 g6 L1) := hk8.row C6.out (by have := S7.out; omega)
            have KD : Hid (Kept (fun _ => False) w w14) := KC.out.old hk8 (fun i hi => by have := S7.out; omega)
            have hone : L1 = L2 := sorted_one HS1.out hs2 (HP1.out.trans (HPM.out.symm.trans hp2.symm))
            have hLl : L1.length = n := by rw [HP1.out.length_eq]; exact HL.out
            rw [← hone] at hr8
            have D8 := hide hr8
            have HLl := hide hLl
            clear hr8 hs2 hp2 hg8 hk8 hone hLl C6 C7
            go_wp2_with fail
            refine (same_any g6 g8 n n n L1 _ HLl.out hn D6.out D8.out).mono ?_
            rintro e w15 ⟨rfl, M, rfl⟩
            go_wp2
            go_ret
            exact ⟨rfl, (KD.out.drewN M).below (fun k h => h.elim)⟩
end Go.Proofs.Qxb6604560a
