/-
  THE WALK of FnDrawStep.
-/
import Derived.Test.Qxb6604560aClone
import Derived.Test.Qxb6604560aNew
import Derived.Test.Qxb6604560aDraw
import Derived.Test.Qxb6604560aSame
import Derived.Test.Qxb6604560aEq
namespace Go.Proofs.Qxb6604560a
open Go.RowKit

theorem clone_ex (b off n cap : Nat) (xs : List Int) (w : World) (hl : xs.length = n) (hn : n ≤ 1048576) (hc : ∀ j, j < n → w.cell? ⟨b, off + j, none⟩ = some (.int .u64 (xs.getD j 0))) :
    Calls Try.prog 6 #[.slice (some ⟨b, off, none⟩) n cap] w fun e w' => ∃ g, e = .returned (.slice (some ⟨g, 0, none⟩) n n) ∧ w.heap.size ≤ g ∧ Row w' g xs ∧ Kept (fun _ => False) w w' :=
  (clone_any b off n cap xs w hl hn hc).mono fun _ _ ⟨h1, h2, h3⟩ => ⟨_, h1, Nat.le_refl _, h2, h3⟩
theorem clone_row (a n cap : Nat) (xs : List Int) (w : World) (hl : xs.length = n) (hn : n ≤ 1048576) (hr : Row w a xs) :
    Calls Try.prog 6 #[.slice (some ⟨a, 0, none⟩) n cap] w fun e w' => ∃ g, e = .returned (.slice (some ⟨g, 0, none⟩) n n) ∧ w.heap.size ≤ g ∧ Row w' g xs ∧ Kept (fun _ => False) w w' :=
  clone_ex a 0 n cap xs w hl hn (fun j hj => by rw [Nat.zero_add]; exact hr.cell j (by omega))
theorem new_ex (st : List Int) (nx : Int) (w : World) (hl : st.length = 312) :
    Calls Try.prog 7 #[.agg (words st), .int .i64 nx] w fun e w' => ∃ g, e = .returned (.pointer (some ⟨g, 0, none⟩)) ∧ w.heap.size ≤ g ∧ Gen w' g st nx ∧ Kept (fun _ => False) w w' :=
  (new_any st nx w hl).mono fun _ _ ⟨h1, h2, h3⟩ => ⟨_, h1, by omega, h2, h3⟩

/-- The box of the state. -/
def Box (w : World) (B : Nat) (st : List Int) : Prop := w.heap[B]? = some (.cells (words st) 24 (0, 0))
theorem Kept.box {S : Nat → Prop} {w w' : World} (h : Kept S w w') {B : Nat} {st : List Int} (r : Box w B st) (hs : ¬ S B) : Box w' B st := by
  have hlt : B < w.heap.size := by
    by_cases hlt : B < w.heap.size
    · exact hlt
    · have : w.heap[B]? = none := by simp; omega
      rw [Box, this] at r; cases r
  unfold Box; rw [h.block B hlt hs]; exact r
theorem Box.drewN {w : World} {B : Nat} {st : List Int} (h : Box w B st) (n : Nat) : Box (w.drewN n) B st := h

theorem size24_of (st : List Int) (hl : st.length = 312) : (Try.prog.info? 24).map (·.size) = some (words st).size := by
  rw [words_size, hl]; exact Try.size24

set_option maxRecDepth 100000 in
theorem zz5_in (ao : Option Addr) (n cap : Nat) (k nx : Int) (st : List Int) (w : World) (h : (n : Int) ≤ 1048576) :
    Calls Try.prog 5 #[.slice ao n cap, .int .i64 k, .agg (words st), .int .i64 nx] w fun e w' => e = .returned (.bool true) ∧ Kept (fun _ => False) w w' := by
  go_enter Try.func5, Try.ntmps5
  go_wp2
  go_ret
  exact ⟨rfl, (Kept.refl _ _).alloc _⟩
set_option maxRecDepth 100000 in
theorem zz5_out (ao : Option Addr) (n cap : Nat) (k nx : Int) (st : List Int) (w : World) (h : ¬ (n : Int) ≤ 1048576) :
    Calls Try.prog 5 #[.slice ao n cap, .int .i64 k, .agg (words st), .int .i64 nx] w fun e w' => e = .returned (.bool false) ∧ Kept (fun _ => False) w w' := by
  go_enter Try.func5, Try.ntmps5
  go_wp2
  go_ret
  exact ⟨rfl, (Kept.refl _ _).alloc _⟩

theorem draw_next (xs st : List Int) (nx i n : Nat) (hl : xs.length = n) (hi : i < n) : ∃ q : Nat, uV (dSt st nx i) (dNx nx i) % ((n : Int) - (i : Int)) = (q : Int) ∧ i + q < n ∧ dXs xs st nx (i + 1) = swapL (dXs xs st nx i) i (i + q) := by
  have hd := dJ_lt n (uV (dSt st nx i) (dNx nx i)) i hi
  have h0 := Int.emod_nonneg (uV (dSt st nx i) (dNx nx i)) (show (n : Int) - (i : Int) ≠ 0 by omega)
  refine ⟨(uV (dSt st nx i) (dNx nx i) % ((n : Int) - (i : Int))).toNat, by omega, hd.2, ?_⟩
  show swapL (dXs xs st nx i) i (dJ xs.length (uV (dSt st nx i) (dNx nx i)) i) = _
  rw [hl]; rfl

set_option maxRecDepth 100000 in
set_option maxHeartbeats 2000000 in
theorem step_main (b off n cap K NX : Nat) (xs st : List Int) (w : World) (hl : xs.length = n) (h8 : 8 * (n : Int) ≤ 1046080) (hK : K < n) (hK6 : K ≤ 65536) (hst : st.length = 312) (hNX : NX ≤ 312)
    (hc : ∀ j, j < n → w.cell? ⟨b, off + j, none⟩ = some (.int .u64 (xs.getD j 0))) :
    Calls Try.prog 3 #[.slice (some ⟨b, off, none⟩) n cap, .int .i64 K, .agg (words st), .int .i64 NX] w fun e w' => e = .returned (.bool true) ∧ Below w.heap.size w w' := by
  have HL := hide hl
  have HS := hide hst
  have HC := hide hc
  have HZ := hide (size24_of st hst)
  have hn : n ≤ 1048576 := by omega
  have hnI : (n : Int) ≤ 1048576 := by omega
  clear hl hst hc
  go_enter Try.func3, Try.ntmps3
  go_wp2_with (refine wpList_load_row rfl 24 _ rfl w.heap.size rfl 24 (words st) (0, 0) _ (heap_alloc_new _ _) Try.underlying24 rfl HZ.out ?_)
  refine (zz5_in _ _ _ _ _ _ _ hnI).mono ?_
  rintro e w1 ⟨rfl, hk1⟩
  have HX1 : Hid (Box w1 w.heap.size st) := hk1.box (show Box (w.alloc (.cells (words st) 24)) w.heap.size st from heap_alloc_new _ _) (fun h => h)
  have HK1 : Hid (Kept (fun _ => False) w w1) := ((Kept.refl _ _).alloc _).trans hk1
  clear hk1
  have HB1 : Hid (w.heap.size < w1.heap.size) := by
    have := HX1.out
    by_cases hlt : w.heap.size < w1.heap.size
    · exact hlt
    · have h0 : w1.heap[w.heap.size]? = none := by simp; omega
      rw [Box, h0] at this; cases this
  obtain ⟨B, hB⟩ : ∃ B, B = w.heap.size := ⟨_, rfl⟩
  rw [← hB] at HX1 HB1 ⊢
  have HBe := hide hB
  clear hB
  go_wp2_with fail
  refine (clone_ex b off n cap xs _ HL.out hn (fun j hj => HK1.out.cell (HC.out j hj) (fun h => h))).mono ?_
  rintro e w2 ⟨g0, rfl, hg0, hr0, hk2⟩
  have R0_2 := hide hr0
  have X2 : Hid (Box w2 B st) := hk2.box HX1.out (fun h => h)
  have K2 : Hid (Kept (fun _ => False) w w2) := HK1.out.trans hk2
  have S2 : Hid (w1.heap.size ≤ g0 ∧ g0 < w2.heap.size) := ⟨hg0, hr0.lt⟩
  clear hg0 hr0 hk2
  go_wp2_with fail
  refine (clone_row g0 n n xs _ HL.out hn R0_2.out).mono ?_
  rintro e w3 ⟨g1, rfl, hg1, hr1, hk3⟩
  have R1_3 := hide hr1
  have R0_3 : Hid (Row w3 g0 xs) := hk3.row R0_2.out (fun h => h)
  have X3 : Hid (Box w3 B st) := hk3.box X2.out (fun h => h)
  have K3 : Hid (Kept (fun _ => False) w w3) := K2.out.trans hk3
  have S3 : Hid (w2.heap.size ≤ g1 ∧ g1 < w3.heap.size) := ⟨hg1, hr1.lt⟩
  clear hg1 hr1 hk3
  go_wp2_with fail
  refine (clone_row g0 n n xs _ HL.out hn R0_3.out).mono ?_
  rintro e w4 ⟨g2, rfl, hg2, hr2, hk4⟩
  have R2_4 := hide hr2
  have R1_4 : Hid (Row w4 g1 xs) := hk4.row R1_3.out (fun h => h)
  have R0_4 : Hid (Row w4 g0 xs) := hk4.row R0_3.out (fun h => h)
  have X4 : Hid (Box w4 B st) := hk4.box X3.out (fun h => h)
  have K4 : Hid (Kept (fun _ => False) w w4) := K3.out.trans hk4
  have S4 : Hid (w3.heap.size ≤ g2 ∧ g2 < w4.heap.size) := ⟨hg2, hr2.lt⟩
  clear hg2 hr2 hk4
  go_wp2_with (refine wpList_load_row rfl 24 _ rfl B rfl 24 (words st) (0, 0) _ X4.out Try.underlying24 rfl HZ.out ?_)
  refine (new_ex st _ _ HS.out).mono ?_
  rintro e w5 ⟨g3, rfl, hg3, hq3, hk5⟩
  have Q3_5 := hide hq3
  have R2_5 : Hid (Row w5 g2 xs) := hk5.row R2_4.out (fun h => h)
  have R1_5 : Hid (Row w5 g1 xs) := hk5.row R1_4.out (fun h => h)
  have R0_5 : Hid (Row w5 g0 xs) := hk5.row R0_4.out (fun h => h)
  have X5 : Hid (Box w5 B st) := hk5.box X4.out (fun h => h)
  have K5 : Hid (Kept (fun _ => False) w w5) := K4.out.trans hk5
  have S5 : Hid (w4.heap.size ≤ g3 ∧ g3 < w5.heap.size) := ⟨hg3, hq3.lt⟩
  clear hg3 hq3 hk5
  go_wp2_with (refine wpList_load_row rfl 24 _ rfl B rfl 24 (words st) (0, 0) _ X5.out Try.underlying24 rfl HZ.out ?_)
  refine (new_ex st _ _ HS.out).mono ?_
  rintro e w6 ⟨g4, rfl, hg4, hq4, hk6⟩
  have Q4_6 := hide hq4
  have Q3_6 : Hid (Gen w6 g3 st NX) := hk6.gen Q3_5.out (fun h => h)
  have R2_6 : Hid (Row w6 g2 xs) := hk6.row R2_5.out (fun h => h)
  have R1_6 : Hid (Row w6 g1 xs) := hk6.row R1_5.out (fun h => h)
  have R0_6 : Hid (Row w6 g0 xs) := hk6.row R0_5.out (fun h => h)
  have X6 : Hid (Box w6 B st) := hk6.box X5.out (fun h => h)
  have K6 : Hid (Kept (fun _ => False) w w6) := K5.out.trans hk6
  have S6 : Hid (w5.heap.size ≤ g4 ∧ g4 < w6.heap.size) := ⟨hg4, hq4.lt⟩
  clear hg4 hq4 hk6
  -- the blocks are apart
  have ORD : Hid (w.heap.size = B ∧ B < g0 ∧ g0 < g1 ∧ g1 < g2 ∧ g2 < g3 ∧ g3 < g4) := by
    have h1 := HB1.out; have h2 := S2.out; have h3 := S3.out; have h4 := S4.out; have h5 := S5.out; have h6 := S6.out; have h0 := HBe.out
    show _ ∧ _
    omega
  clear HX1 HK1 R0_2 X2 K2 S2 R1_3 R0_3 X3 K3 S3 R2_4 R1_4 R0_4 X4 K4 S4 Q3_5 R2_5 R1_5 R0_5 X5 K5 S5 S6 HB1
  go_wp2_with fail
  refine (zzDraw_any g1 g3 n K xs st NX _ HL.out hn (by omega) R1_6.out HS.out hNX Q3_6.out (by have := ORD.out; omega)).mono ?_
  rintro e w7 ⟨rfl, hr1, hq3, hk7⟩
  have R1_7 := hide hr1
  have Q3_7 := hide hq3
  have Q4_7 : Hid (Gen w7 g4 st NX) := hk7.gen Q4_6.out (by have := ORD.out; omega)
  have R2_7 : Hid (Row w7 g2 xs) := hk7.row R2_6.out (by have := ORD.out; omega)
  have R0_7 : Hid (Row w7 g0 xs) := hk7.row R0_6.out (by have := ORD.out; omega)
  have X7 : Hid (Box w7 B st) := hk7.box X6.out (by have := ORD.out; omega)
  have K7 : Hid (Kept (fun _ => False) w w7) := K6.out.old hk7 (fun i hi => by have := ORD.out; omega)
  clear hr1 hq3 hk7 Q4_6 Q3_6 R2_6 R1_6 R0_6 X6 K6
  go_wp2_with fail
  refine (zzDraw_any g2 g4 n (K + 1) xs st NX _ HL.out hn (by omega) R2_7.out HS.out hNX Q4_7.out (by have := ORD.out; omega)).mono ?_
  rintro e w8 ⟨rfl, hr2, hq4, hk8⟩
  have R2_8 := hide hr2
  have Q4_8 := hide hq4
  have Q3_8 : Hid (Gen w8 g3 (dSt st NX K) (dNx NX K)) := hk8.gen Q3_7.out (by have := ORD.out; omega)
  have R1_8 : Hid (Row w8 g1 (dXs xs st NX K)) := hk8.row R1_7.out (by have := ORD.out; omega)
  have R0_8 : Hid (Row w8 g0 xs) := hk8.row R0_7.out (by have := ORD.out; omega)
  have X8 : Hid (Box w8 B st) := hk8.box X7.out (by have := ORD.out; omega)
  have K8 : Hid (Kept (fun _ => False) w w8) := K7.out.old hk8 (fun i hi => by have := ORD.out; omega)
  clear hr2 hq4 hk8 Q4_7 Q3_7 R2_7 R1_7 R0_7 X7 K7
  have p1 : ((K : Int) != (K : Int)) = false := neF rfl
  have p2 : (((K + 1 : Nat) : Int) != (K : Int) + 1) = false := neF (by omega)
  by_cases hK0 : K = 0
  all_goals first
    | (have hz : K = 0 := hK0
       have p3 : ((K : Int) == 0) = true := eqT (by omega)
       have e1 : dSt st NX K = st := by rw [hK0]; rfl
       have e2 : dNx NX K = NX := by rw [hK0]; rfl
       have e3 : dXs xs st NX K = xs := by rw [hK0]; rfl
       have E1 := hide e1
       have E2 := hide e2
       have E3 := hide e3
       clear hK0 hz e1 e2 e3
       go_wp2_with (refine wpList_load_row rfl 24 _ rfl B rfl 24 (words st) (0, 0) _ X8.out Try.underlying24 rfl HZ.out ?_)
       refine (new_ex st _ _ HS.out).mono ?_
       rintro e u8 ⟨g5, rfl, hg5, hq5, hk5⟩
       have T3 : Hid (Gen u8 g3 (dSt st NX K) (dNx NX K)) := hk5.gen Q3_8.out (fun h => h)
       have T4 : Hid (Gen u8 g4 (dSt st NX (K + 1)) (dNx NX (K + 1))) := hk5.gen Q4_8.out (fun h => h)
       have T5 : Hid (Gen u8 g5 st NX) := hq5
       have U2 : Hid (Row u8 g2 (dXs xs st NX (K + 1))) := hk5.row R2_8.out (fun h => h)
       have U1 : Hid (Row u8 g1 (dXs xs st NX K)) := hk5.row R1_8.out (fun h => h)
       have U0 : Hid (Row u8 g0 xs) := hk5.row R0_8.out (fun h => h)
       have UK : Hid (Kept (fun _ => False) w u8) := K8.out.trans hk5
       have T3' : Hid (Gen u8 g3 st NX) := by have := T3.out; rw [E1.out, E2.out] at this; exact this
       have U1' : Hid (Row u8 g1 xs) := by have := U1.out; rw [E3.out] at this; exact this
       clear hg5 hq5 hk5 Q4_8 Q3_8 R2_8 R1_8 R0_8 X8 K8 E1 E2 E3
       go_wp2_with fail
       refine wp_region_quiet_lit (by kernel_rfl) (by kernel_rfl) ?_
       repeat (go_big_quiet_step (fail))
       go_big_quiet_want
       refine quiet_load_gen _ rfl g3 rfl _ _ HS.out T3'.out ?_
       go_simp
       go_big_quiet_on
       repeat (go_big_quiet_step (fail))
       go_big_quiet_want
       refine quiet_load_gen _ rfl g5 rfl _ _ HS.out T5.out ?_
       go_simp
       go_big_quiet_on
       repeat (go_big_quiet_step (fail))
       go_big_quiet_want
       refine quiet_neq_gen _ _ _ rfl _ _ HS.out rfl rfl ?_
       go_simp
       go_big_quiet_on
       repeat (go_big_quiet_step ((go_at_call 9; exact Calls.quiet_of (same_any g1 g0 n n n xs _ HL.out hn (U1'.out.drewN _) (U0.out.drewN _)))))
       refine wpQuiet_nil ?_
       intro _ hw'
       obtain ⟨nq, hw''⟩ := hw'
       subst hw''
       have Q3_8 : Hid (Gen (u8.drewN nq) g3 (dSt st NX K) (dNx NX K)) := T3.out.drewN nq
       have Q4_8 : Hid (Gen (u8.drewN nq) g4 (dSt st NX (K + 1)) (dNx NX (K + 1))) := T4.out.drewN nq
       have R2_8 : Hid (Row (u8.drewN nq) g2 (dXs xs st NX (K + 1))) := U2.out.drewN nq
       have R1_8 : Hid (Row (u8.drewN nq) g1 (dXs xs st NX K)) := U1.out.drewN nq
       have K8 : Hid (Kept (fun _ => False) w (u8.drewN nq)) := UK.out.drewN nq
       clear T3 T4 T5 U2 U1 U0 UK T3' U1'
       clear w8
       obtain ⟨w8, hw8⟩ : ∃ w8, w8 = u8.drewN nq := ⟨_, rfl⟩
       rw [← hw8] at Q3_8 Q4_8 R2_8 R1_8 K8 ⊢
       clear hw8)
    | (have p3 : ((K : Int) == 0) = false := eqF (by omega)
       clear hK0 R0_8 X8)
  all_goals
    go_wp2_with fail
    refine (uint_any g3 _ _ _ (dSt_length st NX HS.out K) (dNx_le NX hNX K) Q3_8.out).mono ?_
    rintro e w9 ⟨rfl, hq3, hk9⟩
    have Q3_9 : Hid (Gen w9 g3 (dSt st NX (K + 1)) (dNx NX (K + 1))) := hq3
    have Q4_9 : Hid (Gen w9 g4 (dSt st NX (K + 1)) (dNx NX (K + 1))) := hk9.gen Q4_8.out (by have := ORD.out; omega)
    have R2_9 : Hid (Row w9 g2 (dXs xs st NX (K + 1))) := hk9.row R2_8.out (by have := ORD.out; omega)
    have R1_9 : Hid (Row w9 g1 (dXs xs st NX K)) := hk9.row R1_8.out (by have := ORD.out; omega)
    have K9 : Hid (Kept (fun _ => False) w w9) := K8.out.old hk9 (fun i hi => by have := ORD.out; omega)
    have DL : Hid ((dSt st NX (K + 1)).length = 312) := dSt_length st NX HS.out (K + 1)
    clear hq3 hk9 Q4_8 Q3_8 R2_8 R1_8 K8
    go_wp2_with fail
    refine wp_region_quiet_lit (by kernel_rfl) (by kernel_rfl) ?_
    repeat (go_big_quiet_step (fail))
    go_big_quiet_want
    refine quiet_load_gen _ rfl g3 rfl _ _ DL.out Q3_9.out ?_
    go_simp
    go_big_quiet_on
    repeat (go_big_quiet_step (fail))
    go_big_quiet_want
    refine quiet_load_gen _ rfl g4 rfl _ _ DL.out Q4_9.out ?_
    go_simp
    go_big_quiet_on
    repeat (go_big_quiet_step (fail))
    go_big_quiet_want
    refine quiet_neq_gen _ _ _ rfl _ _ DL.out rfl rfl ?_
    go_simp
    go_big_quiet_on
    refine wpQuiet_nil ?_
    intro _ hw'
    obtain ⟨nq, hw''⟩ := hw'
    subst hw''
    have hv0 := uV_pos (dSt st NX K) (dNx NX K)
    have hv1 := uV_max (dSt st NX K) (dNx NX K)
    have hly : (dXs xs st NX K).length = n := by rw [dXs_length]; exact HL.out
    obtain ⟨q, hq, hqn, hstep⟩ := draw_next xs st NX K n HL.out hK
    obtain ⟨v, hv⟩ : ∃ v, v = uV (dSt st NX K) (dNx NX K) := ⟨_, rfl⟩
    rw [← hv] at hv0 hv1 hq ⊢
    clear hv
    obtain ⟨ys, hys⟩ : ∃ ys, ys = dXs xs st NX K := ⟨_, rfl⟩
    rw [← hys] at hly hstep R1_9
    rw [hstep] at R2_9
    have HY := hide hly
    have R1 : Hid (Row (w9.drewN nq) g1 ys) := R1_9.out.drewN nq
    have R2 : Hid (Row (w9.drewN nq) g2 (swapL ys K (K + q))) := R2_9.out.drewN nq
    have KK : Hid (Kept (fun _ => False) w (w9.drewN nq)) := K9.out.drewN nq
    clear hys hly hstep R1_9 R2_9 K9 Q3_9 Q4_9 DL
    obtain ⟨W, hW⟩ : ∃ W, W = w9.drewN nq := ⟨_, rfl⟩
    rw [← hW] at R1 R2 KK ⊢
    clear hW
    go_wp2
    go_loop [19] (fun i => ∃ m : Nat, m ≤ n ∧ i = .int .i64 m) (fun i => n - (intOf i).toNat)
    case atStart => exact ⟨0, Nat.zero_le _, rfl⟩
    case round =>
      obtain ⟨m, hm, rfl⟩ := hrel
      by_cases hlt : m < n
      · have sg := swapL_get ys K (K + q) m (by rw [HY.out]; exact hK) (by rw [HY.out]; exact hqn)
        have cz := R2.out.cell m (by rw [swapL_length, HY.out]; exact hlt)
        have cm := R1.out.cell m (by rw [HY.out]; exact hlt)
        have ck := R1.out.cell K (by rw [HY.out]; exact hK)
        have cj := R1.out.cell (K + q) (by rw [HY.out]; exact hqn)
        rw [sg] at cz
        clear sg
        by_cases hmK : m = K
        · rw [if_pos hmK] at cz
          rw [hmK] at cm
          rw [← hmK] at cm
          have q1 : ((m : Int) == (K : Int)) = true := eqT (by omega)
          generalize ys.getD K 0 = yk at cm ck
          generalize ys.getD (K + q) 0 = yj at cz cj
          clear hmK cm
          have cm : W.cell? ⟨g1, m, none⟩ = some (.int .u64 yk) := by
            have e : m = K := by have := eq_of_beq q1; omega
            rw [e]; exact ck
          go_wp2
          go_round
          case rel => exact ⟨m + 1, by omega, by go_num⟩
          case measure => simp [intOf]; omega
        · rw [if_neg hmK] at cz
          have q1 : ((m : Int) == (K : Int)) = false := eqF (by omega)
          by_cases hmj : m = K + q
          · rw [if_pos hmj] at cz
            have q2 : ((m : Int) == (K : Int) + (q : Int)) = true := eqT (by omega)
            generalize ys.getD K 0 = yk at cz ck
            generalize ys.getD m 0 = ym at cm
            clear hmK hmj cj
            go_wp2
            go_round
            case rel => exact ⟨m + 1, by omega, by go_num⟩
            case measure => simp [intOf]; omega
          · rw [if_neg hmj] at cz
            have q2 : ((m : Int) == (K : Int) + (q : Int)) = false := eqF (by omega)
            generalize ys.getD m 0 = ym at cz cm
            clear hmK hmj cj ck
            go_wp2
            go_round
            case rel => exact ⟨m + 1, by omega, by go_num⟩
            case measure => simp [intOf]; omega
      · go_wp2
        go_loopw [21] (fun i wr => ∃ m N : Nat, m ≤ K ∧ i = .int .i64 m ∧ wr = W.drewN N) (fun i _ => K - (intOf i).toNat)
        case atStart => exact ⟨0, 0, Nat.zero_le _, rfl, rfl⟩
        case round =>
          obtain ⟨m, N, hm, rfl, rfl⟩ := hrel
          by_cases hlt : m < K
          · have cm := R1.out.cell m (by rw [HY.out]; omega)
            generalize ys.getD m 0 = ym at cm
            have hmn : m < n := by omega
            go_wp2
            go_quiet (fail)
            go_wp2
            go_roundw
            case rel => exact ⟨m + 1, _, by omega, by go_num, rfl⟩
            case measure => simp [intOf]; omega
          · go_wp2
            go_loopw [22] (fun i wr => ∃ m M : Nat, m ≤ K + 1 ∧ i = .int .i64 m ∧ wr = W.drewN M) (fun i _ => K + 1 - (intOf i).toNat)
            case atStart => exact ⟨0, N, Nat.zero_le _, rfl, rfl⟩
            case round =>
              obtain ⟨m, M, hm, rfl, rfl⟩ := hrel
              by_cases hlt : m ≤ K
              · have cm := R2.out.cell m (by rw [swapL_length, HY.out]; omega)
                generalize (swapL ys K (K + q)).getD m 0 = ym at cm
                have hmn : m < n := by omega
                have hmK : m < K + 1 := by omega
                go_wp2
                go_quiet (fail)
                go_wp2
                go_roundw
                case rel => exact ⟨m + 1, _, by omega, by go_num, rfl⟩
                case measure => simp [intOf]; omega
              · go_wp2
                go_ret
                exact ⟨rfl, (KK.out.drewN _).below (fun k h => h.elim)⟩
end Go.Proofs.Qxb6604560a
