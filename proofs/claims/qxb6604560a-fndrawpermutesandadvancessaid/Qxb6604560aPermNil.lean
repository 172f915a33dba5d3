/-
  THE WALK of FnDrawPermutesAndAdvances at the nil slice.
-/
import Derived.Test.Qxb6604560aPerm
namespace Go.Proofs.Qxb6604560a
open Go.RowKit

theorem draw_nil (g : Nat) (w : World) :
    Calls Try.prog 13 #[.slice none 0 0, .int .i64 0, .pointer (some ⟨g, 0, none⟩)] w fun e w' => e = .returned (.slice none 0 0) ∧ w' = w := by
  go_enter Try.func13, Try.ntmps13
  go_wp2
  refine wp_loop_rounds 1 ?_
  rw [rounds_succ]
  go_wp2
  go_ret
  exact ⟨rfl, rfl⟩
theorem zzDraw_nil (g : Nat) (w : World) :
    Calls Try.prog 8 #[.slice none 0 0, .int .i64 0, .pointer (some ⟨g, 0, none⟩)] w fun e w' => e = .returned (.slice none 0 0) ∧ w' = w := by
  go_enter Try.func8, Try.ntmps8
  go_wp2_with fail
  refine (draw_nil g _).mono ?_
  rintro e w1 ⟨rfl, rfl⟩
  go_wp2
  go_ret
  exact ⟨rfl, rfl⟩

set_option maxRecDepth 100000 in
set_option maxHeartbeats 4000000 in
theorem perm_nil (NX : Nat) (st : List Int) (w : World) (hst : st.length = 312) (hNX : NX ≤ 312) :
    Calls Try.prog 4 #[.slice none 0 0, .int .i64 0, .agg (words st), .int .i64 NX] w fun e w' => e = .returned (.bool true) ∧ Below w.heap.size w w' := by
  have HS := hide hst
  have HZ := hide (size24_of st hst)
  clear hst
  go_enter Try.func4, Try.ntmps4
  go_wp2_with (refine wpList_load_row rfl 24 _ rfl w.heap.size rfl 24 (words st) (0, 0) _ (heap_alloc_new _ _) Try.underlying24 rfl HZ.out ?_)
  refine (zz11_in _ 0 _ _ _ _ _ (by omega)).mono ?_
  rintro e w1 ⟨rfl, hk1⟩
  have X1 : Hid (Box w1 w.heap.size st) := hk1.box (show Box (w.alloc (.cells (words st) 24)) w.heap.size st from heap_alloc_new _ _) (fun h => h)
  have K1 : Hid (Kept (fun _ => False) w w1) := ((Kept.refl _ _).alloc _).trans hk1
  clear hk1
  obtain ⟨B, hB⟩ : ∃ B, B = w.heap.size := ⟨_, rfl⟩
  rw [← hB] at X1 ⊢
  have HBe := hide hB
  clear hB
  go_wp2_with fail
  refine (clone_nil _).mono ?_
  rintro e w2 ⟨rfl, rfl⟩
  go_wp2_with fail
  refine (clone_nil _).mono ?_
  rintro e w3 ⟨rfl, rfl⟩
  go_wp2_with (refine wpList_load_row rfl 24 _ rfl B rfl 24 (words st) (0, 0) _ X1.out Try.underlying24 rfl HZ.out ?_)
  refine (new_ex st _ _ HS.out).mono ?_
  rintro e w5 ⟨g3, rfl, hg3, hq3, hk5⟩
  have Q3_5 := hide hq3
  have X5 : Hid (Box w5 B st) := hk5.box X1.out (fun h => h)
  have K5 : Hid (Kept (fun _ => False) w w5) := K1.out.trans hk5
  clear hg3 hq3 hk5 X1 K1
  go_wp2_with (refine wpList_load_row rfl 24 _ rfl B rfl 24 (words st) (0, 0) _ X5.out Try.underlying24 rfl HZ.out ?_)
  refine (new_ex st _ _ HS.out).mono ?_
  rintro e w6 ⟨g4, rfl, hg4, hq4, hk6⟩
  have Q4 := hide hq4
  have Q3 : Hid (Gen w6 g3 st NX) := hk6.gen Q3_5.out (fun h => h)
  have K6 : Hid (Kept (fun _ => False) w w6) := K5.out.trans hk6
  clear hg4 hq4 hk6 Q3_5 X5 K5
  go_wp2_with fail
  refine (zzDraw_nil g3 _).mono ?_
  rintro e w7 ⟨rfl, rfl⟩
  go_wp2_with fail
  refine wp_loop_rounds 1 ?_
  rw [rounds_succ]
  go_wp2_with fail
  refine wp_region_quiet_lit (by kernel_rfl) (by kernel_rfl) ?_
  repeat (go_big_quiet_step (fail))
  go_big_quiet_want
  refine quiet_load_gen _ rfl g3 rfl _ _ HS.out Q3.out ?_
  go_simp
  go_big_quiet_on
  repeat (go_big_quiet_step (fail))
  go_big_quiet_want
  refine quiet_load_gen _ rfl g4 rfl _ _ HS.out Q4.out ?_
  go_simp
  go_big_quiet_on
  repeat (go_big_quiet_step (fail))
  go_big_quiet_want
  refine quiet_neq_gen _ _ _ rfl _ _ HS.out rfl rfl ?_
  go_simp
  go_big_quiet_on
  refine wpQuiet_nil ?_
  intro _ hw'
  obtain ⟨nq, hw''⟩ := hw'
  subst hw''
  have KW : Hid (Kept (fun _ => False) w (w7.drewN nq)) := K6.out.drewN nq
  obtain ⟨W, hW⟩ : ∃ W, W = w7.drewN nq := ⟨_, rfl⟩
  rw [← hW] at KW ⊢
  clear hW Q3 Q4 K6
  go_wp2_with fail
  refine wp_loop_rounds 1 ?_
  rw [rounds_succ]
  go_wp2_with fail
  refine (clone_nil _).mono ?_
  rintro e w11 ⟨rfl, rfl⟩
  go_wp2_with fail
  refine (sort_nil _).mono ?_
  rintro e w12 ⟨rfl, hk12⟩
  have KA : Hid (Kept (fun _ => False) w w12) := KW.out.trans hk12
  clear hk12 KW
  go_wp2_with fail
  refine (clone_nil _).mono ?_
  rintro e w13 ⟨rfl, rfl⟩
  go_wp2_with fail
  refine (sort_nil _).mono ?_
  rintro e w14 ⟨rfl, hk14⟩
  have KB : Hid (Kept (fun _ => False) w w14) := KA.out.trans hk14
  clear hk14 KA
  go_wp2_with fail
  refine (same_empty none none 0 0 _).mono ?_
  rintro e w15 ⟨rfl, M, rfl⟩
  go_wp2
  go_ret
  exact ⟨rfl, (KB.out.drewN M).below (fun k h => h.elim)⟩
end Go.Proofs.Qxb6604560a
