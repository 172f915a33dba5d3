/-
  'Rows.FnDrawPermutesAndAdvancesSaid' ('zzlaws_root_b1.FnDrawPermutesAndAdvances'): for every input the law returns true; the arguments read as they did.
-/
import Derived.Test.Qxb6604560aPermWalk
import Derived.Test.Qxb6604560aPermNil
import Derived.Test.Qxb6604560aOpen
namespace Go.Proofs.Qxb6604560a.fnDrawPermutesAndAdvances
open Go.ChangeShapes Go.WideShapes Go.ChangeAt Go.RowKit

set_option maxRecDepth 100000 in
set_option maxHeartbeats 1000000 in
theorem early (ao : Option Addr) (n cap : Nat) (k nx : Int) (st : List Int) (w : World) (hst : st.length = 312) (hk : (Lit.int .i64 k).wf = true) (hnx : (Lit.int .i64 nx).wf = true)
    (h : ¬ (8 * (n : Int) ≤ 1046080 ∧ k ≤ 65536 ∧ 0 ≤ nx ∧ nx ≤ 312 ∧ 0 ≤ k ∧ k ≤ (n : Int))) :
    Calls Try.prog 4 #[.slice ao n cap, .int .i64 k, .agg (words st), .int .i64 nx] w fun e w' => e = .returned (.bool true) ∧ Below w.heap.size w w' := by
  have hkb := bounds_i64 hk
  have hnb := bounds_i64 hnx
  have HZ := hide (size24_of st hst)
  clear hst hk hnx
  by_cases h1 : (n : Int) ≤ 1048576
  · go_enter Try.func4, Try.ntmps4
    go_wp2_with (refine wpList_load_row rfl 24 _ rfl w.heap.size rfl 24 (words st) (0, 0) _ (heap_alloc_new _ _) Try.underlying24 rfl HZ.out ?_)
    refine (zz11_in _ _ _ _ _ _ _ h1).mono ?_
    rintro e w1 ⟨rfl, hk1⟩
    have HB : Hid (Below w.heap.size w w1) := (((Kept.refl _ _).alloc _).trans hk1).below (fun _ h => h.elim)
    clear hk1
    by_cases h2 : 8 * (n : Int) ≤ 1046080
    · by_cases h3 : k ≤ 65536
      · by_cases h4 : nx < 0
        · clear h
          go_wp2
          go_ret
          exact ⟨rfl, HB.out⟩
        · by_cases h5 : 312 < nx
          · clear h
            go_wp2
            go_ret
            exact ⟨rfl, HB.out⟩
          · by_cases h6 : k < 0
            · clear h
              go_wp2
              go_ret
              exact ⟨rfl, HB.out⟩
            · have h7 : (n : Int) < k := by omega
              clear h
              go_wp2
              go_ret
              exact ⟨rfl, HB.out⟩
      · clear h
        go_wp2
        go_ret
        exact ⟨rfl, HB.out⟩
    · clear h
      go_wp2
      go_ret
      exact ⟨rfl, HB.out⟩
  · go_enter Try.func4, Try.ntmps4
    go_wp2_with (refine wpList_load_row rfl 24 _ rfl w.heap.size rfl 24 (words st) (0, 0) _ (heap_alloc_new _ _) Try.underlying24 rfl HZ.out ?_)
    refine (zz11_out _ _ _ _ _ _ _ (by omega)).mono ?_
    rintro e w1 ⟨rfl, hk1⟩
    have HB : Hid (Below w.heap.size w w1) := (((Kept.refl _ _).alloc _).trans hk1).below (fun _ h => h.elim)
    clear hk1 h
    go_wp2
    go_ret
    exact ⟨rfl, HB.out⟩

theorem walk (ao : Option Addr) (n cap : Nat) (k nx : Int) (zs st : List Int) (w : World) (hr : IsRow w ao n cap zs) (hst : st.length = 312) (hk : (Lit.int .i64 k).wf = true) (hnx : (Lit.int .i64 nx).wf = true) :
    Calls Try.prog 4 #[.slice ao n cap, .int .i64 k, .agg (words st), .int .i64 nx] w fun e w' => e = .returned (.bool true) ∧ Below w.heap.size w w' := by
  by_cases h : 8 * (n : Int) ≤ 1046080 ∧ k ≤ 65536 ∧ 0 ≤ nx ∧ nx ≤ 312 ∧ 0 ≤ k ∧ k ≤ (n : Int)
  · obtain ⟨h1, h2, h3, h4, h5, h6⟩ := h
    obtain ⟨K, rfl⟩ := Int.eq_ofNat_of_zero_le h5
    obtain ⟨NX, rfl⟩ := Int.eq_ofNat_of_zero_le h3
    by_cases h0 : 0 < n
    · obtain ⟨b, off, xs, rfl, hl, hc⟩ := hr.plain h0
      exact perm_main _ n cap K NX xs st w hl h1 (by omega) (by omega) hst (by omega) (fun w1 hk1 => clone_ex b off n cap xs w1 hl (by omega) (fun j hj => hk1.cell (hc j hj) (fun h => h)))
    · obtain rfl : n = 0 := by omega
      rcases hr with ⟨rfl, _, rfl, _⟩ | ⟨x, rfl, _⟩
      · obtain rfl : K = 0 := by omega
        exact perm_nil NX st w hst (by omega)
      · exact perm_main _ 0 cap K NX [] st w rfl (by omega) (by omega) (by omega) hst (by omega) (fun w1 _ => clone_empty x cap w1)
  · exact early ao n cap k nx st w hst hk hnx h

/-! ### THE ROW's STEP -/
set_option maxRecDepth 100000 in
theorem lifted (os : Os) (started : os.Started) (H : Type) (enc : TypeId × Value → H) :
    ReturnsInHanded {} Try.checked os 4 .any (Rows.fnDrawPermutesAndAdvancesSpec.pre6 enc Try.prog Try.f4 Rows.fnDrawPermutesAndAdvancesRow.domain false) (Rows.fnDrawPermutesAndAdvancesSpec.post enc Try.prog Try.f4 false true false false) := by
  refine returnsInHanded_of_change (C := Try.checked) own started (by kernel_rfl) Try.func4
    (ChangeSpec.witness6 (enc := enc) (C := Try.checked) false ⟨#[], #[.slice none 0 0, .int .i64 0, .agg (Array.replicate 312 (.int .u64 0)), .int .i64 0], []⟩ 8 (by kernel_rfl) (by kernel_rfl) (by kernel_rfl) (by kernel_rfl)) ?_
  intro W base args ds gs before hval0 hW hcnd _
  have hval : ∀ (j : Nat) t v, Try.f4.params[j]? = some t → args[j]? = some v → Value.okWide Try.prog W .any base t v := hval0
  have hW' := hW
  obtain ⟨p, q, hA0, hV, rfl, hfz, hnd⟩ := hW
  have hA : DataW.TrodAll enc Try.prog W 0 (fun _ => true) true Try.f4.params.toList args.toList ds p := hA0
  rw [Try.params4] at hA hval
  obtain ⟨v0, vs0, d0, ds0, p0, q0, hargs, rfl, rfl, h0, r0⟩ := trodAll_cons hA
  obtain ⟨v1, vs1, d1, ds1, p1, q1, rfl, rfl, rfl, h1, r1⟩ := trodAll_cons r0
  obtain ⟨v2, vs2, d2, ds2, p2, q2, rfl, rfl, rfl, h2, r2⟩ := trodAll_cons r1
  obtain ⟨v3, vs3, d3, ds3, p3, q3, rfl, rfl, rfl, h3, r3⟩ := trodAll_cons r2
  obtain ⟨rfl, rfl, rfl⟩ := trodAll_nil r3
  obtain rfl : args = #[v0, v1, v2, v3] := by cases args; simp_all
  obtain ⟨rfl, rfl⟩ := trodVars_none hV
  obtain ⟨a0, len0, cap0, rfl⟩ := okWide_slice Try.underlying22 (hval 0 22 v0 rfl rfl)
  have k0 := h0
  have lt0 : ∀ x ∈ p0, x.block < W.heap.size := by obtain ⟨m, hm⟩ := k0; exact DataW.trod_lt m _ _ _ hm
  obtain ⟨z0, w0⟩ := open_list h0
  obtain ⟨a1, rfl, rfl, rfl, w1⟩ := open_int Try.underlying3 (hval 1 3 v1 rfl rfl) h1
  have k2 := h2
  have lt2 : ∀ x ∈ p2, x.block < W.heap.size := by obtain ⟨m, hm⟩ := k2; exact DataW.trod_lt m _ _ _ hm
  obtain ⟨st, hst, rfl⟩ := open_state (hval 2 24 v2 rfl rfl) h2
  obtain ⟨a3, rfl, rfl, rfl, w3⟩ := open_int Try.underlying3 (hval 3 3 v3 rfl rfl) h3
  clear hA0 hval0
  refine (walk a0 len0 cap0 a1 a3 z0 st W w0 hst w1 w3).mono fun e W' ⟨he, bel⟩ => ?_
  subst he
  exact ⟨_, rfl, _, _, _, [], _, [], hW', trodAll_mk1 (shut_bool Try.underlying4 _), (trodAll_cons_mk (Below.trod laidOut (by kernel_rfl) (of_decide_eq_true (by kernel_rfl)) k0 bel lt0) (trodAll_cons_mk (shut_int Try.underlying3 w1) (trodAll_cons_mk (Below.trod laidOut (by kernel_rfl) (of_decide_eq_true (by kernel_rfl)) k2 bel lt2) (trodAll_cons_mk (shut_int Try.underlying3 w3) trodAll_mk0)))), rfl, bel.frame _, fun h => by cases h⟩

theorem over : Rows.fnDrawPermutesAndAdvancesRow.holds Try.pinned (OpenSpec.ofChange Rows.fnDrawPermutesAndAdvancesSpec) :=
  OpenClaim.holds_of_wide 4 Try.f4 rfl rfl rfl rfl rfl rfl rfl ⟨rfl, rfl, rfl, rfl, rfl⟩ rfl rfl rfl rfl rfl (by kernel_rfl) Try.func4 (by kernel_rfl)
    (of_decide_eq_true (by kernel_rfl)) (by unfold Func.isWrapper; first | (rw [if_pos (by decide +kernel)]; kernel_rfl) | (rw [if_neg (by decide +kernel)]; exact ⟨rfl, rfl⟩))
    (fun os started H enc _ => lifted os started H enc)

/-- THE STATEMENT -/
theorem proved : Rows.FnDrawPermutesAndAdvancesSaid := over
end Go.Proofs.Qxb6604560a.fnDrawPermutesAndAdvances
