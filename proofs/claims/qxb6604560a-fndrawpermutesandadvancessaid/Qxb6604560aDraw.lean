/-
  THE WALK of draw, ZZdraw.
-/
import Derived.Test.Qxb6604560aUint64
namespace Go.Proofs.Qxb6604560a
open Go.RowKit

/-- After k outputs: the state, next; the k-th output. -/
def dNx (nx : Nat) : Nat → Nat
  | 0 => nx
  | k + 1 => uN (dNx nx k)
def dSt (st : List Int) (nx : Nat) : Nat → List Int
  | 0 => st
  | k + 1 => uS (dSt st nx k) (dNx nx k)
def dV (st : List Int) (nx : Nat) (k : Nat) : Int := uV (dSt st nx k) (dNx nx k)
def swapL (xs : List Int) (i j : Nat) : List Int := (xs.set i (xs.getD j 0)).set j (xs.getD i 0)
/-- The place drawn at i. -/
def dJ (n : Nat) (v : Int) (i : Nat) : Nat := i + (v % ((n : Int) - (i : Int))).toNat
def dXs (xs st : List Int) (nx : Nat) : Nat → List Int
  | 0 => xs
  | k + 1 => swapL (dXs xs st nx k) k (dJ xs.length (dV st nx k) k)

theorem dNx_le (nx : Nat) (h : nx ≤ 312) : ∀ k, dNx nx k ≤ 312
  | 0 => h
  | k + 1 => uN_le _ (dNx_le nx h k)
theorem dSt_length (st : List Int) (nx : Nat) (h : st.length = 312) : ∀ k, (dSt st nx k).length = 312
  | 0 => h
  | k + 1 => uS_length _ _ (dSt_length st nx h k)
theorem swapL_length (xs : List Int) (i j : Nat) : (swapL xs i j).length = xs.length := by simp [swapL]
theorem dXs_length (xs st : List Int) (nx : Nat) : ∀ k, (dXs xs st nx k).length = xs.length
  | 0 => rfl
  | k + 1 => by
    show (swapL _ _ _).length = _
    rw [swapL_length]; exact dXs_length xs st nx k
theorem dJ_lt (n : Nat) (v : Int) (i : Nat) (h : i < n) : i ≤ dJ n v i ∧ dJ n v i < n := by
  unfold dJ
  have h1 := Int.emod_nonneg v (show (n : Int) - (i : Int) ≠ 0 by omega)
  have h2 := Int.emod_lt_of_pos v (show 0 < (n : Int) - (i : Int) by omega)
  omega

theorem swapL_get (ys : List Int) (i j m : Nat) (hi : i < ys.length) (hj : j < ys.length) : (swapL ys i j).getD m 0 = if m = i then ys.getD j 0 else if m = j then ys.getD i 0 else ys.getD m 0 := by
  unfold swapL
  simp only [List.getD, List.getElem?_set, List.length_set]
  by_cases h1 : m = i
  · subst h1
    rw [if_pos rfl]
    by_cases h2 : j = m
    · subst h2; simp [hj]
    · rw [if_neg h2]; simp [hi]
  · rw [if_neg h1]
    by_cases h2 : m = j
    · subst h2; simp [hj]
    · rw [if_neg h2, if_neg (fun h => h2 h.symm), if_neg (fun h => h1 h.symm)]

set_option maxRecDepth 100000 in
set_option maxHeartbeats 800000 in
theorem draw_any (a g n k : Nat) (xs st : List Int) (nx : Nat) (w : World) (hl : xs.length = n) (hn : n ≤ 1048576) (hk : k ≤ n) (hr : Row w a xs)
    (hst : st.length = 312) (hnx : nx ≤ 312) (hg : Gen w g st nx) (hag : a ≠ g) :
    Calls Try.prog 13 #[.slice (some ⟨a, 0, none⟩) n n, .int .i64 k, .pointer (some ⟨g, 0, none⟩)] w fun e w' => e = .returned (.slice (some ⟨a, 0, none⟩) k n) ∧
      Row w' a (dXs xs st nx k) ∧ Gen w' g (dSt st nx k) (dNx nx k) ∧ Kept (fun b => b = a ∨ b = g) w w' := by
  have HL := hide hl
  have HR := hide hr
  have HS := hide hst
  have HG := hide hg
  clear hl hr hst hg
  go_enter Try.func13, Try.ntmps13
  go_wp2
  go_loopw [10] (fun i wr => ∃ j : Nat, j ≤ k ∧ i = .int .i64 j ∧ Row wr a (dXs xs st nx j) ∧ Gen wr g (dSt st nx j) (dNx nx j) ∧ Kept (fun b => b = a ∨ b = g) w wr) (fun i _ => k - (intOf i).toNat)
  case atStart => exact ⟨0, Nat.zero_le _, rfl, HR.out, HG.out, Kept.refl _ _⟩
  case round =>
    obtain ⟨i, hi, rfl, hr, hg, hkp⟩ := hrel
    by_cases hlt : i < k
    · have HR1 := hide hr
      have HK := hide hkp
      have HG1 := hide hg
      clear hr hkp hg
      go_wp2_with fail
      refine (uint_any g _ _ _ (dSt_length st nx HS.out i) (dNx_le nx hnx i) HG1.out).mono ?_
      rintro e w1 ⟨rfl, hg1, hk1⟩
      have hv0 := uV_pos (dSt st nx i) (dNx nx i)
      have hv1 := uV_max (dSt st nx i) (dNx nx i)
      obtain ⟨v, hv⟩ : ∃ v, v = uV (dSt st nx i) (dNx nx i) := ⟨_, rfl⟩
      rw [← hv] at hv0 hv1 ⊢
      have hdj := dJ_lt xs.length v i (by rw [HL.out]; omega)
      obtain ⟨q, hq⟩ : ∃ q, q = (v % ((n : Int) - (i : Int))).toNat := ⟨_, rfl⟩
      have hj : dJ xs.length v i = i + q := by unfold dJ; rw [HL.out, hq]
      have hq' : v % ((n : Int) - (i : Int)) = (q : Int) := by
        have := Int.emod_nonneg v (show (n : Int) - (i : Int) ≠ 0 by omega)
        omega
      rw [hj, HL.out] at hdj
      have hqn : i + q < n := hdj.2
      have hr1 := hk1.row HR1.out hag
      have hlx : (dXs xs st nx i).length = n := by rw [dXs_length]; exact HL.out
      have hstep : dXs xs st nx (i + 1) = swapL (dXs xs st nx i) i (i + q) := by
        show swapL (dXs xs st nx i) i (dJ xs.length (uV (dSt st nx i) (dNx nx i)) i) = _
        rw [← hv, hj]
      have HSTEP := hide hstep
      have HG2 : Hid (Gen w1 g (dSt st nx (i + 1)) (dNx nx (i + 1))) := hg1
      have HK1 : Hid (Kept (fun b => b = a ∨ b = g) w w1) := HK.out.trans (hk1.mono (fun b hb => Or.inr hb))
      obtain ⟨ys, hys⟩ : ∃ ys, ys = dXs xs st nx i := ⟨_, rfl⟩
      rw [← hys] at hr1 hlx HSTEP
      have ci := hr1.cell i (by omega)
      have cj := hr1.cell (i + q) (by omega)
      have fi := hr1.free i
      have fj := hr1.free (i + q)
      obtain ⟨xi, hxi⟩ : ∃ x, ys.getD i 0 = x := ⟨_, rfl⟩
      obtain ⟨xj, hxj⟩ : ∃ x, ys.getD (i + q) 0 = x := ⟨_, rfl⟩
      rw [hxi] at ci
      rw [hxj] at cj
      have HR2 := hide hr1
      have HXI := hide hxi
      have HXJ := hide hxj
      clear hv hdj hq hj hr1 hlx hstep hg1 hk1 hys hxi hxj
      have fin : Row ((w1.setCell ⟨a, i, none⟩ (.int .u64 xj)).setCell ⟨a, i + q, none⟩ (.int .u64 xi)) a (dXs xs st nx (i + 1)) := by
        rw [HSTEP.out]
        unfold swapL
        rw [HXI.out, HXJ.out]
        exact (HR2.out.set i xj).set (i + q) xi
      have FIN := hide fin
      have fgen : Gen ((w1.setCell ⟨a, i, none⟩ (.int .u64 xj)).setCell ⟨a, i + q, none⟩ (.int .u64 xi)) g (dSt st nx (i + 1)) (dNx nx (i + 1)) :=
        (HG2.out.other _ _ (Ne.symm hag)).other _ _ (Ne.symm hag)
      have FGEN := hide fgen
      have FK : Hid (Kept (fun b => b = a ∨ b = g) w ((w1.setCell ⟨a, i, none⟩ (.int .u64 xj)).setCell ⟨a, i + q, none⟩ (.int .u64 xi))) :=
        (HK1.out.setCell _ _ (Or.inr (Or.inl rfl))).setCell _ _ (Or.inr (Or.inl rfl))
      clear fin fgen
      cases q with
      | zero =>
        obtain rfl : xi = xj := by rw [← HXI.out, ← HXJ.out]; rfl
        have fij : ∀ v : Value, (w1.setCell ⟨a, i, none⟩ v).cell? ⟨a, i, none⟩ = some v := fun v => World.cell?_setCell_same _ _ _ ci
        go_wp2
        go_region
        go_wp2
        go_roundw
        case rel => exact ⟨i + 1, by omega, by go_num, FIN.out.drew, FGEN.out.drew, FK.out.drew⟩
        case measure => simp [intOf]; omega
      | succ q =>
        go_wp2
        go_region
        go_wp2
        go_roundw
        case rel => exact ⟨i + 1, by omega, by go_num, FIN.out.drew, FGEN.out.drew, FK.out.drew⟩
        case measure => simp [intOf]; omega
    · obtain rfl : i = k := by omega
      have HR1 := hide hr
      have HK := hide hkp
      have HG1 := hide hg
      clear hr hkp hg
      go_wp2
      go_ret
      exact ⟨rfl, HR1.out, HG1.out, HK.out⟩

theorem zzDraw_any (a g n k : Nat) (xs st : List Int) (nx : Nat) (w : World) (hl : xs.length = n) (hn : n ≤ 1048576) (hk : k ≤ n) (hr : Row w a xs)
    (hst : st.length = 312) (hnx : nx ≤ 312) (hg : Gen w g st nx) (hag : a ≠ g) :
    Calls Try.prog 8 #[.slice (some ⟨a, 0, none⟩) n n, .int .i64 k, .pointer (some ⟨g, 0, none⟩)] w fun e w' => e = .returned (.slice (some ⟨a, 0, none⟩) k n) ∧
      Row w' a (dXs xs st nx k) ∧ Gen w' g (dSt st nx k) (dNx nx k) ∧ Kept (fun b => b = a ∨ b = g) w w' := by
  have HD := hide (draw_any a g n k xs st nx w hl hn hk hr hst hnx hg hag)
  clear hl hn hk hr hst hnx hg hag
  go_enter Try.func8, Try.ntmps8
  go_wp2_with fail
  refine HD.out.mono ?_
  rintro e w1 ⟨rfl, h1, h2, h3⟩
  have H := hide (And.intro h1 (And.intro h2 h3))
  clear h1 h2 h3
  go_wp2
  go_ret
  exact ⟨rfl, H.out⟩
end Go.Proofs.Qxb6604560a
