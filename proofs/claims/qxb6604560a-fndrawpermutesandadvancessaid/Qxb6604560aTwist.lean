/-
  THE WALK of (*MT64).twist.
-/
import Derived.Test.Qxb6604560aWorld
namespace Go.Proofs.Qxb6604560a
open Go.RowKit

/-- One word of the twist, as the walk spells it. -/
def twX (x0 x1 : Int) : Int := bits .or .u64 (bits .and .u64 x0 18446744071562067968) (bits .and .u64 x1 2147483647)
def twA (x : Int) : Int := if (bits .and .u64 x 1 != 0) = true then bits .xor .u64 (x / 2) 13043109905998158313 else x / 2
def tw (x0 x1 x2 : Int) : Int := bits .xor .u64 x2 (twA (twX x0 x1))
def twRound (s : List Int) (k : Nat) : List Int := s.set k (tw (s.getD k 0) (s.getD ((k + 1) % 312) 0) (s.getD ((k + 156) % 312) 0))
def twTo (st : List Int) : Nat → List Int
  | 0 => st
  | k + 1 => twRound (twTo st k) k
theorem twTo_length (st : List Int) : ∀ k, (twTo st k).length = st.length
  | 0 => rfl
  | k + 1 => by
    show (twRound (twTo st k) k).length = _
    unfold twRound
    rw [List.length_set]; exact twTo_length st k

theorem tw_yes {x0 x1 x2 : Int} (h : (bits .and .u64 (twX x0 x1) 1 != 0) = true) : tw x0 x1 x2 = bits .xor .u64 x2 (bits .xor .u64 (twX x0 x1 / 2) 13043109905998158313) := by
  unfold tw twA; rw [if_pos h]
theorem tw_no {x0 x1 x2 : Int} (h : (bits .and .u64 (twX x0 x1) 1 != 0) = false) : tw x0 x1 x2 = bits .xor .u64 x2 (twX x0 x1 / 2) := by
  unfold tw twA; rw [if_neg (by rw [h]; exact Bool.false_ne_true)]

set_option maxRecDepth 100000 in
set_option maxHeartbeats 800000 in
theorem twist_any (g : Nat) (st : List Int) (nx : Int) (w : World) (hl : st.length = 312) (hg : Gen w g st nx) :
    Calls Try.prog 14 #[.pointer (some ⟨g, 0, none⟩)] w fun e w' => e = .returned (.tuple #[]) ∧ Gen w' g (twTo st 312) 0 ∧ Kept (fun k => k = g) w w' := by
  have HL := hide hl
  have HG := hide hg
  clear hl hg
  go_enter Try.func14, Try.ntmps14
  go_wp2
  go_loopw [5] (fun i wr => ∃ (k : Nat), k ≤ 312 ∧ i = .int .i64 k ∧ Gen wr g (twTo st k) nx ∧ Kept (fun k => k = g) w wr) (fun i _ => 312 - (intOf i).toNat)
  case atStart => exact ⟨0, Nat.zero_le _, rfl, HG.out, Kept.refl _ _⟩
  case round =>
    obtain ⟨k, hk, rfl, hgr, hkp⟩ := hrel
    by_cases hlt : k < 312
    · have hls := twTo_length st k
      rw [HL.out] at hls
      have hnext : twTo st (k + 1) = twRound (twTo st k) k := rfl
      obtain ⟨s, hs⟩ : ∃ s, s = twTo st k := ⟨_, rfl⟩
      rw [← hs] at hls hgr hnext
      have HN := hide hnext
      clear hnext hs
      have c0 := hgr.cell k (by omega)
      have c1 := hgr.cell ((k + 1) % 312) (by omega)
      have c2 := hgr.cell ((k + 156) % 312) (by omega)
      have f0 := hgr.free k
      have HR := hide hgr
      have HK := hide hkp
      have HS := hide hls
      obtain ⟨x0, hx0⟩ : ∃ x, s.getD k 0 = x := ⟨_, rfl⟩
      obtain ⟨x1, hx1⟩ : ∃ x, s.getD ((k + 1) % 312) 0 = x := ⟨_, rfl⟩
      obtain ⟨x2, hx2⟩ : ∃ x, s.getD ((k + 156) % 312) 0 = x := ⟨_, rfl⟩
      have hstep : twRound s k = s.set k (tw x0 x1 x2) := by unfold twRound; rw [hx0, hx1, hx2]
      have HSTEP := hide hstep
      rw [hx0] at c0
      rw [hx1] at c1
      rw [hx2] at c2
      have b1 : 0 ≤ ((k : Int) + 1) % 312 := by omega
      have b2 : ((k : Int) + 1) % 312 < 312 := by omega
      have b3 : (((k : Int) + 1) % 312).toNat = (k + 1) % 312 := by omega
      have b4 : 0 ≤ ((k : Int) + 156) % 312 := by omega
      have b5 : ((k : Int) + 156) % 312 < 312 := by omega
      have b6 : (((k : Int) + 156) % 312).toNat = (k + 156) % 312 := by omega
      clear hgr hkp hls hx0 hx1 hx2 hstep
      have fin : ∀ v (nq : Nat), v = tw x0 x1 x2 → Gen (((wr.drewN nq).setCell ⟨g, k, none⟩ (.int .u64 v))) g (twTo st (k + 1)) nx := by
        intro v nq hv
        rw [HN.out, HSTEP.out, hv]
        exact (HR.out.drewN nq).set k (by rw [HS.out]; exact hlt) _
      have FIN := hide fin
      clear fin
      cases ht : (bits .and .u64 (bits .or .u64 (bits .and .u64 x0 18446744071562067968) (bits .and .u64 x1 2147483647)) 1 != 0) with
      | true =>
        have HT := hide (tw_yes (x2 := x2) ht)
        go_wp2
        go_quiet (fail)
        go_wp2
        go_region
        go_wp2
        go_roundw
        case rel => exact ⟨k + 1, by omega, by go_num, FIN.out _ _ HT.out.symm, (HK.out.drewN _).setCell _ _ (Or.inr rfl)⟩
        case measure => simp [intOf]; omega
      | false =>
        have HT := hide (tw_no (x2 := x2) ht)
        go_wp2
        go_quiet (fail)
        go_wp2
        go_region
        go_wp2
        go_roundw
        case rel => exact ⟨k + 1, by omega, by go_num, FIN.out _ _ HT.out.symm, (HK.out.drewN _).setCell _ _ (Or.inr rfl)⟩
        case measure => simp [intOf]; omega
    · obtain rfl : k = 312 := by omega
      have hls := twTo_length st 312
      rw [HL.out] at hls
      have f1 := hgr.free 312
      have c1 := hgr.next hls
      have hfin := hgr.setNext hls 0
      have HF := hide hfin
      have HK := hide hkp
      clear hgr hkp hls hfin
      go_wp2
      go_end0
      exact ⟨rfl, HF.out, HK.out.setCell _ _ (Or.inr rfl)⟩
end Go.Proofs.Qxb6604560a
