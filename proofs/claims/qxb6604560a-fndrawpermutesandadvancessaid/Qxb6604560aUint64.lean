/-
  THE WALK of (*MT64).Uint64.
-/
import Derived.Test.Qxb6604560aTwist
import Derived.OpenShut
namespace Go.Proofs.Qxb6604560a
open Go.RowKit

/-- The tempering, as the walk spells it. -/
def t1 (y : Int) : Int := bits .xor .u64 y (bits .and .u64 (y / 536870912) 6148914691236517205)
def t2 (y : Int) : Int := bits .xor .u64 y (bits .and .u64 (IntKind.u64.wrap (y * 131072)) 8202884508482404352)
def t3 (y : Int) : Int := bits .xor .u64 y (bits .and .u64 (IntKind.u64.wrap (y * 137438953472)) 18444473444759240704)
def t4 (y : Int) : Int := bits .xor .u64 y (y / 8796093022208)
def temper (y : Int) : Int := t4 (t3 (t2 (t1 y)))
theorem temper_wf (y : Int) : (Lit.int .u64 (temper y)).wf = true := by unfold temper t4; exact wf_bits _ _ _ _
theorem temper_pos (y : Int) : 0 ≤ temper y := (bounds_u64 (temper_wf y)).1
theorem temper_max (y : Int) : temper y ≤ 18446744073709551615 := (bounds_u64 (temper_wf y)).2

/-- The generator's step: the state, next, the output. -/
def uS (st : List Int) (nx : Nat) : List Int := if nx = 312 then twTo st 312 else st
def uN (nx : Nat) : Nat := if nx = 312 then 1 else nx + 1
def uV (st : List Int) (nx : Nat) : Int := temper ((uS st nx).getD (if nx = 312 then 0 else nx) 0)

theorem uS_length (st : List Int) (nx : Nat) (h : st.length = 312) : (uS st nx).length = 312 := by
  unfold uS; split
  · rw [twTo_length]; exact h
  · exact h
theorem uN_le (nx : Nat) (h : nx ≤ 312) : uN nx ≤ 312 := by unfold uN; split <;> omega
theorem uV_pos (st : List Int) (nx : Nat) : 0 ≤ uV st nx := temper_pos _
theorem uV_max (st : List Int) (nx : Nat) : uV st nx ≤ 18446744073709551615 := temper_max _

theorem ret_u64 {a b : Int} (h : a = b) : Ending.returned (.int .u64 a) = .returned (.int .u64 b) := by rw [h]

set_option maxRecDepth 100000 in
set_option maxHeartbeats 800000 in
theorem uint_any (g : Nat) (st : List Int) (nx : Nat) (w : World) (hl : st.length = 312) (hn : nx ≤ 312) (hg : Gen w g st nx) :
    Calls Try.prog 10 #[.pointer (some ⟨g, 0, none⟩)] w fun e w' => e = .returned (.int .u64 (uV st nx)) ∧ Gen w' g (uS st nx) (uN nx : Nat) ∧ Kept (fun k => k = g) w w' := by
  by_cases h312 : nx = 312
  · subst h312
    have hne : ((312 : Int) == 312) = true := rfl
    have c1 := hg.next hl
    have HL := hide hl
    have HG := hide hg
    clear hl hg
    go_enter Try.func10, Try.ntmps10
    go_wp2_with fail
    refine (twist_any g st _ _ HL.out HG.out).mono ?_
    rintro e w1 ⟨rfl, hg1, hk1⟩
    have hl1 : (twTo st 312).length = 312 := by rw [twTo_length]; exact HL.out
    have d0 := hg1.cell 0 (by omega)
    have d1 := hg1.next hl1
    have d2 := hg1.free 312
    obtain ⟨x0, hx0⟩ : ∃ x, (twTo st 312).getD 0 0 = x := ⟨_, rfl⟩
    rw [hx0] at d0
    have hfin := fun n : Nat => (hg1.drewN n).setNext hl1 1
    have HF := hide hfin
    have HX := hide hx0
    have HK := hide hk1
    clear hg1 hk1 hl1 hx0 hfin c1 hne
    go_wp2
    go_quiet (fail)
    go_wp2
    go_ret
    refine ⟨?_, HF.out _, (HK.out.drewN _).setCell _ _ (Or.inr rfl)⟩
    have : uV st 312 = temper x0 := by unfold uV uS; rw [if_pos rfl, if_pos rfl, HX.out]
    rw [this]
    rfl
  · have c0 := hg.cell nx (by omega)
    have c1 := hg.next hl
    have f1 := hg.free 312
    have hlt : nx < 312 := by omega
    obtain ⟨x0, hx0⟩ : ∃ x, st.getD nx 0 = x := ⟨_, rfl⟩
    rw [hx0] at c0
    have hv : uV st nx = temper x0 := by unfold uV uS; rw [if_neg h312, if_neg h312, hx0]
    have hS : uS st nx = st := by unfold uS; rw [if_neg h312]
    have hN : uN nx = nx + 1 := by unfold uN; rw [if_neg h312]
    have hfin := fun n : Nat => (hg.drewN n).setNext hl ((nx : Int) + 1)
    rw [hv, hS, hN]
    have HF := hide hfin
    have hne : ((nx : Int) == 312) = false := eqF (by omega)
    clear hl hg hx0 hv hS hN h312 hfin
    go_enter Try.func10, Try.ntmps10
    go_wp2
    go_quiet (fail)
    go_wp2
    go_ret
    exact ⟨rfl, HF.out _, ((Kept.refl _ _).drewN _).setCell _ _ (Or.inr rfl)⟩
end Go.Proofs.Qxb6604560a
