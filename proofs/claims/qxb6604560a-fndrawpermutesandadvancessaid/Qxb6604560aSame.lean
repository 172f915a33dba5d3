/-
  THE WALK of sameWords: at two rows that hold the same words.
-/
import Derived.Test.Qxb6604560aWorld
namespace Go.Proofs.Qxb6604560a
open Go.RowKit

theorem same_empty (ao bo : Option Addr) (c1 c2 : Nat) (w : World) :
    Calls Try.prog 9 #[.slice ao 0 c1, .slice bo 0 c2] w fun e w' => e = .returned (.bool true) ∧ ∃ m, w' = w.drewN m := by
  go_enter Try.func9, Try.ntmps9
  go_wp2
  refine wp_loop_rounds 1 ?_
  rw [rounds_succ]
  go_wp2
  go_ret
  exact ⟨rfl, 0, rfl⟩

set_option maxHeartbeats 400000 in
theorem same_any (a b n c1 c2 : Nat) (xs : List Int) (w : World) (hl : xs.length = n) (hn : n ≤ 1048576) (ha : Row w a xs) (hb : Row w b xs) :
    Calls Try.prog 9 #[.slice (some ⟨a, 0, none⟩) n c1, .slice (some ⟨b, 0, none⟩) n c2] w fun e w' => e = .returned (.bool true) ∧ ∃ m, w' = w.drewN m := by
  have HL := hide hl
  have HA := hide ha
  have HB := hide hb
  have hnn : ((n : Int) != (n : Int)) = false := neF rfl
  clear hl ha hb
  go_enter Try.func9, Try.ntmps9
  go_wp2
  go_loopw [5] (fun i wr => ∃ k m : Nat, k ≤ n ∧ i = .int .i64 k ∧ wr = w.drewN m) (fun i _ => n - (intOf i).toNat)
  case atStart => exact ⟨0, 0, Nat.zero_le _, rfl, rfl⟩
  case round =>
    obtain ⟨k, m, hk, rfl, rfl⟩ := hrel
    by_cases hlt : k < n
    · have ca := HA.out.cell k (by rw [HL.out]; exact hlt)
      have cb := HB.out.cell k (by rw [HL.out]; exact hlt)
      obtain ⟨x, hx⟩ : ∃ x, xs.getD k 0 = x := ⟨_, rfl⟩
      rw [hx] at ca cb
      clear hx
      go_wp2
      go_quiet (fail)
      go_wp2
      go_roundw
      case rel => exact ⟨k + 1, _, by omega, by go_num, rfl⟩
      case measure => simp [intOf]; omega
    · go_wp2
      go_ret
      exact ⟨rfl, _, rfl⟩
end Go.Proofs.Qxb6604560a
