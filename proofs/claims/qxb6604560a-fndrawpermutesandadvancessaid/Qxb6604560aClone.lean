/-
  THE WALK of cloneWords.
-/
import Derived.Test.Qxb6604560aWorld
namespace Go.Proofs.Qxb6604560a
open Go.RowKit

theorem clone_nil (w : World) :
    Calls Try.prog 6 #[.slice none 0 0] w fun e w' => e = .returned (.slice none 0 0) ∧ w' = w := by
  have hnil := fun w => Lib.run_eql_slice_nil (P := Try.prog) w 22 23 none 0 0 0 0 Try.underlying22
  go_enter Try.func6, Try.ntmps6
  go_wp2
  go_ret
  exact ⟨rfl, rfl⟩

/-- The first k words, and zeros. -/
def part (xs : List Int) (n k : Nat) : List Int := xs.take k ++ List.replicate (n - k) 0
theorem part_zero (xs : List Int) (n : Nat) : part xs n 0 = List.replicate n 0 := by simp [part]
theorem part_length (xs : List Int) (n k : Nat) (hl : xs.length = n) (hk : k ≤ n) : (part xs n k).length = n := by
  simp [part]; omega
theorem part_full (xs : List Int) (n : Nat) (hl : xs.length = n) : part xs n n = xs := by
  simp [part, ← hl]
theorem part_step (xs : List Int) (n k : Nat) (hl : xs.length = n) (hk : k < n) : (part xs n k).set k (xs.getD k 0) = part xs n (k + 1) := by
  unfold part
  rw [List.set_append, if_neg (by simp; omega), List.take_succ_eq_append_getElem (by omega), List.append_assoc]
  congr 1
  rw [show n - k = (n - (k + 1)) + 1 by omega, List.replicate_succ]
  simp [show k - min k xs.length = 0 by omega, List.getD, List.getElem?_eq_getElem (show k < xs.length by omega)]
theorem row_made (w : World) (n : Nat) : Row (w.alloc (.cells (madeCells #[.int .u64 0] n) 23)) w.heap.size (List.replicate n 0) := by
  unfold Row
  rw [← made_words]
  exact heap_alloc_new w _

set_option maxHeartbeats 400000 in
theorem clone_any (b off n cap : Nat) (xs : List Int) (w : World) (hl : xs.length = n) (hn : n ≤ 1048576) (hc : ∀ j, j < n → w.cell? ⟨b, off + j, none⟩ = some (.int .u64 (xs.getD j 0))) :
    Calls Try.prog 6 #[.slice (some ⟨b, off, none⟩) n cap] w fun e w' => e = .returned (.slice (some ⟨w.heap.size, 0, none⟩) n n) ∧ Row w' w.heap.size xs ∧ Kept (fun _ => False) w w' := by
  have hnil := fun w => Lib.run_eql_slice_nil (P := Try.prog) w 22 23 (some ⟨b, off, none⟩) n cap 0 0 Try.underlying22
  have hmk := fun w => run_make_row' (P := Try.prog) 22 23 (.int .u64 0) 8 Try.underlying22 Try.info23 rfl .i64 .i64 n (by omega) (by omega) w
  have HC := hide hc
  have HL := hide hl
  clear hc hl
  go_enter Try.func6, Try.ntmps6
  go_wp2
  go_loopw [4] (fun i wr => ∃ k : Nat, k ≤ n ∧ i = .int .i64 k ∧ Row wr w.heap.size (part xs n k) ∧ Kept (fun _ => False) w wr) (fun i _ => n - (intOf i).toNat)
  case atStart => exact ⟨0, Nat.zero_le _, rfl, by rw [part_zero]; exact row_made w n, (Kept.refl _ _).alloc _⟩
  case round =>
    obtain ⟨k, hk, rfl, hr, hkp⟩ := hrel
    by_cases hlt : k < n
    · have hx := hkp.cell (HC.out k hlt) (fun h => h)
      have hy := hr.cell k (by rw [part_length xs n k HL.out hk]; exact hlt)
      have hz := hr.free k
      have HR := hide hr
      have HK := hide hkp
      clear hr hkp
      go_wp2
      go_roundw
      case rel =>
        refine ⟨k + 1, by omega, by go_num, ?_, HK.out.setCell _ _ (Or.inl (Nat.le_refl _))⟩
        have := HR.out.set k (xs.getD k 0)
        rw [part_step xs n k HL.out hlt] at this
        exact this
      case measure => simp [intOf]; omega
    · have e : k = n := by omega
      subst e
      rw [part_full xs k HL.out] at hr
      have HR := hide hr
      have HK := hide hkp
      clear hr hkp
      go_wp2
      go_ret
      exact ⟨rfl, HR.out, HK.out⟩
end Go.Proofs.Qxb6604560a
