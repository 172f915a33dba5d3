/-
  PLAIN: a draw permutes; its first pick. And the small walks that FnDrawPermutesAndAdvances wants beside FnDrawStep's.
-/
import Derived.Test.Qxb6604560aStep
import Derived.Test.Qxb6604560aSort
namespace Go.Proofs.Qxb6604560a
open Go.RowKit

theorem getD_get (xs : List Int) (i : Nat) (h : i < xs.length) : xs.getD i 0 = xs[i] := by
  simp [List.getD, h]
theorem swapL_perm (xs : List Int) (i j : Nat) (hi : i < xs.length) (hj : j < xs.length) : (swapL xs i j).Perm xs := by
  have e : swapL xs i j = (xs.toArray.swap i j (by simpa using hi) (by simpa using hj)).toList := by
    unfold swapL
    rw [getD_get xs i hi, getD_get xs j hj]
    simp [Array.swap]
  rw [e]
  have := Array.swap_perm (xs := xs.toArray) (i := i) (j := j) (by simpa using hi) (by simpa using hj)
  exact this.toList
theorem dXs_perm (xs st : List Int) (nx : Nat) : ∀ k, k ≤ xs.length → (dXs xs st nx k).Perm xs
  | 0, _ => List.Perm.refl _
  | k + 1, h => by
    have hl := dXs_length xs st nx k
    have hd := dJ_lt xs.length (dV st nx k) k (by omega)
    exact (swapL_perm _ k _ (by omega) (by omega)).trans (dXs_perm xs st nx k (by omega))
/-- The first pick. -/
theorem dXs_first (xs st : List Int) (nx : Nat) : ∀ k, k + 1 ≤ xs.length → (dXs xs st nx (k + 1)).getD 0 0 = xs.getD (dJ xs.length (uV st nx) 0) 0
  | 0, h => by
    show (swapL xs 0 (dJ xs.length (uV st nx) 0)).getD 0 0 = _
    have hd := dJ_lt xs.length (uV st nx) 0 (by omega)
    rw [swapL_get xs 0 _ 0 (by omega) (by omega), if_pos rfl]
  | k + 1, h => by
    have hl := dXs_length xs st nx (k + 1)
    have hd := dJ_lt xs.length (dV st nx (k + 1)) (k + 1) (by omega)
    show (swapL (dXs xs st nx (k + 1)) (k + 1) (dJ xs.length (dV st nx (k + 1)) (k + 1))).getD 0 0 = _
    rw [swapL_get _ _ _ 0 (by omega) (by omega), if_neg (by omega), if_neg (by omega)]
    exact dXs_first xs st nx k (by omega)
/-- The first output, once there is one. -/
def firstV (st : List Int) (nx m : Nat) : Int := if m = 0 then 0 else uV st nx
theorem firstV_zero (st : List Int) (nx : Nat) : firstV st nx 0 = 0 := rfl
theorem firstV_pos (st : List Int) (nx m : Nat) (h : 0 < m) : firstV st nx m = uV st nx := by unfold firstV; rw [if_neg (by omega)]

set_option maxRecDepth 100000 in
theorem zz11_in (ao : Option Addr) (n cap : Nat) (k nx : Int) (st : List Int) (w : World) (h : (n : Int) ≤ 1048576) :
    Calls Try.prog 11 #[.slice ao n cap, .int .i64 k, .agg (words st), .int .i64 nx] w fun e w' => e = .returned (.bool true) ∧ Kept (fun _ => False) w w' := by
  go_enter Try.func11, Try.ntmps11
  go_wp2
  go_ret
  exact ⟨rfl, (Kept.refl _ _).alloc _⟩
set_option maxRecDepth 100000 in
theorem zz11_out (ao : Option Addr) (n cap : Nat) (k nx : Int) (st : List Int) (w : World) (h : ¬ (n : Int) ≤ 1048576) :
    Calls Try.prog 11 #[.slice ao n cap, .int .i64 k, .agg (words st), .int .i64 nx] w fun e w' => e = .returned (.bool false) ∧ Kept (fun _ => False) w w' := by
  go_enter Try.func11, Try.ntmps11
  go_wp2
  go_ret
  exact ⟨rfl, (Kept.refl _ _).alloc _⟩

/-- A pointer is itself. -/
theorem neq34_any (a : Addr) (w : World) (d : Nat) : (Op.equalIn (d + 1) 34 (.pointer (some a)) (.pointer (some a))).run Try.prog w = .ok true w := by
  obtain ⟨i, hi, hz⟩ := Option.map_eq_some_iff.1 Try.info23
  simp only [Prod.mk.injEq] at hz
  have hs : (sizeOf 23).run Try.prog w = .ok 1 w := by
    simp [sizeOf, typeInfo, hi, hz.2.1]
  have hu : Try.prog.underlying 34 = some (.pointer 23) := Try.underlying34
  simp [Op.equalIn, run_underlying hu, hs, sameAddr]
theorem neq34_same (a : Addr) (w : World) : (binOp .neq 34 (.pointer (some a)) (.pointer (some a))).run Try.prog w = .ok (.bool false) w := by
  have h := neq34_any a w 9999
  simp only [binOp]
  simp [Op.equal, Op.maxDepth, h]

theorem make_zero (w : World) : (Instr.makeSlice 22 (.int .i64 0) (.int .i64 0)).run Try.prog w = .ok (.slice (some ⟨w.heap.size, 0, none⟩) 0 0) (w.alloc (.cells (madeCells #[.int .u64 0] 0) 23)) :=
  run_make_row' (P := Try.prog) 22 23 (.int .u64 0) 8 Try.underlying22 Try.info23 rfl .i64 .i64 0 (by omega) (by omega) w

theorem sort_nil (w : World) :
    Calls Try.prog 12 #[.slice none 0 0] w fun e w' => e = .returned (.slice none 0 0) ∧ Kept (fun _ => False) w w' := by
  have hmk := make_zero
  go_enter Try.func12, Try.ntmps12
  go_wp2
  refine wp_loop_rounds 1 ?_
  rw [rounds_succ]
  go_wp2
  go_ret
  exact ⟨rfl, (Kept.refl _ _).alloc _⟩

/-- An empty slice that is not nil: whatever its address. -/
theorem clone_empty (x : Addr) (cap : Nat) (w : World) :
    Calls Try.prog 6 #[.slice (some x) 0 cap] w fun e w' => ∃ g, e = .returned (.slice (some ⟨g, 0, none⟩) 0 0) ∧ w.heap.size ≤ g ∧ Row w' g [] ∧ Kept (fun _ => False) w w' := by
  have hnil := fun w => Lib.run_eql_slice_nil (P := Try.prog) w 22 23 (some x) 0 cap 0 0 Try.underlying22
  have hmk := make_zero
  go_enter Try.func6, Try.ntmps6
  go_wp2
  refine wp_loop_rounds 1 ?_
  rw [rounds_succ]
  go_wp2
  go_ret
  exact ⟨_, rfl, Nat.le_refl _, row_made w 0, (Kept.refl _ _).alloc _⟩

end Go.Proofs.Qxb6604560a
