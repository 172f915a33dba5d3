/-
  THE WALK of ZZnewMT64.
-/
import Derived.Test.Qxb6604560aWorld
namespace Go.Proofs.Qxb6604560a
open Go.RowKit

theorem fold_set : ∀ (l : List Value) (off k : Nat) (cs : List Value), off + k + l.length ≤ cs.length →
    (l.zipIdx k).foldl (fun (a : Array Value) (x : Value × Nat) => a.setIfInBounds (off + x.2) x.1) cs.toArray = (cs.take (off + k) ++ l ++ cs.drop (off + k + l.length)).toArray
  | [], off, k, cs, _ => by simp
  | c :: l, off, k, cs, h => by
    rw [List.zipIdx_cons, List.foldl_cons]
    have e : (cs.toArray.setIfInBounds (off + k) c) = (cs.set (off + k) c).toArray := by simp
    simp only [e]
    simp at h
    rw [fold_set l off (k + 1) (cs.set (off + k) c) (by simp; omega)]
    congr 1
    have h1 : off + k < cs.length := by omega
    have e1 : (cs.set (off + k) c).take (off + (k + 1)) = cs.take (off + k) ++ [c] := by
      rw [show off + (k + 1) = (off + k) + 1 by omega, List.take_succ_eq_append_getElem (by simpa using h1), List.take_set_of_le (Nat.le_refl _)]
      simp
    have e2 : (cs.set (off + k) c).drop (off + (k + 1) + l.length) = cs.drop (off + k + (c :: l).length) := by
      rw [List.drop_set_of_lt (by omega)]
      congr 1
      simp; omega
    rw [e1, e2]
    simp

theorem built_open (parts : List (Nat × Value)) : Try.prog.built 31 parts = Instr.fill (#[(0, 312), (312, 1)][·]?) (gcells (List.replicate 312 0) 0) parts := by kernel_rfl

theorem built_gen (st : List Int) (nx : Int) (hl : st.length = 312) : Try.prog.built 31 [(0, .agg (words st)), (1, .int .i64 nx)] = some (gcells st nx) := by
  rw [built_open]
  obtain ⟨Z, hZ⟩ : ∃ Z : List Int, Z = List.replicate 312 0 := ⟨_, rfl⟩
  have hz : Z.length = 312 := by rw [hZ]; exact List.length_replicate
  rw [← hZ]
  clear hZ
  have e1 : (words st).size = 312 := by rw [words_size]; exact hl
  have e2 : (gcells Z 0).size = 313 := by simp [gcells, hz]
  have hf : (words st).zipIdx.foldl (fun (a : Array Value) (x : Value × Nat) => a.setIfInBounds (0 + x.2) x.1) (gcells Z 0) = (st.map (Value.int .u64) ++ [Value.int .i64 0]).toArray := by
    have := fold_set (st.map (Value.int .u64)) 0 0 (Z.map (Value.int .u64) ++ [Value.int .i64 0]) (by simp [hl, hz])
    unfold gcells words
    rw [← Array.foldl_toList, Array.toList_zipIdx]
    rw [this]
    simp [hl, hz]
  have h0 : (#[((0 : Nat), (312 : Nat)), (312, 1)] : Array (Nat × Nat))[(0 : Nat)]? = some (0, 312) := rfl
  have h1 : (#[((0 : Nat), (312 : Nat)), (312, 1)] : Array (Nat × Nat))[(1 : Nat)]? = some (312, 1) := rfl
  unfold Instr.fill
  rw [h0]
  simp only [Value.cells, e1, e2]
  rw [hf]
  unfold Instr.fill
  rw [h1]
  simp only [Value.cells]
  unfold Instr.fill
  simp [gcells, hl]

theorem wpList_build_eq {P : Program} {ops : Array Oper} {rest : List Oper} {o : Oper} {a : Act} {w : World} {Q : Exit → Act → World → Prop} (hg : o.guard = none) (t : TypeId) (parts : Array (Nat × Operand)) (ho : o.op = .build t parts)
    (cells : Array Value) (hf : P.built t (parts.map fun (i, x) => (i, a.eval x)).toList = some cells)
    (h : wpList P ops Q rest (a.put o.dst (.agg cells)) w) : wpList P ops Q (o :: rest) a w :=
  wpList_build hg t parts ho (by rw [hf]; rfl) (by rw [hf]; exact h)

set_option maxRecDepth 100000 in
set_option maxHeartbeats 400000 in
theorem new_any (st : List Int) (nx : Int) (w : World) (hl : st.length = 312) :
    Calls Try.prog 7 #[.agg (words st), .int .i64 nx] w fun e w' => e = .returned (.pointer (some ⟨w.heap.size + 1, 0, none⟩)) ∧ Gen w' (w.heap.size + 1) st nx ∧ Kept (fun _ => False) w w' := by
  have hb := built_gen st nx hl
  have hsz : (Try.prog.info? 24).map (·.size) = some (words st).size := by rw [words_size, hl]; kernel_rfl
  have HB := hide hb
  have HZ := hide hsz
  clear hl hsz hb
  go_enter Try.func7, Try.ntmps7
  go_wp2_with (first
    | (refine wpList_load_row rfl 24 _ rfl w.heap.size rfl 24 (words st) (0, 0) _ (heap_alloc_new _ _) Try.underlying24 rfl HZ.out ?_)
    | (refine wpList_build_eq rfl 31 #[(0, .tmp 5), (1, .tmp 6)] rfl (gcells st nx) ?_ ?_; (· simp [Act.eval]; exact HB.out)))
  go_ret
  refine ⟨rfl, ?_, ((Kept.refl _ _).alloc _).alloc _⟩
  exact heap_alloc2_new w _ _

end Go.Proofs.Qxb6604560a
