/-
  '*g != *h' at two generators with the same words: false. And the laws that a region that draws its order takes for a whole struct's load and for that test.
-/
import Derived.Test.Qxb6604560aWorld
import Derived.ChangeKeysEq
namespace Go.Proofs.Qxb6604560a
open Go.RowKit

theorem part23 (cs : Array Value) (off : Nat) (v : Value) (w : World) (h : cs[off]? = some v) : (part 23 cs off).run Try.prog w = .ok v w := by
  have hagg : (isAgg 23).run Try.prog w = .ok false w := by
    unfold isAgg
    rw [Sem.run_bind, run_underlying Try.underlying23 w]
    rfl
  simp [part, Sem.run_bind, hagg, h]
theorem part3 (cs : Array Value) (off : Nat) (v : Value) (w : World) (h : cs[off]? = some v) : (part 3 cs off).run Try.prog w = .ok v w := by
  have hagg : (isAgg 3).run Try.prog w = .ok false w := by
    unfold isAgg
    rw [Sem.run_bind, run_underlying Try.underlying3 w]
    rfl
  simp [part, Sem.run_bind, hagg, h]
theorem Try.size24 : (Try.prog.info? 24).map (·.size) = some 312 := by kernel_rfl
theorem part24 (cs : Array Value) (w : World) : (part 24 cs 0).run Try.prog w = .ok (.agg (cs.extract 0 312)) w := by
  have hagg : (isAgg 24).run Try.prog w = .ok true w := by
    unfold isAgg
    rw [Sem.run_bind, run_underlying Try.underlying24 w]
    rfl
  have hs : (sizeOf 24).run Try.prog w = .ok 312 w := by
    obtain ⟨i, hi, hz⟩ := Option.map_eq_some_iff.1 Try.size24
    simp [sizeOf, typeInfo, hi, hz]
  unfold part
  simp only [Sem.run_bind, hagg, Result.andThen_ok, hs, if_true, Sem.run_pure, Nat.zero_add]

theorem eqItems_same (st : List Int) (d : Nat) (w : World) : ∀ is : List Nat, (∀ i ∈ is, i < st.length) → (Op.eqItems (d + 1) 23 1 (words st) (words st) is).run Try.prog w = .ok true w
  | [], _ => by simp [Op.eqItems]
  | i :: is, h => by
    have hp := part23 (words st) (i * 1) _ w (by rw [Nat.mul_one]; exact words_get st i (h i (by simp)))
    have ih := eqItems_same st d w is (fun j hj => h j (by simp [hj]))
    simp only [Op.eqItems, Sem.run_bind, hp, Result.andThen_ok, run_equalIn_int w d 23 .u64 .u64 _ _ Try.underlying23]
    simpa using ih

theorem eq24_same (st : List Int) (d : Nat) (w : World) (hl : st.length = 312) : (Op.equalIn (d + 2) 24 (.agg (words st)) (.agg (words st))).run Try.prog w = .ok true w := by
  obtain ⟨i, hi, _⟩ := Option.map_eq_some_iff.1 Try.info23
  rw [run_equalIn_array w (d + 1) (words st) (words st) Try.underlying24 hi, show Try.prog.cellsOf 23 = 1 by kernel_rfl]
  exact eqItems_same st d w _ (fun j hj => by rw [hl]; simpa using hj)

theorem Try.fields31 : (Try.prog.fieldsOf 31).toList.map (fun f => (f.name != "_", f.type, f.offset)) = [(true, 24, 0), (true, 3, 312)] := by kernel_rfl

theorem gcells_state (st : List Int) (nx : Int) (hl : st.length = 312) : (gcells st nx).extract 0 312 = words st := by
  unfold gcells words
  simp [hl]
theorem gcells_next (st : List Int) (nx : Int) (hl : st.length = 312) : (gcells st nx)[312]? = some (.int .i64 nx) := by
  simp [gcells, hl]

theorem two_fields : ∀ (fs : List Field), fs.map (fun f => (f.name != "_", f.type, f.offset)) = [(true, 24, 0), (true, 3, 312)] →
    ∃ f1 f2 : Field, fs = [f1, f2] ∧ f1.name ≠ "_" ∧ f1.type = 24 ∧ f1.offset = 0 ∧ f2.name ≠ "_" ∧ f2.type = 3 ∧ f2.offset = 312
  | [], h => by simp at h
  | [_], h => by simp at h
  | [f1, f2], h => by
    simp only [List.map_cons, List.map_nil, List.cons.injEq, Prod.mk.injEq, and_true] at h
    obtain ⟨⟨n1, y1, o1⟩, n2, y2, o2⟩ := h
    exact ⟨f1, f2, rfl, by simpa using n1, y1, o1, by simpa using n2, y2, o2⟩
  | _ :: _ :: _ :: _, h => by simp at h

theorem eqFields_same (st : List Int) (nx : Int) (w : World) (d : Nat) (hl : st.length = 312) (fs : List Field) (hf : fs.map (fun f => (f.name != "_", f.type, f.offset)) = [(true, 24, 0), (true, 3, 312)]) :
    (Op.eqFields (d + 2) (gcells st nx) (gcells st nx) fs).run Try.prog w = .ok true w := by
  obtain ⟨f1, f2, rfl, n1, y1, o1, n2, y2, o2⟩ := two_fields fs hf
  have p1 := part24 (gcells st nx) w
  rw [gcells_state st nx hl] at p1
  have p2 := part3 (gcells st nx) 312 _ w (gcells_next st nx hl)
  have e1 := eq24_same st d w hl
  have e2 := run_equalIn_int (P := Try.prog) w (d + 1) 3 .i64 .i64 nx nx Try.underlying3
  unfold Op.eqFields
  rw [if_pos n1, y1, o1]
  generalize gcells st nx = G at *
  generalize words st = S at *
  rw [Sem.run_bind, p1, Result.andThen_ok, Sem.run_bind, p1, Result.andThen_ok, Sem.run_bind, e1, Result.andThen_ok, if_neg (by decide)]
  unfold Op.eqFields
  rw [if_pos n2, y2, o2, Sem.run_bind, p2, Result.andThen_ok, Sem.run_bind, p2, Result.andThen_ok, Sem.run_bind, e2, Result.andThen_ok, if_neg (by simp)]
  unfold Op.eqFields
  rw [Sem.run_pure]

theorem neq31_any (st : List Int) (nx : Int) (w : World) (d : Nat) (hl : st.length = 312) : (Op.equalIn (d + 3) 31 (.agg (gcells st nx)) (.agg (gcells st nx))).run Try.prog w = .ok true w := by
  have hu : Try.prog.underlying 31 = some (.struct (Try.prog.fieldsOf 31)) := by kernel_rfl
  have hs : Try.prog.stoodInHeld 31 = false := by kernel_rfl
  rw [run_equalIn_struct w (d + 2) 31 _ _ hu hs]
  exact eqFields_same st nx w d hl _ Try.fields31

theorem neq31_same (st : List Int) (nx : Int) (w : World) (hl : st.length = 312) : (binOp .neq 31 (.agg (gcells st nx)) (.agg (gcells st nx))).run Try.prog w = .ok (.bool false) w := by
  have h := neq31_any st nx w 9997 hl
  rw [run_neq_struct]
  have e : (10000 : Nat) = 9997 + 3 := rfl
  rw [e, h]
  rfl

theorem guard31 (x y : Operand) (xs ys : Array Value) (w : World) : (eqGuard .neq 31 x y (.agg xs) (.agg ys)).run Try.prog w = .ok () w :=
  run_eqGuard_agg w .neq 31 x y xs ys (by kernel_rfl)

/-- An operation that yields one value in every world of the kind. -/
theorem quiet_value {P : Program} {o : Oper} {a : Act} {C : World → Prop} {K : Act → Prop} (v : Value) (h : ∀ w, C w → (execOp a.eval o).run P w = .ok (.value v) w) (hk : K (a.put o.dst v)) : o.quiet P a C K :=
  ⟨v, fun w hw => by unfold Oper.quietAt; rw [h w hw]; exact ⟨rfl, rfl⟩, hk⟩

theorem Try.size31 : (Try.prog.info? 31).map (·.size) = some 313 := by kernel_rfl
theorem gcells_size (st : List Int) (nx : Int) (hl : st.length = 312) : (gcells st nx).size = 313 := by simp [gcells, hl]

theorem quiet_load_gen {o : Oper} {a : Act} {w : World} {K : Act → Prop} (x : Operand) (ho : o.op = .load 31 x) (g : Nat) (hx : a.eval x = .pointer (some ⟨g, 0, none⟩)) (st : List Int) (nx : Int) (hl : st.length = 312) (hg : Gen w g st nx)
    (hk : K (a.put o.dst (.agg (gcells st nx)))) : o.quiet Try.prog a (fun w' => ∃ n, w' = w.drewN n) K := by
  refine quiet_value _ ?_ hk
  rintro w' ⟨n, rfl⟩
  have hu : Try.prog.underlying 31 = some (.struct (Try.prog.fieldsOf 31)) := by kernel_rfl
  have hr := run_loadVar_row (P := Try.prog) (w.drewN n) g 31 31 (gcells st nx) (0, 0) _ (hg.drewN n) hu rfl (by rw [gcells_size st nx hl]; exact Try.size31)
  unfold execOp
  simp only [ho, hx, Instr.loadAt, Instr.sureAddr, Sem.run_bind, Sem.run_pure, Result.andThen_ok, hr]

theorem quiet_neq_gen {o : Oper} {a : Act} {C : World → Prop} {K : Act → Prop} (x y : Operand) (t : TypeId) (ho : o.op = .binOp .neq 31 x y t) (st : List Int) (nx : Int) (hl : st.length = 312)
    (hx : a.eval x = .agg (gcells st nx)) (hy : a.eval y = .agg (gcells st nx)) (hk : K (a.put o.dst (.bool false))) : o.quiet Try.prog a C K := by
  refine quiet_value _ ?_ hk
  intro w _
  unfold execOp
  simp only [ho, hx, hy, Sem.run_bind, guard31, neq31_same st nx w hl, Sem.run_pure, Result.andThen_ok]

end Go.Proofs.Qxb6604560a
