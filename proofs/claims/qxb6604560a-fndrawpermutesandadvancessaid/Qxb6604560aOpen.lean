/-
  THE ARGUMENTS, OPENED: a slice of words, an array of 312 words by value.
-/
import Derived.Test.Qxb6604560aWorld
import Derived.ProofKit
import Derived.OpenShut
import Derived.ShutString
import Derived.ChangeOld
import Derived.Below
namespace Go.Proofs.Qxb6604560a
open Go.ChangeShapes Go.WideShapes Go.ChangeAt Go.RowKit

theorem own : ownKnob Try.prog.godebug = none := by kernel_rfl
theorem laidOut : laidOutB Try.prog = true := by kernel_rfl
theorem Try.cells23 : Try.prog.cellsOf 23 = 1 := by kernel_rfl
theorem Try.cells24 : Try.prog.cellsOf 24 = 312 := by kernel_rfl

/-- What the walk is told of a slice of words that came in: it is nil; or it leads to a row of 'cap' cells, the numbers 'zs' (the first 'len' are its elements). -/
def IsRow (w : World) (a : Option Addr) (len cap : Nat) (zs : List Int) : Prop :=
  (a = none ∧ len = 0 ∧ cap = 0 ∧ zs = []) ∨
  ∃ x, a = some x ∧ len ≤ cap ∧ cap ≤ maxLen ∧ zs.length = cap ∧ (∀ i, i < zs.length → w.cell? (x.add i) = some (.int .u64 (zs.getD i 0)))

theorem okWide_array {P : Program} {w : World} {r : Reach} {base : Nat} {t : TypeId} {v : Value} {n : Nat} {e : TypeId} (ht : P.underlying t = some (.array n e)) (h : Value.okWide P w r base t v) : ∃ cs, v = .agg cs ∧ cs.size = P.cellsOf t := by
  simp only [Value.okWide, ht] at h
  obtain ⟨cs, h1, h2, _⟩ := h
  exact ⟨cs, h1, h2⟩

theorem list_of_cells : ∀ (n : Nat) (cs : List Value), cs.length = n → (∀ i, i < n → ∃ z, cs[i]? = some (.int .u64 z)) → ∃ st : List Int, st.length = n ∧ cs = st.map (Value.int .u64)
  | 0, cs, hl, _ => ⟨[], rfl, by simpa using hl⟩
  | n + 1, [], hl, _ => by simp at hl
  | n + 1, c :: cs, hl, h => by
    obtain ⟨z, hz⟩ := h 0 (by omega)
    obtain ⟨st, h1, h2⟩ := list_of_cells n cs (by simpa using hl) (fun i hi => by simpa using h (i + 1) (by omega))
    simp at hz
    exact ⟨z :: st, by simp [h1], by simp [hz, h2]⟩

section
variable {H : Type} {enc : TypeId × Value → H} {W : World} {r : Reach} {b0 base : Nat} {spare : Nat → Bool} {held : Bool}

theorem open_state {v : Value} {d : DataW H} {p : List MemPlace} (hv : Value.okWide Try.prog W r b0 24 v) (h : DataW.Trod enc Try.prog W base spare held 24 v d p) :
    ∃ st : List Int, st.length = 312 ∧ v = .agg (words st) := by
  obtain ⟨cs, rfl, hsz⟩ := okWide_array Try.underlying24 hv
  rw [Try.cells24] at hsz
  obtain ⟨fuel, hf⟩ := h
  obtain ⟨xs, m, _, _, _, hl, hel⟩ := DataW.trod_array Try.underlying24 hf
  obtain ⟨st, h1, h2⟩ := list_of_cells 312 cs.toList (by simpa using hsz) (fun i hi => by
    have hE := hel i hi
    rw [Try.cells23, Nat.mul_one, List.getElem?_eq_getElem (by omega)] at hE
    obtain ⟨z, e1, _, _⟩ := DataW.trod_int Try.underlying23 hE
    refine ⟨z, ?_⟩
    have h0 : (((Value.agg cs).cells.toList.drop i).take 1)[0]? = some (.int .u64 z) := by rw [e1]; rfl
    simpa [Value.cells] using h0)
  refine ⟨st, h1, ?_⟩
  unfold words
  rw [← h2]

theorem open_list {a : Option Addr} {len cap : Nat} {d : DataW H} {p : List MemPlace} (h : DataW.Trod enc Try.prog W base (fun _ => true) true 22 (.slice a len cap) d p) : ∃ zs, IsRow W a len cap zs := by
  obtain ⟨fuel, hf⟩ := h
  rcases open_ints Try.underlying22 Try.underlying23 Try.cells23 hf with ⟨hcs, _⟩ | ⟨x, l, c, zs, hcs, _, hl, hm, hz, _, hcell, hwz⟩
  · simp [Value.cells] at hcs
    obtain ⟨rfl, rfl, rfl⟩ := hcs
    exact ⟨[], .inl ⟨rfl, rfl, rfl, rfl⟩⟩
  · simp [Value.cells] at hcs
    obtain ⟨rfl, rfl, rfl⟩ := hcs
    exact ⟨zs, .inr ⟨_, rfl, hl, hm, by simpa using hz, hcell⟩⟩
end

/-- The elements, where there is one: a plain address. -/
theorem IsRow.plain {w : World} {a : Option Addr} {len cap : Nat} {zs : List Int} (h : IsRow w a len cap zs) (h0 : 0 < len) :
    ∃ (b off : Nat) (xs : List Int), a = some ⟨b, off, none⟩ ∧ xs.length = len ∧ ∀ j, j < len → w.cell? ⟨b, off + j, none⟩ = some (.int .u64 (xs.getD j 0)) := by
  rcases h with ⟨_, rfl, _⟩ | ⟨x, rfl, hl, _, hz, hc⟩
  · omega
  · obtain ⟨b, off, spot⟩ := x
    have hspot : spot = none := by simpa [Addr.add] using World.cell?_spot (hc 0 (by omega))
    subst hspot
    refine ⟨b, off, zs.take len, rfl, by simp; omega, fun j hj => ?_⟩
    have := hc j (by omega)
    rw [add_plain] at this
    rw [this]
    simp [List.getD, hj]

end Go.Proofs.Qxb6604560a
