/-
  Memory: rows of words, the generator's block; what a call leaves alone.
-/
import Derived.Test.Qxb6604560aRows
import Derived.WalkKit
import Derived.WalkSpells
import Derived.WalkLawsBesides
import Derived.Laws.Rows
import Derived.Deep.OwnRows
import Derived.Lib.SliceRun
import Derived.BigQuiet
import Derived.BigRegion
import Derived.Deep.Draws
namespace Go.Proofs.Qxb6604560a
open Go.RowKit

theorem hide {p : Prop} (h : p) : Hid p := h
theorem ret_int {k : IntKind} {a b : Int} (h : a = b) : Ending.returned (.int k a) = .returned (.int k b) := by rw [h]
theorem ret_bool {a b : Bool} (h : a = b) : Ending.returned (.bool a) = .returned (.bool b) := by rw [h]
theorem eqT {a b : Int} (h : a = b) : (a == b) = true := beq_iff_eq.2 h
theorem eqF {a b : Int} (h : a ≠ b) : (a == b) = false := beq_eq_false_iff_ne.2 h
theorem neF {a b : Int} (h : a = b) : (a != b) = false := by rw [h]; simp
theorem neT {a b : Int} (h : a ≠ b) : (a != b) = true := bne_iff_ne.2 h

/-- Words as cells. -/
def words (xs : List Int) : Array Value := (xs.map (Value.int .u64)).toArray
theorem words_size (xs : List Int) : (words xs).size = xs.length := by simp [words]
theorem words_get (xs : List Int) (j : Nat) (h : j < xs.length) : (words xs)[j]? = some (.int .u64 (xs.getD j 0)) := by
  simp [words, h]
theorem words_set (xs : List Int) (j : Nat) (v : Int) : (words xs).setIfInBounds j (.int .u64 v) = words (xs.set j v) := by
  simp [words, List.map_set]

/-- Block g is a row of words. -/
def Row (w : World) (g : Nat) (xs : List Int) : Prop := w.heap[g]? = some (.cells (words xs) 23 (0, 0))
theorem Row.cell {w : World} {g : Nat} {xs : List Int} (h : Row w g xs) (j : Nat) (hj : j < xs.length) : w.cell? ⟨g, j, none⟩ = some (.int .u64 (xs.getD j 0)) := by
  rw [cell_of_row w g j _ _ _ h, words_get xs j hj]
theorem Row.free {w : World} {g : Nat} {xs : List Int} (h : Row w g xs) (j : Nat) : w.frozen? ⟨g, j, none⟩ = false := frozen_of_row w g j _ _ h
theorem Row.lt {w : World} {g : Nat} {xs : List Int} (h : Row w g xs) : g < w.heap.size := by
  by_cases hlt : g < w.heap.size
  · exact hlt
  · have : w.heap[g]? = none := by simp; omega
    rw [Row, this] at h; cases h
theorem Row.set {w : World} {g : Nat} {xs : List Int} (h : Row w g xs) (j : Nat) (v : Int) : Row (w.setCell ⟨g, j, none⟩ (.int .u64 v)) g (xs.set j v) := by
  have := heap_setCell_same w g j _ _ (.int .u64 v) h
  rw [words_set] at this
  exact this
theorem Row.other {w : World} {g : Nat} {xs : List Int} (h : Row w g xs) (a : Addr) (v : Value) (hn : g ≠ a.block) : Row (w.setCell a v) g xs := by
  unfold Row; rw [heap_setCell_other w a g v hn]; exact h
theorem Row.drew {w : World} {g : Nat} {xs : List Int} (h : Row w g xs) : Row w.drew g xs := h
theorem Row.drewN {w : World} {g : Nat} {xs : List Int} (h : Row w g xs) (n : Nat) : Row (w.drewN n) g xs := h
theorem Row.alloc {w : World} {g : Nat} {xs : List Int} (h : Row w g xs) (o : Obj) : Row (w.alloc o) g xs := by
  unfold Row; rw [Below.heap_alloc w o g h.lt]; exact h

/-- The generator's cells: the state's words, and next. -/
def gcells (st : List Int) (nx : Int) : Array Value := (st.map (Value.int .u64) ++ [Value.int .i64 nx]).toArray
/-- Block g is a generator. -/
def Gen (w : World) (g : Nat) (st : List Int) (nx : Int) : Prop := w.heap[g]? = some (.cells (gcells st nx) 31 (0, 0))
theorem Gen.lt {w : World} {g : Nat} {st : List Int} {nx : Int} (h : Gen w g st nx) : g < w.heap.size := by
  by_cases hlt : g < w.heap.size
  · exact hlt
  · have : w.heap[g]? = none := by simp; omega
    rw [Gen, this] at h; cases h
theorem Gen.cell {w : World} {g : Nat} {st : List Int} {nx : Int} (h : Gen w g st nx) (j : Nat) (hj : j < st.length) : w.cell? ⟨g, j, none⟩ = some (.int .u64 (st.getD j 0)) := by
  rw [cell_of_row w g j _ _ _ h]
  simp [gcells, hj, List.getElem?_append]
theorem Gen.next {w : World} {g : Nat} {st : List Int} {nx : Int} (h : Gen w g st nx) (hl : st.length = 312) : w.cell? ⟨g, 312, none⟩ = some (.int .i64 nx) := by
  rw [cell_of_row w g 312 _ _ _ h]
  simp [gcells, hl]
theorem Gen.free {w : World} {g : Nat} {st : List Int} {nx : Int} (h : Gen w g st nx) (j : Nat) : w.frozen? ⟨g, j, none⟩ = false := frozen_of_row w g j _ _ h
theorem Gen.set {w : World} {g : Nat} {st : List Int} {nx : Int} (h : Gen w g st nx) (j : Nat) (hj : j < st.length) (v : Int) : Gen (w.setCell ⟨g, j, none⟩ (.int .u64 v)) g (st.set j v) nx := by
  have := heap_setCell_same w g j _ _ (.int .u64 v) h
  have e : (gcells st nx).setIfInBounds j (.int .u64 v) = gcells (st.set j v) nx := by
    simp [gcells, List.map_set, hj]
  rw [e] at this
  exact this
theorem Gen.setNext {w : World} {g : Nat} {st : List Int} {nx : Int} (h : Gen w g st nx) (hl : st.length = 312) (v : Int) : Gen (w.setCell ⟨g, 312, none⟩ (.int .i64 v)) g st v := by
  have := heap_setCell_same w g 312 _ _ (.int .i64 v) h
  have e : (gcells st nx).setIfInBounds 312 (.int .i64 v) = gcells st v := by
    simp [gcells, hl]
  rw [e] at this
  exact this
theorem Gen.drew {w : World} {g : Nat} {st : List Int} {nx : Int} (h : Gen w g st nx) : Gen w.drew g st nx := h
theorem Gen.drewN {w : World} {g : Nat} {st : List Int} {nx : Int} (h : Gen w g st nx) (n : Nat) : Gen (w.drewN n) g st nx := h
theorem Gen.other {w : World} {g : Nat} {st : List Int} {nx : Int} (h : Gen w g st nx) (a : Addr) (v : Value) (hn : g ≠ a.block) : Gen (w.setCell a v) g st nx := by
  unfold Gen; rw [heap_setCell_other w a g v hn]; exact h
theorem Gen.alloc {w : World} {g : Nat} {st : List Int} {nx : Int} (h : Gen w g st nx) (o : Obj) : Gen (w.alloc o) g st nx := by
  unfold Gen; rw [Below.heap_alloc w o g h.lt]; exact h

/-- Old blocks are as they were, but those of S. -/
structure Kept (S : Nat → Prop) (w w' : World) : Prop where
  os : w'.os = w.os
  tape : w'.tape = w.tape
  output : w'.output = w.output
  size : w.heap.size ≤ w'.heap.size
  block : ∀ k, k < w.heap.size → ¬ S k → w'.heap[k]? = w.heap[k]?

theorem Kept.refl (S : Nat → Prop) (w : World) : Kept S w w := ⟨rfl, rfl, rfl, Nat.le_refl _, fun _ _ _ => rfl⟩
theorem Kept.trans {S : Nat → Prop} {a b c : World} (h : Kept S a b) (k : Kept S b c) : Kept S a c :=
  ⟨k.os.trans h.os, k.tape.trans h.tape, k.output.trans h.output, Nat.le_trans h.size k.size, fun i hi hs => (k.block i (Nat.lt_of_lt_of_le hi h.size) hs).trans (h.block i hi hs)⟩
theorem Kept.mono {S T : Nat → Prop} {a b : World} (h : Kept S a b) (hst : ∀ k, S k → T k) : Kept T a b :=
  ⟨h.os, h.tape, h.output, h.size, fun i hi hs => h.block i hi (fun hs' => hs (hst i hs'))⟩
theorem Kept.drew {S : Nat → Prop} {a b : World} (h : Kept S a b) : Kept S a b.drew := ⟨h.os, h.tape, h.output, h.size, h.block⟩
theorem Kept.drewN {S : Nat → Prop} {a b : World} (h : Kept S a b) (n : Nat) : Kept S a (b.drewN n) := ⟨h.os, h.tape, h.output, h.size, h.block⟩
theorem Kept.alloc {S : Nat → Prop} {a b : World} (h : Kept S a b) (o : Obj) : Kept S a (b.alloc o) :=
  ⟨h.os, h.tape, h.output, Nat.le_trans h.size (by simp), fun i hi hs => by rw [Below.heap_alloc b o i (Nat.lt_of_lt_of_le hi h.size)]; exact h.block i hi hs⟩
theorem Kept.setCell {S : Nat → Prop} {a b : World} (h : Kept S a b) (p : Addr) (v : Value) (hp : a.heap.size ≤ p.block ∨ S p.block) : Kept S a (b.setCell p v) :=
  ⟨h.os, h.tape, h.output, by rw [show (b.setCell p v).heap.size = b.heap.size by simp [World.setCell]]; exact h.size, fun i hi hs => by
    have hne : i ≠ p.block := by rintro rfl; rcases hp with hp | hp; omega; exact hs hp
    rw [heap_setCell_other b p i v hne]; exact h.block i hi hs⟩
/-- What is new since a may be written. -/
theorem Kept.old {S : Nat → Prop} {a b c : World} (h : Kept S a b) {T : Nat → Prop} (k : Kept T b c) (ht : ∀ i, T i → a.heap.size ≤ i ∨ S i) : Kept S a c :=
  ⟨k.os.trans h.os, k.tape.trans h.tape, k.output.trans h.output, Nat.le_trans h.size k.size, fun i hi hs => (k.block i (Nat.lt_of_lt_of_le hi h.size) (fun hT => by rcases ht i hT with h | h; omega; exact hs h)).trans (h.block i hi hs)⟩
theorem Kept.row {S : Nat → Prop} {w w' : World} (h : Kept S w w') {g : Nat} {xs : List Int} (r : Row w g xs) (hs : ¬ S g) : Row w' g xs := by
  unfold Row; rw [h.block g r.lt hs]; exact r
theorem Kept.gen {S : Nat → Prop} {w w' : World} (h : Kept S w w') {g : Nat} {st : List Int} {nx : Int} (r : Gen w g st nx) (hs : ¬ S g) : Gen w' g st nx := by
  unfold Gen; rw [h.block g r.lt hs]; exact r
theorem Kept.cell {S : Nat → Prop} {w w' : World} (h : Kept S w w') {p : Addr} {v : Value} (hc : w.cell? p = some v) (hs : ¬ S p.block) : w'.cell? p = some v := by
  have hlt := block_lt_of_cell hc
  have := h.block p.block hlt hs
  simp only [World.cell?, this] at hc ⊢
  exact hc
/-- Nothing old was written: 'Below'. -/
theorem Kept.below {S : Nat → Prop} {w w' : World} (h : Kept S w w') (hs : ∀ k, S k → w.heap.size ≤ k) : Below w.heap.size w w' :=
  ⟨h.os, h.tape, h.output, h.size, fun k hk => h.block k hk (fun hS => by have := hs k hS; omega)⟩

theorem Try.info23 : (Try.prog.info? 23).map (fun i => (i.zero, i.size, i.bytes)) = some (some (.int .u64 0), 1, 8) := by kernel_rfl

theorem made_words (n : Nat) : madeCells #[.int .u64 0] n = words (List.replicate n 0) := by
  apply Array.ext
  · simp [size_madeCells, words]
  · intro i h1 h2
    simp [madeCells, words, Nat.mod_one]

end Go.Proofs.Qxb6604560a
