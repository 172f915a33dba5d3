/-
  PLAIN: the bottom-up merge sort: one pass merges neighbouring runs; runs of length w that are sorted become runs of length 2w that are sorted; the words are permuted. No Go in sight.
-/
namespace Go.Proofs.Qxb6604560a

def lew (a b : Int) : Bool := decide (a ≤ b)
theorem lew_trans (a b c : Int) (h1 : lew a b = true) (h2 : lew b c = true) : lew a c = true := by
  simp [lew] at *; omega
theorem lew_total (a b : Int) : (lew a b || lew b a) = true := by
  simp [lew]; omega

/-- The places a .. b-1. -/
def seg (A : List Int) (a b : Nat) : List Int := (A.take b).drop a
theorem seg_length (A : List Int) (a b : Nat) : (seg A a b).length = min b A.length - a := by simp [seg]
theorem seg_empty (A : List Int) (a b : Nat) (h : b ≤ a) : seg A a b = [] := by
  apply List.eq_nil_of_length_eq_zero; rw [seg_length]; omega
theorem seg_head (A : List Int) (a b : Nat) (h1 : a < b) (h2 : a < A.length) : seg A a b = A.getD a 0 :: seg A (a + 1) b := by
  unfold seg
  rw [List.drop_eq_getElem_cons (by simp; omega)]
  simp [List.getElem_take, List.getD, h2]
theorem seg_append (A : List Int) (a b c : Nat) (h1 : a ≤ b) (h2 : b ≤ c) : seg A a b ++ seg A b c = seg A a c := by
  unfold seg
  have e : A.take b = (A.take c).take b := by rw [List.take_take, Nat.min_eq_left h2]
  rw [e]
  rcases Nat.le_total b (A.take c).length with h | h
  · rw [← List.drop_append_of_le_length (by simp at h ⊢; omega), List.take_append_drop]
  · rw [List.take_of_length_le h, List.drop_of_length_le (l := A.take c) h, List.append_nil]
theorem seg_zero (A : List Int) (b : Nat) : seg A 0 b = A.take b := by simp [seg]
theorem seg_min (A : List Int) (a b n : Nat) (h : A.length = n) : seg A (min a n) (min b n) = seg A a b := by
  unfold seg
  have e : A.take (min b n) = A.take b := by
    rcases Nat.le_total b n with h1 | h1
    · rw [Nat.min_eq_left h1]
    · rw [Nat.min_eq_right h1, List.take_of_length_le (by omega), List.take_of_length_le (by omega)]
  rw [e]
  rcases Nat.le_total a n with h1 | h1
  · rw [Nat.min_eq_left h1]
  · rw [Nat.min_eq_right h1, List.drop_of_length_le (by simp; omega), List.drop_of_length_le (by simp; omega)]

theorem succ2 (c w : Nat) : (c + 1) * (2 * w) = c * (2 * w) + 2 * w := by rw [Nat.add_mul, Nat.one_mul]

/-- Two neighbouring runs, merged. -/
def mb (w : Nat) (A : List Int) (c : Nat) : List Int := List.merge (seg A (c * (2 * w)) (c * (2 * w) + w)) (seg A (c * (2 * w) + w) (c * (2 * w) + 2 * w)) lew
def passTo (w : Nat) (A : List Int) : Nat → List Int
  | 0 => []
  | c + 1 => passTo w A c ++ mb w A c

theorem mb_perm (w : Nat) (A : List Int) (c : Nat) : (mb w A c).Perm (seg A (c * (2 * w)) (c * (2 * w) + 2 * w)) := by
  unfold mb
  refine (List.merge_perm_append lew).trans ?_
  rw [seg_append A _ _ _ (by omega) (by omega)]
theorem passTo_perm (w : Nat) (A : List Int) : ∀ c, (passTo w A c).Perm (A.take (c * (2 * w)))
  | 0 => by simp [passTo]
  | c + 1 => by
    show (passTo w A c ++ mb w A c).Perm _
    refine ((passTo_perm w A c).append (mb_perm w A c)).trans ?_
    rw [← seg_zero, ← seg_zero, succ2, seg_append A _ _ _ (Nat.zero_le _) (by omega)]
theorem passTo_length (w : Nat) (A : List Int) (c : Nat) : (passTo w A c).length = min (c * (2 * w)) A.length := by
  rw [(passTo_perm w A c).length_eq]; simp
theorem passTo_take (w : Nat) (A : List Int) (c : Nat) : ∀ d, (passTo w A (c + d)).take (c * (2 * w)) = passTo w A c
  | 0 => by
    rw [Nat.add_zero]
    exact List.take_of_length_le (by rw [passTo_length]; omega)
  | d + 1 => by
    show (passTo w A (c + d) ++ mb w A (c + d)).take (c * (2 * w)) = _
    have hl := passTo_length w A (c + d)
    have hm := (mb_perm w A (c + d)).length_eq
    rw [seg_length] at hm
    have hc : c * (2 * w) ≤ (c + d) * (2 * w) := Nat.mul_le_mul_right _ (by omega)
    rcases Nat.le_total ((c + d) * (2 * w)) A.length with h | h
    · rw [List.take_append_of_le_length (by omega)]
      exact passTo_take w A c d
    · have : mb w A (c + d) = [] := List.eq_nil_of_length_eq_zero (by omega)
      rw [this, List.append_nil]
      exact passTo_take w A c d

/-- Runs of length w are sorted. -/
def RS (w : Nat) (A : List Int) : Prop := ∀ c, (seg A (c * w) (c * w + w)).Pairwise (fun a b => lew a b = true)
theorem RS_one (A : List Int) : RS 1 A := by
  intro c
  have h : (seg A (c * 1) (c * 1 + 1)).length ≤ 1 := by rw [seg_length]; omega
  match hs : seg A (c * 1) (c * 1 + 1), h with
  | [], _ => exact List.Pairwise.nil
  | [_], _ => simp
  | _ :: _ :: _, h => simp at h
theorem RS_done (w : Nat) (A : List Int) (h : RS w A) (hw : A.length ≤ w) : A.Pairwise (fun a b => lew a b = true) := by
  have := h 0
  rw [Nat.zero_mul, Nat.zero_add, seg_zero, List.take_of_length_le hw] at this
  exact this
theorem mb_sorted (w : Nat) (A : List Int) (h : RS w A) (c : Nat) : (mb w A c).Pairwise (fun a b => lew a b = true) := by
  unfold mb
  refine List.pairwise_merge lew_trans lew_total _ _ ?_ ?_
  · have := h (2 * c)
    rw [show 2 * c * w = c * (2 * w) by rw [Nat.mul_comm 2 c, Nat.mul_assoc]] at this
    exact this
  · have := h (2 * c + 1)
    rw [show (2 * c + 1) * w = c * (2 * w) + w by rw [Nat.succ_mul, Nat.mul_comm 2 c, Nat.mul_assoc]] at this
    rw [show c * (2 * w) + 2 * w = c * (2 * w) + w + w by omega]
    exact this
theorem RS_pass (w : Nat) (A : List Int) (h : RS w A) (C : Nat) (hC : A.length ≤ C * (2 * w)) : RS (2 * w) (passTo w A C) := by
  intro c
  by_cases hc : c < C
  · have e1 : seg (passTo w A C) (c * (2 * w)) (c * (2 * w) + 2 * w) = (passTo w A (c + 1)).drop (c * (2 * w)) := by
      unfold seg
      have := passTo_take w A (c + 1) (C - (c + 1))
      rw [show c + 1 + (C - (c + 1)) = C by omega, succ2] at this
      rw [this]
    rw [e1]
    show ((passTo w A c ++ mb w A c).drop (c * (2 * w))).Pairwise _
    have hl := passTo_length w A c
    rcases Nat.le_total (c * (2 * w)) A.length with h1 | h1
    · rw [List.drop_append_of_le_length (by omega), List.drop_of_length_le (by omega), List.nil_append]
      exact mb_sorted w A h c
    · have hm := (mb_perm w A c).length_eq
      rw [seg_length] at hm
      rw [List.drop_of_length_le (by rw [List.length_append]; omega)]
      exact List.Pairwise.nil
  · have hl := passTo_length w A C
    have : C * (2 * w) ≤ c * (2 * w) := Nat.mul_le_mul_right _ (by omega)
    rw [List.eq_nil_of_length_eq_zero (l := seg (passTo w A C) (c * (2 * w)) (c * (2 * w) + 2 * w)) (by rw [seg_length]; omega)]
    exact List.Pairwise.nil

/-- Two sorted lists of the same words are one. -/
theorem sorted_one {A B : List Int} (ha : A.Pairwise (fun a b => lew a b = true)) (hb : B.Pairwise (fun a b => lew a b = true)) (h : A.Perm B) : A = B := by
  refine List.Perm.eq_of_pairwise (le := fun a b => lew a b = true) ?_ ha hb h
  intro a b _ _ h1 h2
  simp [lew] at h1 h2; omega

/-! ### The merge, a word at a time -/
theorem merge_left (A : List Int) (i j mid hi : Nat) (h1 : i < mid) (hm : mid ≤ A.length) (hh : hi ≤ A.length) (h : hi ≤ j ∨ A.getD i 0 ≤ A.getD j 0) :
    List.merge (seg A i mid) (seg A j hi) lew = A.getD i 0 :: List.merge (seg A (i + 1) mid) (seg A j hi) lew := by
  rw [seg_head A i mid h1 (by omega)]
  by_cases hj : hi ≤ j
  · rw [seg_empty A j hi hj, List.merge_right, List.merge_right]
  · have h2 : A.getD i 0 ≤ A.getD j 0 := by rcases h with h | h; omega; exact h
    rw [seg_head A j hi (by omega) (by omega), List.cons_merge_cons, if_pos (by simp only [lew]; exact decide_eq_true h2)]
theorem merge_right' (A : List Int) (i j mid hi : Nat) (h1 : j < hi) (hh : hi ≤ A.length) (hm : mid ≤ A.length) (h : mid ≤ i ∨ A.getD j 0 < A.getD i 0) :
    List.merge (seg A i mid) (seg A j hi) lew = A.getD j 0 :: List.merge (seg A i mid) (seg A (j + 1) hi) lew := by
  rw [seg_head A j hi h1 (by omega)]
  by_cases hi' : mid ≤ i
  · rw [seg_empty A i mid hi', List.nil_merge, List.nil_merge]
  · have h2 : A.getD j 0 < A.getD i 0 := by rcases h with h | h; omega; exact h
    rw [seg_head A i mid (by omega) (by omega), List.cons_merge_cons, if_neg (by simp only [lew, decide_eq_true_eq]; omega)]

theorem seg_set (B : List Int) (lo o : Nat) (v : Int) (h1 : lo ≤ o) (h2 : o < B.length) : seg (B.set o v) lo (o + 1) = seg B lo o ++ [v] := by
  unfold seg
  rw [List.take_succ_eq_append_getElem (by simpa using h2), List.take_set_of_le (Nat.le_refl _), List.getElem_set_self, List.drop_append_of_le_length (by simp; omega)]
theorem take_set_low (B : List Int) (lo o : Nat) (v : Int) (h1 : lo ≤ o) : (B.set o v).take lo = B.take lo := List.take_set_of_le h1

/-- Inside one merge. -/
def InInv (A B pre M : List Int) (lo mid hi i j o : Nat) : Prop :=
  B.length = A.length ∧ B.take lo = pre ∧ seg B lo o ++ List.merge (seg A i mid) (seg A j hi) lew = M ∧ lo ≤ i ∧ i ≤ mid ∧ mid ≤ j ∧ j ≤ hi ∧ hi ≤ A.length ∧ o + mid = i + j
/-- Between the merges of one pass. -/
def MidInv (w : Nat) (A B : List Int) (lo : Nat) : Prop := B.length = A.length ∧ ∃ c, lo = c * (2 * w) ∧ B.take lo = passTo w A c
/-- Between the passes. -/
def OutInv (xs A : List Int) (w : Nat) : Prop := A.length = xs.length ∧ A.Perm xs ∧ RS w A

theorem InInv.left {A B pre M : List Int} {lo mid hi i j o : Nat} (h : InInv A B pre M lo mid hi i j o) (ho : o < hi) (hc : hi ≤ j ∨ (i < mid ∧ A.getD i 0 ≤ A.getD j 0)) : InInv A (B.set o (A.getD i 0)) pre M lo mid hi (i + 1) j (o + 1) := by
  obtain ⟨h1, h2, h3, h4, h5, h6, h7, h8, h9⟩ := h
  have hi' : i < mid := by rcases hc with hc | hc; omega; exact hc.1
  refine ⟨by simpa using h1, ?_, ?_, by omega, by omega, h6, h7, h8, by omega⟩
  · rw [take_set_low _ _ _ _ (by omega)]; exact h2
  · rw [seg_set B lo o _ (by omega) (by omega), List.append_assoc]
    rw [← h3, merge_left A i j mid hi hi' (by omega) h8 (by rcases hc with hc | hc; exact Or.inl hc; exact Or.inr hc.2)]
    rfl
theorem InInv.right {A B pre M : List Int} {lo mid hi i j o : Nat} (h : InInv A B pre M lo mid hi i j o) (ho : o < hi) (hj : j < hi) (hc : mid ≤ i ∨ A.getD j 0 < A.getD i 0) : InInv A (B.set o (A.getD j 0)) pre M lo mid hi i (j + 1) (o + 1) := by
  obtain ⟨h1, h2, h3, h4, h5, h6, h7, h8, h9⟩ := h
  refine ⟨by simpa using h1, ?_, ?_, by omega, by omega, by omega, by omega, h8, by omega⟩
  · rw [take_set_low _ _ _ _ (by omega)]; exact h2
  · rw [seg_set B lo o _ (by omega) (by omega), List.append_assoc]
    rw [← h3, merge_right' A i j mid hi hj h8 (by omega) hc]
    rfl
theorem InInv.start {w : Nat} {A B : List Int} {lo : Nat} (h : MidInv w A B lo) (hlt : lo < A.length) :
    InInv A B (B.take lo) (List.merge (seg A lo (min (lo + w) A.length)) (seg A (min (lo + w) A.length) (min (lo + 2 * w) A.length)) lew) lo (min (lo + w) A.length) (min (lo + 2 * w) A.length) lo (min (lo + w) A.length) lo := by
  obtain ⟨h1, _⟩ := h
  refine ⟨h1, rfl, ?_, Nat.le_refl _, by omega, Nat.le_refl _, by omega, by omega, by omega⟩
  rw [seg_empty B lo lo (Nat.le_refl _), List.nil_append]
theorem InInv.done {w : Nat} {A B B0 : List Int} {lo i j o : Nat} (h0 : MidInv w A B0 lo)
    (h : InInv A B (B0.take lo) (List.merge (seg A lo (min (lo + w) A.length)) (seg A (min (lo + w) A.length) (min (lo + 2 * w) A.length)) lew) lo (min (lo + w) A.length) (min (lo + 2 * w) A.length) i j o) (ho : ¬ o < min (lo + 2 * w) A.length) (hlt : lo < A.length) :
    MidInv w A B (lo + 2 * w) := by
  obtain ⟨k1, c, k2, k3⟩ := h0
  obtain ⟨h1, h2, h3, h4, h5, h6, h7, h8, h9⟩ := h
  refine ⟨h1, c + 1, by rw [k2, succ2], ?_⟩
  have ei : i = min (lo + w) A.length := by omega
  have ej : j = min (lo + 2 * w) A.length := by omega
  have eo : o = min (lo + 2 * w) A.length := by omega
  rw [seg_empty A i _ (by omega), seg_empty A j _ (by omega), List.nil_merge, List.append_nil] at h3
  rw [seg_min A (lo + w) (lo + 2 * w) A.length rfl] at h3
  have e3 : seg A lo (min (lo + w) A.length) = seg A lo (lo + w) := by
    have := seg_min A lo (lo + w) A.length rfl
    rw [Nat.min_eq_left (by omega)] at this
    exact this
  rw [e3] at h3
  show B.take (lo + 2 * w) = passTo w A c ++ mb w A c
  rw [← k3, ← h2]
  have e4 : mb w A c = seg B lo o := by rw [h3]; unfold mb; rw [← k2]
  rw [e4]
  have e5 : B.take (lo + 2 * w) = B.take o := by
    rcases Nat.le_total (lo + 2 * w) A.length with h | h
    · rw [eo, Nat.min_eq_left h]
    · rw [eo, Nat.min_eq_right h, List.take_of_length_le (by omega), List.take_of_length_le (by omega)]
  rw [e5, ← seg_zero B lo, ← seg_zero B o, seg_append B 0 lo o (Nat.zero_le _) (by omega)]
theorem MidInv.start (w : Nat) (A B : List Int) (h : B.length = A.length) : MidInv w A B 0 := ⟨h, 0, by simp, by simp [passTo]⟩
theorem MidInv.done {w : Nat} {A B xs : List Int} {lo : Nat} (h : MidInv w A B lo) (hx : OutInv xs A w) (hlo : ¬ lo < A.length) : OutInv xs B (2 * w) := by
  obtain ⟨h1, c, h2, h3⟩ := h
  obtain ⟨k1, k2, k3⟩ := hx
  have hB : B = passTo w A c := by rw [← h3, List.take_of_length_le (by omega)]
  refine ⟨by omega, ?_, ?_⟩
  · rw [hB]
    refine (passTo_perm w A c).trans ?_
    rw [List.take_of_length_le (by omega)]
    exact k2
  · rw [hB]; exact RS_pass w A k3 c (by omega)
theorem OutInv.start (xs : List Int) : OutInv xs xs 1 := ⟨rfl, List.Perm.refl _, RS_one xs⟩
theorem OutInv.done {xs A : List Int} {w : Nat} (h : OutInv xs A w) (hw : ¬ w < xs.length) : A.Pairwise (fun a b => lew a b = true) ∧ A.Perm xs :=
  ⟨RS_done w A h.2.2 (by have := h.1; omega), h.2.1⟩

end Go.Proofs.Qxb6604560a
