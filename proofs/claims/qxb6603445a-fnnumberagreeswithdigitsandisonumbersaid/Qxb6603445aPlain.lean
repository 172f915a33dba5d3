/-
  PLAIN: the plain functions that the walks compute, and their laws. No Go in sight.
-/
namespace Go.Proofs.Qxb6603445a

/-- A decimal digit. -/
def dgt (c : UInt8) : Bool := decide (48 ≤ (c.toNat : Int)) && decide ((c.toNat : Int) ≤ 57)

theorem dgt_yes {c : UInt8} (h : dgt c = true) : 48 ≤ (c.toNat : Int) ∧ (c.toNat : Int) ≤ 57 := by
  simpa [dgt] using h
theorem dgt_mk {c : UInt8} (h1 : 48 ≤ (c.toNat : Int)) (h2 : (c.toNat : Int) ≤ 57) : dgt c = true := by
  simp [dgt, h1, h2]
theorem dgt_no {c : UInt8} (h : ¬ (48 ≤ (c.toNat : Int) ∧ (c.toNat : Int) ≤ 57)) : dgt c = false := by
  cases hd : dgt c with
  | false => rfl
  | true => exact absurd (dgt_yes hd) h

/-- A decimal sign. -/
def sgn (c : UInt8) : Bool := ((c.toNat : Int) == 46) || ((c.toNat : Int) == 44)

/-- How many digits a list starts with. -/
def lead (l : List UInt8) : Nat := (l.takeWhile dgt).length

theorem lead_nil : lead [] = 0 := rfl
theorem lead_yes {c : UInt8} {l : List UInt8} (h : dgt c = true) : lead (c :: l) = lead l + 1 := by
  simp [lead, h]
theorem lead_no {c : UInt8} {l : List UInt8} (h : dgt c = false) : lead (c :: l) = 0 := by
  simp [lead, h]
theorem lead_le : ∀ l : List UInt8, lead l ≤ l.length
  | [] => Nat.le_refl _
  | c :: l => by
    have ih := lead_le l
    cases hc : dgt c with
    | true => rw [lead_yes hc, List.length_cons]; omega
    | false => rw [lead_no hc]; omega

/-- k digits, and then an end or another byte: that is the lead. -/
theorem lead_eq : ∀ (l : List UInt8) (k : Nat), k ≤ l.length → (∀ (j : Nat) (h : j < l.length), j < k → dgt l[j] = true) → (∀ h : k < l.length, dgt l[k] = false) → lead l = k
  | [], k, hk, _, _ => by simp at hk; subst hk; rfl
  | c :: l, 0, _, _, h2 => lead_no (h2 (by simp))
  | c :: l, k + 1, hk, h1, h2 => by
    have hc : dgt c = true := h1 0 (by simp) (by omega)
    rw [lead_yes hc, lead_eq l k (by simpa using hk) (fun j h hj => h1 (j + 1) (by simpa using h) (by omega)) (fun h => h2 (by simpa using h))]

theorem lead_in : ∀ (l : List UInt8) (j : Nat) (h : j < l.length), j < lead l → dgt l[j] = true
  | c :: l, j, h, hj => by
    cases hc : dgt c with
    | false => rw [lead_no hc] at hj; omega
    | true =>
      rw [lead_yes hc] at hj
      match j, h, hj with
      | 0, _, _ => simpa using hc
      | j + 1, h, hj => simpa using lead_in l j (by simpa using h) (by omega)

theorem lead_out : ∀ (l : List UInt8) (h : lead l < l.length), dgt l[lead l] = false
  | c :: l, h => by
    cases hc : dgt c with
    | false =>
      have e := lead_no (l := l) hc
      have : ∀ (k : Nat) (hk : k < (c :: l).length), k = 0 → dgt (c :: l)[k] = false := by
        intro k hk e0; subst e0; simpa using hc
      exact this _ h e
    | true =>
      have e := lead_yes (l := l) hc
      have : ∀ (k : Nat) (hk : k < (c :: l).length), k = lead l + 1 → dgt (c :: l)[k] = false := by
        intro k hk e0; subst e0
        simpa using lead_out l (by simpa using hk)
      exact this _ h e

/-- All digits: the lead is the whole. -/
theorem lead_all (l : List UInt8) (h : l.all dgt = true) : lead l = l.length := by
  rw [lead_eq l l.length (Nat.le_refl _) (fun j hj _ => by rw [List.all_eq_true] at h; exact h _ (List.getElem_mem hj)) (fun h' => absurd h' (by omega))]

theorem all_of_lead (l : List UInt8) (h : lead l = l.length) : l.all dgt = true := by
  rw [List.all_eq_true]
  intro x hx
  obtain ⟨j, hj, rfl⟩ := List.getElem_of_mem hx
  exact lead_in l j hj (by omega)

theorem not_all_of_lead (l : List UInt8) (h : lead l ≠ l.length) : l.all dgt = false := by
  cases ha : l.all dgt with
  | false => rfl
  | true => exact absurd (lead_all l ha) h

/-- One digit more, under the ceiling. -/
def step (n : Nat) (c : UInt8) : Nat := min (n * 10 + (c.toNat - 48)) 65536
/-- What the digits come to. -/
def val (l : List UInt8) : Nat := l.foldl step 0

theorem step_le (n : Nat) (c : UInt8) : step n c ≤ 65536 := by unfold step; omega

theorem foldl_step_le (l : List UInt8) (n : Nat) (h : n ≤ 65536) : l.foldl step n ≤ 65536 := by
  induction l generalizing n with
  | nil => simpa using h
  | cons c l ih => rw [List.foldl_cons]; exact ih _ (step_le n c)

theorem val_le (l : List UInt8) : val l ≤ 65536 := foldl_step_le l 0 (by omega)

theorem val_snoc (l : List UInt8) (c : UInt8) : val (l ++ [c]) = step (val l) c := by
  simp [val, List.foldl_append]

theorem val_zero (l : List UInt8) : val (48 :: l) = val l := by
  have : step 0 48 = 0 := by decide
  simp [val, this]

/-- What 'number' answers. -/
def numV (l : List UInt8) : Nat := if l.isEmpty then 0 else if l.all dgt then val l else 0
def numB (l : List UInt8) : Bool := !l.isEmpty && l.all dgt


theorem all_no (l : List UInt8) (k : Nat) (h : k < l.length) (hk : dgt l[k] = false) : l.all dgt = false := by
  cases ha : l.all dgt with
  | false => rfl
  | true =>
    rw [List.all_eq_true] at ha
    rw [ha _ (List.getElem_mem h)] at hk
    cases hk

/-- All digits. -/
def allD (l : List UInt8) : Bool := l.all dgt
theorem allD_no (l : List UInt8) (k : Nat) (h : k < l.length) (hk : dgt l[k] = false) : allD l = false := all_no l k h hk
theorem allD_of_lead (l : List UInt8) (h : lead l = l.length) : allD l = true := all_of_lead l h
theorem allD_not (l : List UInt8) (h : lead l ≠ l.length) : allD l = false := not_all_of_lead l h
theorem lead_allD (l : List UInt8) (h : allD l = true) : lead l = l.length := lead_all l h

/-- The lead itself is all digits. -/
theorem allD_lead (l : List UInt8) : allD (l.take (lead l)) = true := by
  unfold allD
  rw [List.all_eq_true]
  intro x hx
  obtain ⟨j, hj, rfl⟩ := List.getElem_of_mem hx
  rw [List.getElem_take]
  simp at hj
  exact lead_in l j (by omega) (by omega)

end Go.Proofs.Qxb6603445a
