/-
  PLAIN: the value of a run of digits by the other road: strip leading zeros; more than five significant digits: over the ceiling; else a positional sum.
-/
import Derived.Test.Qxb6603445aPlain
namespace Go.Proofs.Qxb6603445a

/-- The positional value. -/
def dec (l : List UInt8) : Nat := l.foldl (fun n c => n * 10 + (c.toNat - 48)) 0

theorem dec_from : ∀ (l : List UInt8) (n : Nat), l.foldl (fun n c => n * 10 + (c.toNat - 48)) n = n * 10 ^ l.length + dec l
  | [], n => by simp [dec]
  | c :: l, n => by
    have h1 := dec_from l (n * 10 + (c.toNat - 48))
    have h2 := dec_from l (0 * 10 + (c.toNat - 48))
    unfold dec
    rw [List.foldl_cons, List.foldl_cons, h1, h2, List.length_cons, Nat.pow_succ, Nat.add_mul, Nat.zero_mul, Nat.zero_add, Nat.mul_assoc, Nat.mul_comm 10, Nat.add_assoc]

theorem dec_cons (c : UInt8) (l : List UInt8) : dec (c :: l) = (c.toNat - 48) * 10 ^ l.length + dec l := by
  have := dec_from l (0 * 10 + (c.toNat - 48))
  have e : dec (c :: l) = l.foldl (fun n c => n * 10 + (c.toNat - 48)) (0 * 10 + (c.toNat - 48)) := rfl
  rw [e, this, Nat.zero_mul, Nat.zero_add]

theorem fold_min : ∀ (l : List UInt8) (n : Nat), l.foldl step (min n 65536) = min (l.foldl (fun n c => n * 10 + (c.toNat - 48)) n) 65536
  | [], n => rfl
  | c :: l, n => by
    have e : step (min n 65536) c = min (n * 10 + (c.toNat - 48)) 65536 := by unfold step; omega
    rw [List.foldl_cons, List.foldl_cons, e, fold_min l]

theorem val_dec (l : List UInt8) : val l = min (dec l) 65536 := fold_min l 0

theorem dec_lt : ∀ (l : List UInt8), allD l = true → dec l < 10 ^ l.length
  | [], _ => by simp [dec]
  | c :: l, h => by
    have hc : dgt c = true ∧ allD l = true := by simpa [allD] using h
    have h1 := dgt_yes hc.1
    have h2 := dec_lt l hc.2
    rw [dec_cons, List.length_cons, Nat.pow_succ]
    have h3 : c.toNat - 48 ≤ 9 := by omega
    have h4 := Nat.mul_le_mul_right (10 ^ l.length) h3
    omega

/-- A first digit that is no zero, and five more: over the ceiling. -/
theorem dec_big (c : UInt8) (l : List UInt8) (hc : dgt c = true) (h0 : (c.toNat : Int) ≠ 48) (hl : 5 ≤ l.length) : 65536 ≤ dec (c :: l) := by
  have h1 := dgt_yes hc
  rw [dec_cons]
  have h3 : 1 ≤ c.toNat - 48 := by omega
  have h4 := Nat.mul_le_mul_right (10 ^ l.length) h3
  have h5 : 10 ^ 5 ≤ 10 ^ l.length := Nat.pow_le_pow_right (by omega) hl
  omega

theorem dec_zeros : ∀ (k : Nat) (l : List UInt8), (∀ (j : Nat) (h : j < l.length), j < k → (l[j].toNat : Int) = 48) → dec (l.drop k) = dec l
  | 0, l, _ => rfl
  | k + 1, [], _ => rfl
  | k + 1, c :: l, h => by
    rw [List.drop_succ_cons, dec_zeros k l (fun j hj hk => h (j + 1) (by simpa using hj) (by omega)), dec_cons]
    have := h 0 (by simp) (by omega)
    have h0 : c.toNat - 48 = 0 := by
      simp at this; omega
    rw [h0]; omega

theorem allD_drop (l : List UInt8) (k : Nat) (h : allD l = true) : allD (l.drop k) = true := by
  unfold allD at h ⊢
  rw [List.all_eq_true] at h ⊢
  intro x hx
  exact h x (List.mem_of_mem_drop hx)

theorem allD_head (c : UInt8) (l : List UInt8) (h : allD (c :: l) = true) : dgt c = true := by
  have : dgt c = true ∧ allD l = true := by simpa [allD] using h
  exact this.1

/-- Behind the zeros: more than five digits. -/
theorem val_big (l : List UInt8) (k : Nat) (ha : allD l = true) (hz : ∀ (j : Nat) (h : j < l.length), j < k → (l[j].toNat : Int) = 48) (h0 : ∀ h : k < l.length, (l[k].toNat : Int) ≠ 48) (h5 : 5 < l.length - k) : val l = 65536 := by
  rw [val_dec, ← dec_zeros k l hz]
  have hlt : k < l.length := by omega
  have hd := allD_drop l k ha
  rw [List.drop_eq_getElem_cons hlt] at hd ⊢
  have hc : dgt l[k] = true := allD_head _ _ hd
  have := dec_big l[k] (l.drop (k + 1)) hc (h0 hlt) (by simp; omega)
  omega

/-- Behind the zeros: five digits or fewer. -/
theorem val_small (l : List UInt8) (k : Nat) (hz : ∀ (j : Nat) (h : j < l.length), j < k → (l[j].toNat : Int) = 48) : (val l : Int) = if 65536 < (dec (l.drop k) : Int) then 65536 else (dec (l.drop k) : Int) := by
  rw [val_dec, ← dec_zeros k l hz]
  split <;> omega

/-- One round of the sum. -/
theorem dec_round (l : List UInt8) (k : Nat) (h : k < l.length) : dec (l.drop k) = dec (l.drop (k + 1)) + (l[k].toNat - 48) * 10 ^ (l.length - (k + 1)) := by
  rw [List.drop_eq_getElem_cons h, dec_cons, List.length_drop]
  omega

end Go.Proofs.Qxb6603445a
