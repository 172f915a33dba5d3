/-
  PLAIN: what 'isoNumber' answers ('Iso'): it is one answer; it is the same at the part that was read.
-/
import Derived.Test.Qxb6603445aWalks
namespace Go.Proofs.Qxb6603445a
open Go.WideShapes

theorem iso_det {s a b a' b' : ByteArray} {n n' : Nat} (h : Iso s a b n) (h' : Iso s a' b' n') : a = a' ∧ b = b' ∧ n = n' := by
  rcases h with ⟨h1, h2, h3, h4⟩ | ⟨h1, h2, h3, h4, h5⟩ | ⟨m, f, h1, h2, ⟨h3, h4⟩, h5, h6, h7, h8, h9, h10⟩
  · rcases h' with ⟨k1, k2, k3, k4⟩ | ⟨k1, k2, k3, k4, k5⟩ | ⟨m', f', k1, k2, ⟨k3, k4⟩, k5, k6, k7, k8, k9, k10⟩
    · exact ⟨h2.trans k2.symm, h3.trans k3.symm, h1.trans k1.symm⟩
    · rcases h4 with h4 | ⟨g1, g2, _⟩
      · omega
      · subst k1; rw [k5 g1] at g2; cases g2
    · rcases h4 with h4 | ⟨_, _, g3⟩
      · omega
      · subst k1; omega
  · rcases h' with ⟨k1, k2, k3, k4⟩ | ⟨k1, k2, k3, k4, k5⟩ | ⟨m', f', k1, k2, ⟨k3, k4⟩, k5, k6, k7, k8, k9, k10⟩
    · rcases k4 with k4 | ⟨g1, g2, _⟩
      · omega
      · subst h1; rw [h5 g1] at g2; cases g2
    · have e : n = n' := h1.trans k1.symm
      subst e
      exact ⟨h3.trans k3.symm, h4.trans k4.symm, rfl⟩
    · have e : n = m' := h1.trans k1.symm
      subst e
      rw [h5 k3] at k4; cases k4
  · rcases h' with ⟨k1, k2, k3, k4⟩ | ⟨k1, k2, k3, k4, k5⟩ | ⟨m', f', k1, k2, ⟨k3, k4⟩, k5, k6, k7, k8, k9, k10⟩
    · rcases k4 with k4 | ⟨_, _, g3⟩
      · omega
      · subst h1; omega
    · have e : m = n' := h1.trans k1.symm
      subst e
      rw [k5 h3] at h4; cases h4
    · have e : m = m' := h1.trans k1.symm
      subst e
      have e : f = f' := h5.trans k5.symm
      subst e
      exact ⟨h9.trans k9.symm, h10.trans k10.symm, h7.trans k7.symm⟩

theorem ext_list (s : ByteArray) (a b : Nat) : (s.extract a b).data.toList = (s.data.toList.take b).drop a := by
  simp [ByteArray.data_extract, Array.toList_extract, List.extract_eq_take_drop, List.drop_take]

theorem ext_size (s : ByteArray) (b : Nat) (h : b ≤ s.size) : (s.extract 0 b).size = b := by
  simp; omega

theorem lead_take : ∀ (l : List UInt8) (k : Nat), lead (l.take k) = min (lead l) k
  | [], k => by simp [lead]
  | c :: l, 0 => by simp [lead]
  | c :: l, k + 1 => by
    rw [List.take_succ_cons]
    cases hc : dgt c with
    | true => rw [lead_yes hc, lead_yes hc, lead_take l k]; omega
    | false => rw [lead_no hc, lead_no hc]; omega

theorem numB_of (s : ByteArray) (h0 : 0 < s.size) (h : lead s.data.toList = s.size) : numB s.data.toList = true := by
  have he := empty_not s h0
  rw [ByteArray.toList_eq] at he
  have ha := all_of_lead s.data.toList (by rw [h]; simp)
  unfold numB; rw [he, ha]; simp

theorem iso_pre {s a b : ByteArray} {n : Nat} (h : Iso s a b n) (h0 : 0 < n) : n ≤ s.size ∧ Iso (s.extract 0 n) a b n ∧ numB a.data.toList = true ∧ a.size = lead s.data.toList := by
  have hle := lead_le s.data.toList
  rw [show s.data.toList.length = s.size by simp] at hle
  rcases h with ⟨h1, h2, h3, h4⟩ | ⟨h1, h2, h3, h4, h5⟩ | ⟨m, f, h1, h2, ⟨h3, h4⟩, h5, h6, h7, h8, h9, h10⟩
  · omega
  · have hn : n ≤ s.size := by omega
    have hz := ext_size s n hn
    have hl : lead (s.extract 0 n).data.toList = n := by
      rw [ext_list, List.drop_zero, lead_take]; omega
    refine ⟨hn, Or.inr (Or.inl ⟨hl.symm, h2, ?_, h4, ?_⟩), ?_, ?_⟩
    · rw [h3]
      apply bytes_inj
      simp only [ext_list, List.drop_zero, List.take_take, Nat.min_self]
    · intro h; simp at h; omega
    · rw [h3]; exact numB_of _ (by omega) (by rw [hl, hz])
    · rw [h3, hz, h1]
  · have hm : m ≤ s.size := by omega
    subst h7
    have hz := ext_size s m hm
    have hzn := ext_size s (m + 1 + f) h8
    have hl : lead (s.extract 0 m).data.toList = m := by
      rw [ext_list, List.drop_zero, lead_take]; omega
    have hln : lead (s.extract 0 (m + 1 + f)).data.toList = m := by
      rw [ext_list, List.drop_zero, lead_take]; omega
    have hlt : m < (s.extract 0 (m + 1 + f)).data.toList.length := by simp; omega
    refine ⟨h8, Or.inr (Or.inr ⟨m, f, hln.symm, h2, ⟨hlt, ?_⟩, ?_, h6, rfl, ?_, ?_, ?_⟩), ?_, ?_⟩
    · have e : (s.extract 0 (m + 1 + f)).data.toList[m]'hlt = s.data.toList[m] := by
        have e1 := ext_list s 0 (m + 1 + f)
        rw [List.drop_zero] at e1
        simp only [e1]
        rw [List.getElem_take]
      rw [e]; exact h4
    · rw [ext_list, List.drop_zero, List.drop_take, lead_take]; omega
    · omega
    · rw [h9]
      apply bytes_inj
      simp only [ext_list, List.drop_zero, List.take_take]
      rw [Nat.min_eq_left (by omega)]
    · rw [h10]
      apply bytes_inj
      simp only [ext_list, List.drop_zero, List.take_take, Nat.min_self]
    · rw [h9]; exact numB_of _ (by omega) (by rw [hl, hz])
    · rw [h9, hz, h1]

end Go.Proofs.Qxb6603445a
