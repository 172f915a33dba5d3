/-
  THE WALKS of the shared functions: digits, number, isoNumber, b1IsDigit, b1IsSep, b1AllDigits.
-/
import Derived.Test.Qxb6603445aRows
import Derived.Test.Qxb6603445aPlain
import Derived.WalkKit
import Derived.WalkSpells
import Derived.WalkLawsBesides
import Derived.Lib.ConvBytes
namespace Go.Proofs.Qxb6603445a
open Go.RowKit

theorem hide {p : Prop} (h : p) : Hid p := h
theorem ret_int {k : IntKind} {a b : Int} (h : a = b) : Ending.returned (.int k a) = .returned (.int k b) := by rw [h]
theorem ret_bool {a b : Bool} (h : a = b) : Ending.returned (.bool a) = .returned (.bool b) := by rw [h]
theorem at_list (s : ByteArray) (k : Nat) (h : k < s.size) : s[k] = s.data.toList[k]'(by simpa using h) := rfl

set_option maxHeartbeats 400000 in
theorem digits_any (s : ByteArray) (w : World) (hs : s.size ≤ maxLen) :
    Calls Try.prog 25 #[.string s] w fun e w' => e = .returned (.int .i64 (lead s.data.toList)) ∧ w' = w := by
  unfold maxLen at hs
  go_enter Try.func25, Try.ntmps25
  go_wp2
  go_loop [3] (fun i => ∃ k : Nat, k ≤ s.size ∧ i = .int .i64 k ∧ (∀ (j : Nat) (h : j < s.data.toList.length), j < k → dgt s.data.toList[j] = true)) (fun i => s.size - (intOf i).toNat)
  case atStart => exact ⟨0, Nat.zero_le _, rfl, fun j _ h => absurd h (by omega)⟩
  case round =>
    obtain ⟨k, hk, rfl, hd⟩ := hrel
    have HD := hide hd
    clear hd
    by_cases hlt : k < s.size
    · go_wp2
      · go_round
        case rel => 
          refine ⟨k + 1, by omega, by go_num, ?_⟩
          intro j h hj
          by_cases e : j = k
          · subst e; exact dgt_mk ‹_› ‹_›
          · exact HD.out j h (by omega)
        case measure => simp [intOf]; omega
      all_goals
        go_ret
        refine ⟨ret_int ?_, rfl⟩
        rw [lead_eq s.data.toList k (by simpa using hk) HD.out (fun h => dgt_no (c := s.data.toList[k]) (by rw [← at_list s k hlt]; omega))]
    · go_wp2
      go_ret
      refine ⟨ret_int ?_, rfl⟩
      rw [lead_eq s.data.toList k (by simpa using hk) HD.out (fun h => absurd h (by simpa using hlt))]
      

theorem below_bytes (w : World) (e : TypeId) (s : ByteArray) : Below w.heap.size w (Lib.bytesWorld w e s) :=
  ⟨rfl, rfl, rfl, by rw [Lib.bytesWorld_size]; omega, fun k hk => Lib.bytesWorld_at_old w e s k hk⟩

theorem empty_of (s : ByteArray) (h : s.size = 0) : s.toList.isEmpty = true := by
  rw [ByteArray.toList_eq]
  have : s.data.toList.length = 0 := by simpa using h
  rw [List.length_eq_zero_iff.1 this]; rfl
theorem empty_not (s : ByteArray) (h : 0 < s.size) : s.toList.isEmpty = false := by
  rw [ByteArray.toList_eq]
  have : 0 < s.data.toList.length := by simpa using h
  cases hl : s.data.toList with
  | nil => rw [hl] at this; simp at this
  | cons c l => rfl
theorem ret_two {k : IntKind} {a b : Int} {c d : Bool} (h : a = b) (g : c = d) : Ending.returned (.tuple #[.int k a, .bool c]) = .returned (.tuple #[.int k b, .bool d]) := by rw [h, g]
theorem take_snoc (s : ByteArray) (k : Nat) (h : k < s.size) : s.data.toList.take (k + 1) = s.data.toList.take k ++ [s[k]] := by
  rw [List.take_succ_eq_append_getElem (by simpa using h)]; rfl

theorem num_empty (s : ByteArray) (h : s.size = 0) : numV s.data.toList = 0 ∧ numB s.data.toList = false := by
  have : s.data.toList.length = 0 := by simpa using h
  rw [List.length_eq_zero_iff.1 this]; exact ⟨rfl, rfl⟩
theorem num_bad (s : ByteArray) (k : Nat) (h : k < s.size) (hb : ¬ (48 ≤ (s[k].toNat : Int) ∧ (s[k].toNat : Int) ≤ 57)) : numV s.data.toList = 0 ∧ numB s.data.toList = false := by
  have ha : s.data.toList.all dgt = false := by
    cases ha : s.data.toList.all dgt with
    | false => rfl
    | true =>
      rw [List.all_eq_true] at ha
      have := ha s[k] (by rw [at_list s k h]; exact List.getElem_mem _)
      exact absurd (dgt_yes this) hb
  constructor
  · unfold numV; rw [ha]; simp
  · unfold numB; rw [ha]; simp
theorem num_good (s : ByteArray) (h : 0 < s.size) (ha : ∀ (j : Nat) (h : j < s.data.toList.length), j < s.size → dgt s.data.toList[j] = true) : numV s.data.toList = val s.data.toList ∧ numB s.data.toList = true := by
  have hl := lead_eq s.data.toList s.size (by simp) ha (fun h => absurd h (by simp))
  have hall := all_of_lead s.data.toList (by rw [hl]; simp)
  have he := empty_not s h
  rw [ByteArray.toList_eq] at he
  constructor
  · unfold numV; rw [he, hall]; simp
  · unfold numB; rw [he, hall]; simp
theorem val_step (s : ByteArray) (k : Nat) (h : k < s.size) (h1 : 48 ≤ (s[k].toNat : Int)) : (if 65536 < (val (s.data.toList.take k) : Int) * 10 + ((s[k].toNat : Int) - 48) then 65536 else (val (s.data.toList.take k) : Int) * 10 + ((s[k].toNat : Int) - 48)) = (val (s.data.toList.take (k + 1)) : Int) := by
  rw [take_snoc s k h, val_snoc]
  unfold step
  split <;> omega

set_option maxHeartbeats 400000 in
theorem number_any (s : ByteArray) (w : World) (hs : s.size ≤ maxLen) :
    Calls Try.prog 26 #[.string s] w fun e w' => e = .returned (.tuple #[.int .i64 (numV s.data.toList), .bool (numB s.data.toList)]) ∧ Below w.heap.size w w' := by
  unfold maxLen at hs
  have hcv := Lib.run_convert_string_bytes (P := Try.prog) w 9 30 5 s Try.underlying9 Try.underlying30 Try.underlying5
  obtain ⟨W1, hW1⟩ : ∃ W1, W1 = Lib.bytesWorld w 5 s := ⟨_, rfl⟩
  have hB : ∀ j, (h : j < s.size) → W1.cell? ⟨w.heap.size, j, none⟩ = some (.int .u8 s[j].toNat) := fun j hj => by
    subst hW1
    rw [Lib.bytesWorld_cell w 5 s j hj]
    simp [at_list s j hj, hj]
  have hb : Below w.heap.size w W1 := by subst hW1; exact below_bytes _ _ _
  rw [← hW1] at hcv
  have HB := hide hb
  have HC := hide hB
  clear hW1 hb hB
  by_cases he : s.size = 0
  · have he2 : s.toList.isEmpty = true := empty_of s he
    have HE := hide he
    clear he
    go_enter Try.func26, Try.ntmps26
    go_wp2
    go_ret2
    exact ⟨ret_two (by rw [(num_empty s HE.out).1]; rfl) (num_empty s HE.out).2.symm, Below.refl _ _⟩
  · have he1 : 0 < s.size := by omega
    have he2 : s.toList.isEmpty = false := empty_not s he1
    clear he
    go_enter Try.func26, Try.ntmps26
    go_wp2
    go_loop [4, 12] (fun n i => ∃ k : Nat, k ≤ s.size ∧ i = .int .i64 k ∧ n = .int .i64 (val (s.data.toList.take k)) ∧ (∀ (j : Nat) (h : j < s.data.toList.length), j < k → dgt s.data.toList[j] = true)) (fun _ i => s.size - (intOf i).toNat)
    case atStart => exact ⟨0, Nat.zero_le _, rfl, rfl, fun j _ h => absurd h (by omega)⟩
    case round =>
      obtain ⟨k, hk, rfl, rfl, hd⟩ := hrel
      have HD := hide hd
      clear hd
      have hv := val_le (s.data.toList.take k)
      by_cases hlt : k < s.size
      · have hc := HC.out k hlt
        have h255 : (s[k].toNat : Int) ≤ 255 := by have := s[k].toNat_lt; omega
        obtain ⟨n, hn⟩ : ∃ n, n = val (s.data.toList.take k) := ⟨_, rfl⟩
        rw [← hn] at hv ⊢
        have HN := hide hn
        clear hn
        go_wp2
        · go_ret2
          exact ⟨ret_two (by rw [(num_bad s k hlt (by omega)).1]; rfl) (num_bad s k hlt (by omega)).2.symm, HB.out⟩
        · go_round
          case rel =>
            refine ⟨k + 1, by omega, by go_num, ?_, ?_⟩
            · rw [HN.out]
              exact congrArg (Value.int .i64) (val_step s k hlt ‹_›)
            · intro j h hj
              by_cases e : j = k
              · subst e; exact dgt_mk (by show 48 ≤ (s[j].toNat : Int); omega) (by show (s[j].toNat : Int) ≤ 57; omega)
              · exact HD.out j h (by omega)
          case measure => simp [intOf]; omega
        · go_ret2
          exact ⟨ret_two (by rw [(num_bad s k hlt (by omega)).1]; rfl) (num_bad s k hlt (by omega)).2.symm, HB.out⟩
      · go_wp2
        go_ret2
        have e : k = s.size := by omega
        subst e
        have hg := num_good s he1 HD.out
        refine ⟨ret_two ?_ hg.2.symm, HB.out⟩
        rw [hg.1, List.take_of_length_le (by simp)]

theorem isDigit_any (c : UInt8) (w : World) :
    Calls Try.prog 14 #[.int .u8 (c.toNat : Int)] w fun e w' => e = .returned (.bool (dgt c)) ∧ w' = w := by
  by_cases h1 : 48 ≤ (c.toNat : Int)
  · by_cases h2 : (c.toNat : Int) ≤ 57
    · have hd := dgt_mk h1 h2
      rw [hd]
      clear hd
      go_enter Try.func14, Try.ntmps14
      go_wp2
      go_ret
      exact ⟨rfl, rfl⟩
    · have hd := dgt_no (c := c) (by omega)
      rw [hd]
      clear hd
      go_enter Try.func14, Try.ntmps14
      go_wp2
      go_ret
      exact ⟨rfl, rfl⟩
  · have hd := dgt_no (c := c) (by omega)
    rw [hd]
    clear hd
    go_enter Try.func14, Try.ntmps14
    go_wp2
    go_ret
    exact ⟨rfl, rfl⟩

theorem isSep_any (c : UInt8) (w : World) :
    Calls Try.prog 22 #[.int .u8 (c.toNat : Int)] w fun e w' => e = .returned (.bool (sgn c)) ∧ w' = w := by
  cases h1 : ((c.toNat : Int) == 46) with
  | true =>
    have hd : sgn c = true := by simp [sgn, h1]
    rw [hd]
    clear hd
    go_enter Try.func22, Try.ntmps22
    go_wp2
    go_ret
    exact ⟨rfl, rfl⟩
  | false =>
    have hd : sgn c = ((c.toNat : Int) == 44) := by simp [sgn, h1]
    rw [hd]
    clear hd
    go_enter Try.func22, Try.ntmps22
    go_wp2
    go_ret
    exact ⟨rfl, rfl⟩

theorem zzBytes_in (s : ByteArray) (w : World) (h : (s.size : Int) ≤ 1048576) :
    Calls Try.prog 11 #[.string s] w fun e w' => e = .returned (.bool true) ∧ w' = w := by
  go_enter Try.func11, Try.ntmps11
  go_wp2
  go_ret
  exact ⟨rfl, rfl⟩

set_option maxHeartbeats 400000 in
theorem allDigits_any (s : ByteArray) (w : World) (hs : s.size ≤ maxLen) :
    Calls Try.prog 13 #[.string s] w fun e w' => e = .returned (.bool (allD s.data.toList)) ∧ w' = w := by
  unfold maxLen at hs
  go_enter Try.func13, Try.ntmps13
  go_wp2
  go_loop [3] (fun i => ∃ k : Nat, k ≤ s.size ∧ i = .int .i64 k ∧ (∀ (j : Nat) (h : j < s.data.toList.length), j < k → dgt s.data.toList[j] = true)) (fun i => s.size - (intOf i).toNat)
  case atStart => exact ⟨0, Nat.zero_le _, rfl, fun j _ h => absurd h (by omega)⟩
  case round =>
    obtain ⟨k, hk, rfl, hd⟩ := hrel
    have HD := hide hd
    clear hd
    by_cases hlt : k < s.size
    · cases hc : dgt s[k] with
      | true =>
        have HC := hide hc
        go_wp2_with (go_at_call 14; refine (isDigit_any _ _).mono ?_; rintro e w' ⟨rfl, rfl⟩)
        go_round
        case rel =>
          refine ⟨k + 1, by omega, by go_num, ?_⟩
          intro j h hj
          by_cases e : j = k
          · subst e; exact HC.out
          · exact HD.out j h (by omega)
        case measure => simp [intOf]; omega
      | false =>
        have HC := hide hc
        go_wp2_with (go_at_call 14; refine (isDigit_any _ _).mono ?_; rintro e w' ⟨rfl, rfl⟩)
        go_ret
        exact ⟨ret_bool (allD_no s.data.toList k (by simpa using hlt) HC.out).symm, rfl⟩
    · go_wp2
      go_ret
      exact ⟨ret_bool (allD_of_lead s.data.toList (lead_eq _ _ (Nat.le_refl _) (fun j h _ => HD.out j h (by simp at h; omega)) (fun h => absurd h (Nat.lt_irrefl _)))).symm, rfl⟩

theorem zzDigits_any (s : ByteArray) (w : World) (hs : s.size ≤ maxLen) :
    Calls Try.prog 12 #[.string s] w fun e w' => e = .returned (.int .i64 (lead s.data.toList)) ∧ w' = w := by
  go_enter Try.func12, Try.ntmps12
  go_wp2_with (go_at_call 25; refine (digits_any _ _ hs).mono ?_; rintro e w' ⟨rfl, rfl⟩)
  go_ret
  exact ⟨rfl, rfl⟩

theorem zzNumber_any (s : ByteArray) (w : World) (hs : s.size ≤ maxLen) :
    Calls Try.prog 17 #[.string s] w fun e w' => e = .returned (.tuple #[.int .i64 (numV s.data.toList), .bool (numB s.data.toList)]) ∧ Below w.heap.size w w' := by
  go_enter Try.func17, Try.ntmps17
  go_wp2_with (go_at_call 26; refine (number_any _ _ hs).mono ?_; rintro e w' ⟨rfl, hb⟩)
  go_ret2
  exact ⟨rfl, ‹_›⟩

theorem sgn_no {c : UInt8} (h : sgn c = false) : ((c.toNat : Int) == 46) = false ∧ ((c.toNat : Int) == 44) = false := by
  unfold sgn at h
  rw [Bool.or_eq_false_iff] at h
  exact h
theorem sgn_yes {c : UInt8} (h : sgn c = true) : ((c.toNat : Int) == 46) = true ∨ (((c.toNat : Int) == 46) = false ∧ ((c.toNat : Int) == 44) = true) := by
  unfold sgn at h
  cases h46 : ((c.toNat : Int) == 46) with
  | true => exact Or.inl rfl
  | false => rw [h46] at h; exact Or.inr ⟨rfl, by simpa using h⟩
theorem extract_to_end (s : ByteArray) (a : Nat) : (s.extract a s.size).data.toList = s.data.toList.drop a := by
  simp [ByteArray.data_extract, Array.toList_extract, List.extract_eq_take_drop]
  exact List.take_of_length_le (by simp)
theorem ret_three {x y : ByteArray} {a b : Int} (h : a = b) : Ending.returned (.tuple #[.string x, .string y, .int .i64 a]) = .returned (.tuple #[.string x, .string y, .int .i64 b]) := by rw [h]

/-- What 'isoNumber' answers. -/
def Iso (s a b : ByteArray) (n : Nat) : Prop :=
  (n = 0 ∧ a = ⟨#[]⟩ ∧ b = ⟨#[]⟩ ∧ (lead s.data.toList = 0 ∨ ∃ h : lead s.data.toList < s.data.toList.length, sgn s.data.toList[lead s.data.toList] = true ∧ lead (s.data.toList.drop (lead s.data.toList + 1)) = 0)) ∨
  (n = lead s.data.toList ∧ 0 < n ∧ a = s.extract 0 n ∧ b = ⟨#[]⟩ ∧ (∀ h : n < s.data.toList.length, sgn s.data.toList[n] = false)) ∨
  (∃ m f : Nat, m = lead s.data.toList ∧ 0 < m ∧ (∃ h : m < s.data.toList.length, sgn s.data.toList[m] = true) ∧ f = lead (s.data.toList.drop (m + 1)) ∧ 0 < f ∧ n = m + 1 + f ∧ m + 1 + f ≤ s.size ∧ a = s.extract 0 m ∧ b = s.extract (m + 1) (m + 1 + f))

set_option maxHeartbeats 400000 in
theorem iso_any (s : ByteArray) (w : World) (hs : s.size ≤ maxLen) :
    Calls Try.prog 27 #[.string s] w fun e w' => (∃ (a b : ByteArray) (n : Nat), e = .returned (.tuple #[.string a, .string b, .int .i64 n]) ∧ Iso s a b n) ∧ w' = w := by
  have hmx := hs
  unfold maxLen at hmx
  go_enter Try.func27, Try.ntmps27
  go_wp2_with fail
  refine (digits_any _ _ hs).mono ?_
  rintro e w' ⟨rfl, rfl⟩
  have hle := lead_le s.data.toList
  rw [show s.data.toList.length = s.size by simp] at hle
  obtain ⟨n, hn⟩ : ∃ n, n = lead s.data.toList := ⟨_, rfl⟩
  rw [← hn] at hle ⊢
  have HN := hide hn
  clear hn
  by_cases h0 : n = 0
  · subst h0
    go_wp2
    go_ret3
    exact ⟨⟨_, _, 0, rfl, Or.inl ⟨rfl, rfl, rfl, Or.inl HN.out.symm⟩⟩, rfl⟩
  · have h1 : 0 < n := by omega
    have h2 : ((n : Int) == 0) = false := by simp; omega
    clear h0
    by_cases hlt : n < s.size
    · cases hsg : sgn s[n] with
      | false =>
        have h46 : ((s[n].toNat : Int) == 46) = false := (sgn_no hsg).1
        have h44 : ((s[n].toNat : Int) == 44) = false := (sgn_no hsg).2
        have HS := hide hsg
        clear hsg
        go_wp2
        go_ret3
        exact ⟨⟨_, _, n, rfl, Or.inr (Or.inl ⟨HN.out, h1, rfl, rfl, fun h => HS.out⟩)⟩, rfl⟩
      | true =>
        have HS := hide hsg
        have hd := lead_le (s.extract (n + 1) s.size).data.toList
        have hz : (s.extract (n + 1) s.size).data.toList.length = s.size - (n + 1) := by simp
        rw [hz] at hd
        have e1 : (s.extract (n + 1) s.size).data.toList = s.data.toList.drop (n + 1) := extract_to_end s (n + 1)
        have HE := hide e1
        clear e1 hz
        rcases sgn_yes hsg with h46 | ⟨h46, h44⟩
        all_goals
          clear hsg
          go_wp2_with fail
          refine (digits_any _ _ (by unfold maxLen; simp; omega)).mono ?_
          rintro e w1 ⟨rfl, rfl⟩
          obtain ⟨f, hf⟩ : ∃ f, f = lead (s.extract (n + 1) s.size).data.toList := ⟨_, rfl⟩
          rw [← hf] at hd ⊢
          have HF := hide hf
          clear hf
          by_cases h0 : f = 0
          · subst h0
            go_wp2
            go_ret3
            refine ⟨⟨_, _, 0, rfl, Or.inl ⟨rfl, rfl, rfl, Or.inr ?_⟩⟩, rfl⟩
            rw [← HN.out]
            exact ⟨by simpa using hlt, HS.out, by rw [← HE.out]; exact HF.out.symm⟩
          · have h3 : 0 < f := by omega
            have h4 : ((f : Int) == 0) = false := by simp; omega
            clear h0
            go_wp2
            go_ret3
            refine ⟨⟨_, _, n + 1 + f, ret_three ?_, Or.inr (Or.inr ⟨n, f, HN.out, h1, ⟨by simpa using hlt, HS.out⟩, by rw [← HE.out]; exact HF.out, h3, rfl, by omega, rfl, rfl⟩)⟩, rfl⟩
            omega
    · go_wp2
      go_ret3
      exact ⟨⟨_, _, n, rfl, Or.inr (Or.inl ⟨HN.out, h1, rfl, rfl, fun h => absurd h (by simpa using hlt)⟩)⟩, rfl⟩

theorem zzIso_any (s : ByteArray) (w : World) (hs : s.size ≤ maxLen) :
    Calls Try.prog 20 #[.string s] w fun e w' => (∃ (a b : ByteArray) (n : Nat), e = .returned (.tuple #[.string a, .string b, .int .i64 n]) ∧ Iso s a b n) ∧ w' = w := by
  go_enter Try.func20, Try.ntmps20
  go_wp2_with fail
  refine (iso_any _ _ hs).mono ?_
  rintro e w' ⟨⟨a, b, n, rfl, hi⟩, rfl⟩
  have HI := hide hi
  clear hi
  go_wp2
  go_ret3
  exact ⟨⟨a, b, n, rfl, HI.out⟩, rfl⟩

end Go.Proofs.Qxb6603445a
