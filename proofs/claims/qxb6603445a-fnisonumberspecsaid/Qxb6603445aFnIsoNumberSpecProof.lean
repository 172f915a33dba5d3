/-
  'Rows.FnIsoNumberSpecSaid' ('zzlaws_pkg_schedule_b1.FnIsoNumberSpec'): for every string the law returns true; the string reads as it did.
  The frame is the shell's (proof-skeleton.mjs), but for the world behind the call: 'Below' (a conversion to bytes lays a marked row), so 'post' is given limb by limb.
-/
import Derived.Test.Qxb6603445aRows
import Derived.Test.Qxb6603445aPlain
import Derived.Test.Qxb6603445aWalks
import Derived.Test.Qxb6603445aIso
import Derived.WalkKit
import Derived.WalkSpells
import Derived.WalkLawsBesides
import Derived.ProofKit
import Derived.OpenShut
import Derived.ShutString
namespace Go.Proofs.Qxb6603445a.fnIsoNumberSpec
open Go.ChangeShapes Go.WideShapes Go.ChangeAt Go.RowKit
open Go.ChangeMaps (open_string shut_string)

theorem own : ownKnob Try.prog.godebug = none := by kernel_rfl

theorem zzB (s : ByteArray) (w : World) (h : (s.size : Int) ≤ 1048576) :
    Calls Try.prog 21 #[.string s] w fun e w' => e = .returned (.bool true) ∧ w' = w := by
  go_enter Try.func21, Try.ntmps21
  go_wp2
  go_ret
  exact ⟨rfl, rfl⟩

/-! ### THE PLAIN LAW -/
theorem eqT {a b : Int} (h : a = b) : (a == b) = true := beq_iff_eq.2 h
theorem eqF {a b : Int} (h : a ≠ b) : (a == b) = false := beq_eq_false_iff_ne.2 h
theorem neF {a b : Int} (h : a = b) : (a != b) = false := by rw [h]; simp
theorem leqT {a b : List UInt8} (h : a = b) : (a == b) = true := by rw [h]; simp
theorem lead_at (s : ByteArray) (j : Nat) (h : j < s.size) (hj : j < lead s.data.toList) : dgt s[j] = true := by
  rw [at_list s j h]; exact lead_in _ _ _ hj
theorem lead_end (s : ByteArray) (k : Nat) (h : k < s.size) (hk : k = lead s.data.toList) : dgt s[k] = false := by
  rw [at_list s k h]; subst hk; exact lead_out _ _
theorem drop_end (s : ByteArray) (k : Nat) (h : k < s.size) (hk : lead (s.data.toList.drop k) = 0) : dgt s[k] = false := by
  have hd : 0 < (s.data.toList.drop k).length := by simp; omega
  have := lead_out (s.data.toList.drop k) (by omega)
  rw [at_list s k h]
  simpa [hk] using this
theorem allD_extract (s : ByteArray) (a b : Nat) (hb : b ≤ s.size) (h : ∀ j (hj : j < s.size), a ≤ j → j < b → dgt s[j] = true) : allD (s.extract a b).data.toList = true := by
  unfold allD
  rw [List.all_eq_true]
  intro x hx
  obtain ⟨j, hj, rfl⟩ := List.getElem_of_mem hx
  have e := ext_list s a b
  simp only [e] at hj ⊢
  rw [List.getElem_drop, List.getElem_take]
  simp at hj
  exact h (a + j) (by omega) (by omega) (by omega)
theorem size_extract' (s : ByteArray) (a b : Nat) (h : b ≤ s.size) : (s.extract a b).size = b - a := by
  simp; omega
theorem drop_at (s : ByteArray) (m f j : Nat) (hj : j < s.size) (hf : f = lead (s.data.toList.drop m)) (h1 : m ≤ j) (h2 : j < m + f) : dgt s[j] = true := by
  have hd : j - m < (s.data.toList.drop m).length := by simp; omega
  have := lead_in (s.data.toList.drop m) (j - m) hd (by omega)
  rw [List.getElem_drop] at this
  rw [at_list s j hj]
  simpa [show m + (j - m) = j from by omega] using this
theorem drop_out (s : ByteArray) (m k : Nat) (h : k < s.size) (hk : k = m + lead (s.data.toList.drop m)) : dgt s[k] = false := by
  have hd : lead (s.data.toList.drop m) < (s.data.toList.drop m).length := by simp; omega
  have := lead_out (s.data.toList.drop m) hd
  rw [List.getElem_drop] at this
  rw [at_list s k h]
  simpa [← hk] using this
theorem two_facts {s a : ByteArray} {n : Nat} (h1 : n = lead s.data.toList) (h3 : a = s.extract 0 n) : n ≤ s.size ∧ a.size = n ∧ allD a.data.toList = true ∧ (s.extract 0 n).toList = a.toList := by
  have hle := lead_le s.data.toList
  rw [show s.data.toList.length = s.size by simp] at hle
  have hn : n ≤ s.size := by omega
  refine ⟨hn, ?_, ?_, by rw [h3]⟩
  · rw [h3, size_extract' s 0 n hn]; rfl
  · rw [h3]; exact allD_extract s 0 n hn (fun j hj _ h => lead_at s j hj (by omega))
theorem three_facts {s a b : ByteArray} {m f : Nat} (h1 : m = lead s.data.toList) (h5 : f = lead (s.data.toList.drop (m + 1))) (h8 : m + 1 + f ≤ s.size) (h9 : a = s.extract 0 m) (h10 : b = s.extract (m + 1) (m + 1 + f)) :
    a.size = m ∧ b.size = f ∧ allD a.data.toList = true ∧ allD b.data.toList = true := by
  refine ⟨?_, ?_, ?_, ?_⟩
  · rw [h9, size_extract' s 0 m (by omega)]; rfl
  · rw [h10, size_extract' s _ _ h8]; omega
  · rw [h9]; exact allD_extract s 0 m (by omega) (fun j hj _ h => lead_at s j hj (by omega))
  · rw [h10]; exact allD_extract s _ _ h8 (fun j hj h3 h4 => drop_at s (m + 1) f j hj h5 h3 h4)

/-! ### THE WALK, a theorem a case: the rest of the body behind the call of isoNumber is walked once a case. -/
set_option maxRecDepth 100000 in
set_option maxHeartbeats 1000000 in
theorem walk (s : ByteArray) (hs : s.size ≤ maxLen) (w : World) :
    Calls Try.prog 8 #[.string s] w fun e w' => e = .returned (.bool true) ∧ Below w.heap.size w w' := by
  by_cases hsz : (s.size : Int) ≤ 1048576
  · go_enter Try.func8, Try.ntmps8
    go_wp2_with fail
    refine (zzB _ _ hsz).mono ?_
    rintro e w' ⟨rfl, rfl⟩
    go_wp2_with fail
    refine (zzIso_any _ _ hs).mono ?_
    rintro e w1 ⟨⟨a, b, n, rfl, hi⟩, rfl⟩
    rcases hi with ⟨rfl, rfl, rfl, hi⟩ | ⟨h1, h2, h3, rfl, h5⟩ | ⟨m, f, h1, h2, ⟨h3, h4⟩, h5, h6, h7, h8, h9, h10⟩
    · have hc : lead s.data.toList = 0 ∨ (0 < lead s.data.toList ∧ ∃ h : lead s.data.toList < s.data.toList.length, sgn s.data.toList[lead s.data.toList] = true ∧ lead (s.data.toList.drop (lead s.data.toList + 1)) = 0) := by
        by_cases h0 : lead s.data.toList = 0
        · exact Or.inl h0
        · rcases hi with hi | hi
          · exact Or.inl hi
          · exact Or.inr ⟨by omega, hi⟩
      clear hi
      rcases hc with hc | ⟨h0, hlt, h2, h3⟩
      · by_cases hz : s.size = 0
        · have hz' : ((s.size : Int) == 0) = true := eqT (by omega)
          clear hc
          go_wp2
          go_ret
          exact ⟨rfl, Below.refl _ _⟩
        · have hz1 : 0 < s.size := by omega
          have hz' : ((s.size : Int) == 0) = false := eqF (by omega)
          have hd := lead_end s 0 hz1 hc.symm
          have HD := hide hd
          clear hc hz hd
          go_wp2_with fail
          refine (isDigit_any _ _).mono ?_
          rintro e w2 ⟨rfl, rfl⟩
          rw [HD.out]
          go_wp2
          go_ret
          exact ⟨rfl, Below.refl _ _⟩
      · obtain ⟨L, hL⟩ : ∃ L, L = lead s.data.toList := ⟨_, rfl⟩
        have hls : L < s.size := by rw [hL]; simpa using hlt
        have hz' : ((s.size : Int) == 0) = false := eqF (by omega)
        have HL := hide hL
        have hsg : sgn s[L] = true := by
          rw [at_list s L hls]; simpa [← hL] using h2
        rw [← hL] at h3 h0
        have HS := hide hsg
        have H3 := hide h3
        clear hL hsg h2 h3 hlt
        go_wp2_with fail
        refine (isDigit_any _ _).mono ?_
        rintro e w2 ⟨rfl, rfl⟩
        rw [lead_at s 0 (by omega) (by rw [← HL.out]; exact h0)]
        go_wp2_with fail
        go_loop [6] (fun d => ∃ k : Nat, k ≤ L ∧ d = .int .i64 k) (fun d => L - (intOf d).toNat)
        case atStart => exact ⟨0, Nat.zero_le _, rfl⟩
        case round =>
          obtain ⟨k, hk, rfl⟩ := hrel
          have hks : k < s.size := by omega
          by_cases hkl : k < L
          · have hd := lead_at s k hks (by rw [← HL.out]; exact hkl)
            have HD := hide hd
            clear hd
            go_wp2_with fail
            refine (isDigit_any _ _).mono ?_
            rintro e w3 ⟨rfl, rfl⟩
            rw [HD.out]
            go_wp2
            go_round
            case rel => exact ⟨k + 1, by omega, by go_num⟩
            case measure => simp [intOf]; omega
          · obtain rfl : k = L := by omega
            have hd := lead_end s k hks HL.out
            have HD := hide hd
            clear hd
            go_wp2_with fail
            refine (isDigit_any _ _).mono ?_
            rintro e w3 ⟨rfl, rfl⟩
            rw [HD.out]
            go_wp2_with fail
            refine (isSep_any _ _).mono ?_
            rintro e w4 ⟨rfl, rfl⟩
            rw [HS.out]
            by_cases hlast : k + 1 < s.size
            · have he : ((k : Int) + 1 == (s.size : Int)) = false := eqF (by omega)
              have hd := drop_end s (k + 1) hlast H3.out
              have HD2 := hide hd
              clear hd
              go_wp2_with fail
              refine (isDigit_any _ _).mono ?_
              rintro e w5 ⟨rfl, rfl⟩
              rw [HD2.out]
              go_wp2
              go_ret
              exact ⟨rfl, Below.refl _ _⟩
            · have he : ((k : Int) + 1 == (s.size : Int)) = true := eqT (by omega)
              go_wp2
              go_ret
              exact ⟨rfl, Below.refl _ _⟩
    · obtain ⟨g1, g2, g3, g4⟩ := two_facts h1 h3
      have hne : a.toList.isEmpty = false := empty_not a (by omega)
      have q1 : ((n : Int) != (a.size : Int)) = false := neF (by omega)
      have q2 : ((s.extract 0 n).toList == a.toList) = true := leqT g4
      have haz : a.size ≤ maxLen := by omega
      have q3 : ((n : Int) == 0) = false := eqF (by omega)
      have G3 := hide g3
      have H5 := hide h5
      have H1 := hide h1
      clear g2 g3 g4 h1 h3 h5
      go_wp2_with fail
      refine (allDigits_any _ _ haz).mono ?_
      rintro e w2 ⟨rfl, rfl⟩
      rw [G3.out]
      go_wp2_with fail
      refine (allDigits_any _ _ (by unfold maxLen; decide)).mono ?_
      rintro e w3 ⟨rfl, rfl⟩
      rw [show allD (ByteArray.mk #[]).data.toList = true from by decide]
      by_cases hlt : n < s.size
      · have q4 : ((n : Int) == (s.size : Int)) = false := eqF (by omega)
        go_wp2_with fail
        refine (isDigit_any _ _).mono ?_
        rintro e w4 ⟨rfl, rfl⟩
        rw [lead_end s n hlt H1.out]
        go_wp2_with fail
        refine (isSep_any _ _).mono ?_
        rintro e w5 ⟨rfl, rfl⟩
        rw [show sgn s[n] = false from H5.out (by simpa using hlt)]
        go_wp2
        go_ret
        exact ⟨rfl, Below.refl _ _⟩
      · have q4 : ((n : Int) == (s.size : Int)) = true := eqT (by omega)
        go_wp2
        go_ret
        exact ⟨rfl, Below.refl _ _⟩
    · obtain ⟨g1, g2, g3, g4⟩ := three_facts h1 h5 h8 h9 h10
      have hnea : a.toList.isEmpty = false := empty_not a (by omega)
      have hneb : b.toList.isEmpty = false := empty_not b (by omega)
      have q1 : ((n : Int) != (a.size : Int) + 1 + (b.size : Int)) = false := neF (by omega)
      have q2 : ((s.extract 0 a.size).toList == a.toList) = true := leqT (by rw [g1, h9])
      have q5 : ((s.extract (a.size + 1) n).toList == b.toList) = true := leqT (by rw [g1, h10, h7])
      have haz : a.size ≤ maxLen := by omega
      have hbz : b.size ≤ maxLen := by omega
      have q3 : ((n : Int) == 0) = false := eqF (by omega)
      have hns : n ≤ s.size := by omega
      have hn0 : 0 < n := by omega
      have has : a.size + 1 ≤ n := by omega
      have hasl : a.size < s.size := by omega
      have hbsl : b.size ≤ s.size := by omega
      have hsg : sgn s[a.size] = true := by
        rw [at_list s a.size hasl]; simpa [g1] using h4
      have hot : ∀ h : n < s.size, dgt s[n] = false := fun h => drop_out s (m + 1) n h (by omega)
      have G3 := hide g3
      have G4 := hide g4
      have HS := hide hsg
      have HO := hide hot
      clear g1 g2 g3 g4 h1 h2 h3 h4 h5 h6 h7 h8 h9 h10 hsg hot
      go_wp2_with fail
      refine (allDigits_any _ _ haz).mono ?_
      rintro e w2 ⟨rfl, rfl⟩
      rw [G3.out]
      go_wp2_with fail
      refine (allDigits_any _ _ hbz).mono ?_
      rintro e w3 ⟨rfl, rfl⟩
      rw [G4.out]
      go_wp2_with fail
      refine (isSep_any _ _).mono ?_
      rintro e w4 ⟨rfl, rfl⟩
      rw [HS.out]
      by_cases hlt : n < s.size
      · have q4 : ((n : Int) == (s.size : Int)) = false := eqF (by omega)
        go_wp2_with fail
        refine (isDigit_any _ _).mono ?_
        rintro e w5 ⟨rfl, rfl⟩
        rw [HO.out hlt]
        go_wp2
        go_ret
        exact ⟨rfl, Below.refl _ _⟩
      · have q4 : ((n : Int) == (s.size : Int)) = true := eqT (by omega)
        go_wp2
        go_ret
        exact ⟨rfl, Below.refl _ _⟩
  · go_enter Try.func8, Try.ntmps8
    go_wp2
    go_ret
    exact ⟨rfl, Below.refl _ _⟩


/-! ### THE ROW's STEP -/
set_option maxRecDepth 100000 in
theorem lifted (os : Os) (started : os.Started) (H : Type) (enc : TypeId × Value → H) :
    ReturnsInHanded {} Try.checked os 8 .any (Rows.fnIsoNumberSpecSpec.pre6 enc Try.prog Try.f8 Rows.fnIsoNumberSpecRow.domain false) (Rows.fnIsoNumberSpecSpec.post enc Try.prog Try.f8 false true false false) := by
  refine returnsInHanded_of_change (C := Try.checked) own started (by kernel_rfl) Try.func8
    (ChangeSpec.witness6 (enc := enc) (C := Try.checked) false ⟨#[], #[.string ByteArray.empty], []⟩ 8 (by kernel_rfl) (by kernel_rfl) (by kernel_rfl) (by kernel_rfl)) ?_
  intro W base args ds gs before hval0 hW hcnd _
  have hval : ∀ (j : Nat) t v, Try.f8.params[j]? = some t → args[j]? = some v → Value.okWide Try.prog W .any base t v := hval0
  have hW' := hW
  obtain ⟨p, q, hA0, hV, rfl, hfz, hnd⟩ := hW
  have hA : DataW.TrodAll enc Try.prog W 0 (fun _ => true) true Try.f8.params.toList args.toList ds p := hA0
  rw [Try.params8] at hA hval
  obtain ⟨v0, vs0, d0, ds0, p0, q0, hargs, rfl, rfl, h0, r0⟩ := trodAll_cons hA
  obtain ⟨rfl, rfl, rfl⟩ := trodAll_nil r0
  obtain rfl : args = #[v0] := by cases args; simp_all
  obtain ⟨rfl, rfl⟩ := trodVars_none hV
  obtain ⟨a0, rfl, rfl, rfl, w0⟩ := open_string Try.underlying9 (hval 0 9 v0 rfl rfl) h0
  clear hA0 hval0
  simp only [List.append_nil] at hW'
  refine (walk a0 w0 W).mono fun e W' ⟨he, hg⟩ => ?_
  subst he
  exact ⟨_, rfl, _, _, _, [], [], [], hW', trodAll_mk1 (shut_bool Try.underlying4 _), trodAll_mk1 (shut_string Try.underlying9 w0), rfl, hg.frame _, fun h => by cases h⟩

theorem over : Rows.fnIsoNumberSpecRow.holds Try.pinned (OpenSpec.ofChange Rows.fnIsoNumberSpecSpec) :=
  OpenClaim.holds_of_wide 8 Try.f8 rfl rfl rfl rfl rfl rfl rfl ⟨rfl, rfl, rfl, rfl, rfl⟩ rfl rfl rfl rfl rfl (by kernel_rfl) Try.func8 (by kernel_rfl)
    (of_decide_eq_true (by kernel_rfl)) (by unfold Func.isWrapper; first | (rw [if_pos (by decide +kernel)]; kernel_rfl) | (rw [if_neg (by decide +kernel)]; exact ⟨rfl, rfl⟩))
    (fun os started H enc _ => lifted os started H enc)

/-- THE STATEMENT -/
theorem proved : Rows.FnIsoNumberSpecSaid :=
  over
end Go.Proofs.Qxb6603445a.fnIsoNumberSpec
