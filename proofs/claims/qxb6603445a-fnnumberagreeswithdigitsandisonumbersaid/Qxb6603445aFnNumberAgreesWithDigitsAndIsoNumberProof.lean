/-
  'Rows.FnNumberAgreesWithDigitsAndIsoNumberSaid' ('zzlaws_pkg_schedule_b1.FnNumberAgreesWithDigitsAndIsoNumber'): for every string the law returns true; the string reads as it did.
  The frame is the shell's (proof-skeleton.mjs), but for the world behind the call: 'Below' (a conversion to bytes lays a marked row), so 'post' is given limb by limb.
-/
import Derived.Test.Qxb6603445aRows
import Derived.Test.Qxb6603445aPlain
import Derived.Test.Qxb6603445aWalks
import Derived.WalkKit
import Derived.WalkSpells
import Derived.WalkLawsBesides
import Derived.ProofKit
import Derived.OpenShut
import Derived.ShutString
namespace Go.Proofs.Qxb6603445a.fnNumberAgreesWithDigitsAndIsoNumber
open Go.ChangeShapes Go.WideShapes Go.ChangeAt Go.RowKit
open Go.ChangeMaps (open_string shut_string)

theorem own : ownKnob Try.prog.godebug = none := by kernel_rfl

theorem zzB (s : ByteArray) (w : World) (h : (s.size : Int) ≤ 1048576) :
    Calls Try.prog 19 #[.string s] w fun e w' => e = .returned (.bool true) ∧ w' = w := by
  go_enter Try.func19, Try.ntmps19
  go_wp2
  go_ret
  exact ⟨rfl, rfl⟩

/-! ### THE PLAIN LAW -/
theorem num_yes (s : ByteArray) (h0 : 0 < s.size) (h : lead s.data.toList = s.size) : numB s.data.toList = true := by
  have he := empty_not s h0
  rw [ByteArray.toList_eq] at he
  have ha := all_of_lead s.data.toList (by rw [h]; simp)
  unfold numB; rw [he, ha]; simp
theorem num_no (s : ByteArray) (h : s.size = 0 ∨ lead s.data.toList ≠ s.size) : numB s.data.toList = false ∧ numV s.data.toList = 0 := by
  rcases h with h | h
  · have := num_empty s h; exact ⟨this.2, this.1⟩
  · have ha := not_all_of_lead s.data.toList (by simpa using h)
    constructor
    · unfold numB; rw [ha]; simp
    · unfold numV; rw [ha]; simp
theorem numV_le (l : List UInt8) : numV l ≤ 65536 := by
  have := val_le l
  unfold numV
  split
  · omega
  · split <;> omega
theorem iso_all (s a b : ByteArray) (n : Nat) (h0 : 0 < s.size) (h : lead s.data.toList = s.size) (hi : Iso s a b n) : a = s ∧ b = ⟨#[]⟩ ∧ n = s.size := by
  rcases hi with ⟨_, _, _, hc⟩ | ⟨hn, _, ha, hb, _⟩ | ⟨m, f, hm, _, ⟨hlt, _⟩, _⟩
  · rcases hc with hc | ⟨hc, _⟩
    · omega
    · exact absurd hc (by rw [h]; simp)
  · rw [h] at hn
    subst hn
    exact ⟨by rw [ha]; exact ByteArray.extract_zero_size, hb, rfl⟩
  · exact absurd hlt (by rw [hm, h]; simp)

/-! ### THE WALK -/
set_option maxHeartbeats 400000 in
theorem walk (s : ByteArray) (hs : s.size ≤ maxLen) (w : World) :
    Calls Try.prog 7 #[.string s] w fun e w' => e = .returned (.bool true) ∧ Below w.heap.size w w' := by
  by_cases hsz : (s.size : Int) ≤ 1048576
  · have hle := lead_le s.data.toList
    rw [show s.data.toList.length = s.size by simp] at hle
    by_cases hg : 0 < s.size ∧ lead s.data.toList = s.size
    · obtain ⟨h0, hl⟩ := hg
      have hv := numV_le s.data.toList
      have hy := num_yes s h0 hl
      obtain ⟨v, hv'⟩ : ∃ v, v = numV s.data.toList := ⟨_, rfl⟩
      rw [← hv'] at hv
      have HV := hide hv'
      have HL := hide hl
      have HY := hide hy
      clear hl hv' hy hle
      have e1 : ((s.size : Int) == (s.size : Int)) = true := by simp
      go_enter Try.func7, Try.ntmps7
      go_wp2_with fail
      refine (zzB _ _ hsz).mono ?_
      rintro e w' ⟨rfl, rfl⟩
      go_wp2_with fail
      refine (zzNumber_any _ _ hs).mono ?_
      rintro e w1 ⟨rfl, hb1⟩
      rw [HY.out, ← HV.out]
      have HB1 := hide hb1
      clear hb1
      go_wp2_with fail
      refine (zzDigits_any _ _ hs).mono ?_
      rintro e w2 ⟨rfl, rfl⟩
      rw [HL.out]
      go_wp2_with fail
      refine (zzIso_any _ _ hs).mono ?_
      rintro e w3 ⟨⟨a, b, n, rfl, hi⟩, rfl⟩
      obtain ⟨rfl, rfl, rfl⟩ := iso_all s a b n h0 HL.out hi
      go_wp2
      go_ret
      exact ⟨ret_bool (decide_eq_true (by omega)), HB1.out⟩
    · have hn := num_no s (by omega)
      have HN := hide hn
      clear hn
      obtain ⟨d, hd⟩ : ∃ d, d = lead s.data.toList := ⟨_, rfl⟩
      rw [← hd] at hle hg
      have HD := hide hd
      clear hd
      by_cases h0 : s.size = 0
      · have h1 : ¬ (0 : Int) < (s.size : Int) := by omega
        clear hg h0
        go_enter Try.func7, Try.ntmps7
        go_wp2_with fail
        refine (zzB _ _ hsz).mono ?_
        rintro e w' ⟨rfl, rfl⟩
        go_wp2_with fail
        refine (zzNumber_any _ _ hs).mono ?_
        rintro e w1 ⟨rfl, hb1⟩
        rw [HN.out.1, HN.out.2]
        have HB1 := hide hb1
        clear hb1
        go_wp2_with fail
        refine (zzDigits_any _ _ hs).mono ?_
        rintro e w2 ⟨rfl, rfl⟩
        rw [← HD.out]
        go_wp2
        go_ret
        exact ⟨rfl, HB1.out⟩
      · have h1 : (0 : Int) < (s.size : Int) := by omega
        have h2 : ((d : Int) == (s.size : Int)) = false := by simp; omega
        clear hg h0
        go_enter Try.func7, Try.ntmps7
        go_wp2_with fail
        refine (zzB _ _ hsz).mono ?_
        rintro e w' ⟨rfl, rfl⟩
        go_wp2_with fail
        refine (zzNumber_any _ _ hs).mono ?_
        rintro e w1 ⟨rfl, hb1⟩
        rw [HN.out.1, HN.out.2]
        have HB1 := hide hb1
        clear hb1
        go_wp2_with fail
        refine (zzDigits_any _ _ hs).mono ?_
        rintro e w2 ⟨rfl, rfl⟩
        rw [← HD.out]
        go_wp2
        go_ret
        exact ⟨rfl, HB1.out⟩
  · go_enter Try.func7, Try.ntmps7
    go_wp2
    go_ret
    exact ⟨rfl, Below.refl _ _⟩


/-! ### THE ROW's STEP -/
set_option maxRecDepth 100000 in
theorem lifted (os : Os) (started : os.Started) (H : Type) (enc : TypeId × Value → H) :
    ReturnsInHanded {} Try.checked os 7 .any (Rows.fnNumberAgreesWithDigitsAndIsoNumberSpec.pre6 enc Try.prog Try.f7 Rows.fnNumberAgreesWithDigitsAndIsoNumberRow.domain false) (Rows.fnNumberAgreesWithDigitsAndIsoNumberSpec.post enc Try.prog Try.f7 false true false false) := by
  refine returnsInHanded_of_change (C := Try.checked) own started (by kernel_rfl) Try.func7
    (ChangeSpec.witness6 (enc := enc) (C := Try.checked) false ⟨#[], #[.string ByteArray.empty], []⟩ 8 (by kernel_rfl) (by kernel_rfl) (by kernel_rfl) (by kernel_rfl)) ?_
  intro W base args ds gs before hval0 hW hcnd _
  have hval : ∀ (j : Nat) t v, Try.f7.params[j]? = some t → args[j]? = some v → Value.okWide Try.prog W .any base t v := hval0
  have hW' := hW
  obtain ⟨p, q, hA0, hV, rfl, hfz, hnd⟩ := hW
  have hA : DataW.TrodAll enc Try.prog W 0 (fun _ => true) true Try.f7.params.toList args.toList ds p := hA0
  rw [Try.params7] at hA hval
  obtain ⟨v0, vs0, d0, ds0, p0, q0, hargs, rfl, rfl, h0, r0⟩ := trodAll_cons hA
  obtain ⟨rfl, rfl, rfl⟩ := trodAll_nil r0
  obtain rfl : args = #[v0] := by cases args; simp_all
  obtain ⟨rfl, rfl⟩ := trodVars_none hV
  obtain ⟨a0, rfl, rfl, rfl, w0⟩ := open_string Try.underlying9 (hval 0 9 v0 rfl rfl) h0
  clear hA0 hval0
  simp only [List.append_nil] at hW'
  refine (walk a0 w0 W).mono fun e W' ⟨he, hg⟩ => ?_
  subst he
  exact ⟨_, rfl, _, _, _, [], [], [], hW', trodAll_mk1 (shut_bool Try.underlying4 _), trodAll_mk1 (shut_string Try.underlying9 w0), rfl, hg.frame _, fun h => by cases h⟩

theorem over : Rows.fnNumberAgreesWithDigitsAndIsoNumberRow.holds Try.pinned (OpenSpec.ofChange Rows.fnNumberAgreesWithDigitsAndIsoNumberSpec) :=
  OpenClaim.holds_of_wide 7 Try.f7 rfl rfl rfl rfl rfl rfl rfl ⟨rfl, rfl, rfl, rfl, rfl⟩ rfl rfl rfl rfl rfl (by kernel_rfl) Try.func7 (by kernel_rfl)
    (of_decide_eq_true (by kernel_rfl)) (by unfold Func.isWrapper; first | (rw [if_pos (by decide +kernel)]; kernel_rfl) | (rw [if_neg (by decide +kernel)]; exact ⟨rfl, rfl⟩))
    (fun os started H enc _ => lifted os started H enc)

/-- THE STATEMENT -/
theorem proved : Rows.FnNumberAgreesWithDigitsAndIsoNumberSaid :=
  over
end Go.Proofs.Qxb6603445a.fnNumberAgreesWithDigitsAndIsoNumber
