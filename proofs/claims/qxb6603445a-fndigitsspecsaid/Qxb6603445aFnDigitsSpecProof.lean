/-
  'Rows.FnDigitsSpecSaid' ('zzlaws_pkg_schedule_b1.FnDigitsSpec'): for every string the law returns true; the string reads as it did.
  The frame is the shell's (proof-skeleton.mjs), but for the world behind the call: 'Below' (a conversion to bytes lays a marked row), so 'post' is given limb by limb.
-/
import Derived.Test.Qxb6603445aRows
import Derived.Test.Qxb6603445aPlain
import Derived.Test.Qxb6603445aWalks
import Derived.WalkKit
import Derived.WalkSpells
import Derived.WalkLawsBesides
import Derived.ProofKit
import Derived.OpenShut
import Derived.ShutString
namespace Go.Proofs.Qxb6603445a.fnDigitsSpec
open Go.ChangeShapes Go.WideShapes Go.ChangeAt Go.RowKit
open Go.ChangeMaps (open_string shut_string)

theorem own : ownKnob Try.prog.godebug = none := by kernel_rfl

theorem zzB (s : ByteArray) (w : World) (h : (s.size : Int) ≤ 1048576) :
    Calls Try.prog 11 #[.string s] w fun e w' => e = .returned (.bool true) ∧ w' = w := by
  go_enter Try.func11, Try.ntmps11
  go_wp2
  go_ret
  exact ⟨rfl, rfl⟩

/-! ### THE WALK -/
set_option maxHeartbeats 400000 in
theorem walk (s : ByteArray) (hs : s.size ≤ maxLen) (w : World) :
    Calls Try.prog 3 #[.string s] w fun e w' => e = .returned (.bool true) ∧ Below w.heap.size w w' := by
  by_cases hsz : (s.size : Int) ≤ 1048576
  · have hle := lead_le s.data.toList
    have hin := lead_in s.data.toList
    have hout := lead_out s.data.toList
    have hall := allD_lead s.data.toList
    have he : s.data.toList.take (lead s.data.toList) = (s.extract 0 (lead s.data.toList)).data.toList := by
      simp
    rw [he] at hall
    have HO := hide hout
    have HA := hide hall
    clear hin hout he hall
    rw [show s.data.toList.length = s.size by simp] at hle
    obtain ⟨n, hn⟩ : ∃ n, n = lead s.data.toList := ⟨_, rfl⟩
    rw [← hn] at hle HA
    have HN := hide hn
    clear hn
    go_enter Try.func3, Try.ntmps3
    go_wp2_with fail
    refine (zzB _ _ hsz).mono ?_
    rintro e w' ⟨rfl, rfl⟩
    go_wp2_with fail
    refine (zzDigits_any _ _ hs).mono ?_
    rintro e w1 ⟨rfl, rfl⟩
    rw [← HN.out]
    go_wp2_with fail
    refine (allDigits_any _ _ (by unfold maxLen; simp; omega)).mono ?_
    rintro e w2 ⟨rfl, rfl⟩
    rw [HA.out]
    by_cases hlt : n < s.size
    · have hne : ((n : Int) == (s.size : Int)) = false := by simp; omega
      have hd : dgt s[n] = false := by
        have := HO.out (by rw [← HN.out]; simpa using hlt)
        rw [at_list s n hlt]
        simpa [← HN.out] using this
      go_wp2_with fail
      refine (isDigit_any _ _).mono ?_
      rintro e w3 ⟨rfl, rfl⟩
      rw [hd]
      clear hd
      go_wp2
      go_ret
      exact ⟨rfl, Below.refl _ _⟩
    · have hne : ((n : Int) == (s.size : Int)) = true := by simp; omega
      go_wp2
      go_ret
      exact ⟨rfl, Below.refl _ _⟩
  · go_enter Try.func3, Try.ntmps3
    go_wp2
    go_ret
    exact ⟨rfl, Below.refl _ _⟩


/-! ### THE ROW's STEP -/
set_option maxRecDepth 100000 in
theorem lifted (os : Os) (started : os.Started) (H : Type) (enc : TypeId × Value → H) :
    ReturnsInHanded {} Try.checked os 3 .any (Rows.fnDigitsSpecSpec.pre6 enc Try.prog Try.f3 Rows.fnDigitsSpecRow.domain false) (Rows.fnDigitsSpecSpec.post enc Try.prog Try.f3 false true false false) := by
  refine returnsInHanded_of_change (C := Try.checked) own started (by kernel_rfl) Try.func3
    (ChangeSpec.witness6 (enc := enc) (C := Try.checked) false ⟨#[], #[.string ByteArray.empty], []⟩ 8 (by kernel_rfl) (by kernel_rfl) (by kernel_rfl) (by kernel_rfl)) ?_
  intro W base args ds gs before hval0 hW hcnd _
  have hval : ∀ (j : Nat) t v, Try.f3.params[j]? = some t → args[j]? = some v → Value.okWide Try.prog W .any base t v := hval0
  have hW' := hW
  obtain ⟨p, q, hA0, hV, rfl, hfz, hnd⟩ := hW
  have hA : DataW.TrodAll enc Try.prog W 0 (fun _ => true) true Try.f3.params.toList args.toList ds p := hA0
  rw [Try.params3] at hA hval
  obtain ⟨v0, vs0, d0, ds0, p0, q0, hargs, rfl, rfl, h0, r0⟩ := trodAll_cons hA
  obtain ⟨rfl, rfl, rfl⟩ := trodAll_nil r0
  obtain rfl : args = #[v0] := by cases args; simp_all
  obtain ⟨rfl, rfl⟩ := trodVars_none hV
  obtain ⟨a0, rfl, rfl, rfl, w0⟩ := open_string Try.underlying9 (hval 0 9 v0 rfl rfl) h0
  clear hA0 hval0
  simp only [List.append_nil] at hW'
  refine (walk a0 w0 W).mono fun e W' ⟨he, hg⟩ => ?_
  subst he
  exact ⟨_, rfl, _, _, _, [], [], [], hW', trodAll_mk1 (shut_bool Try.underlying4 _), trodAll_mk1 (shut_string Try.underlying9 w0), rfl, hg.frame _, fun h => by cases h⟩

theorem over : Rows.fnDigitsSpecRow.holds Try.pinned (OpenSpec.ofChange Rows.fnDigitsSpecSpec) :=
  OpenClaim.holds_of_wide 3 Try.f3 rfl rfl rfl rfl rfl rfl rfl ⟨rfl, rfl, rfl, rfl, rfl⟩ rfl rfl rfl rfl rfl (by kernel_rfl) Try.func3 (by kernel_rfl)
    (of_decide_eq_true (by kernel_rfl)) (by unfold Func.isWrapper; first | (rw [if_pos (by decide +kernel)]; kernel_rfl) | (rw [if_neg (by decide +kernel)]; exact ⟨rfl, rfl⟩))
    (fun os started H enc _ => lifted os started H enc)

/-- THE STATEMENT -/
theorem proved : Rows.FnDigitsSpecSaid :=
  over
end Go.Proofs.Qxb6603445a.fnDigitsSpec
