/-
  'Rows.FnIsoNumberPrefixStableSaid' ('zzlaws_pkg_schedule_b1.FnIsoNumberPrefixStable'): for every string the law returns true; the string reads as it did.
  The frame is the shell's (proof-skeleton.mjs), but for the world behind the call: 'Below' (a conversion to bytes lays a marked row), so 'post' is given limb by limb.
-/
import Derived.Test.Qxb6603445aRows
import Derived.Test.Qxb6603445aPlain
import Derived.Test.Qxb6603445aWalks
import Derived.Test.Qxb6603445aIso
import Derived.WalkKit
import Derived.WalkSpells
import Derived.WalkLawsBesides
import Derived.ProofKit
import Derived.OpenShut
import Derived.ShutString
namespace Go.Proofs.Qxb6603445a.fnIsoNumberPrefixStable
open Go.ChangeShapes Go.WideShapes Go.ChangeAt Go.RowKit
open Go.ChangeMaps (open_string shut_string)

theorem own : ownKnob Try.prog.godebug = none := by kernel_rfl

theorem zzB (s : ByteArray) (w : World) (h : (s.size : Int) ≤ 1048576) :
    Calls Try.prog 23 #[.string s] w fun e w' => e = .returned (.bool true) ∧ w' = w := by
  go_enter Try.func23, Try.ntmps23
  go_wp2
  go_ret
  exact ⟨rfl, rfl⟩

/-! ### THE WALK -/
set_option maxHeartbeats 400000 in
theorem walk (s : ByteArray) (hs : s.size ≤ maxLen) (w : World) :
    Calls Try.prog 9 #[.string s] w fun e w' => e = .returned (.bool true) ∧ Below w.heap.size w w' := by
  by_cases hsz : (s.size : Int) ≤ 1048576
  · go_enter Try.func9, Try.ntmps9
    go_wp2_with fail
    refine (zzB _ _ hsz).mono ?_
    rintro e w' ⟨rfl, rfl⟩
    go_wp2_with fail
    refine (zzIso_any _ _ hs).mono ?_
    rintro e w1 ⟨⟨a, b, n, rfl, hi⟩, rfl⟩
    by_cases h0 : n = 0
    · have hab : a = ⟨#[]⟩ ∧ b = ⟨#[]⟩ := by
        rcases hi with ⟨_, h2, h3, _⟩ | ⟨_, h2, _⟩ | ⟨m, f, _, h2, _, _, _, h7, _⟩
        · exact ⟨h2, h3⟩
        · omega
        · omega
      obtain ⟨rfl, rfl⟩ := hab
      subst h0
      clear hi
      go_wp2
      go_ret
      exact ⟨rfl, Below.refl _ _⟩
    · obtain ⟨hn, hp, hb, ha⟩ := iso_pre hi (by omega)
      have h1 : 0 < n := by omega
      have haz : a.size ≤ maxLen := by have := lead_le s.data.toList; rw [show s.data.toList.length = s.size by simp] at this; omega
      have HP := hide hp
      have HB := hide hb
      have HA := hide ha
      clear hi hp hb ha h0
      go_wp2_with fail
      refine (zzIso_any _ _ (by unfold maxLen; simp; omega)).mono ?_
      rintro e w2 ⟨⟨a2, b2, n2, rfl, hi2⟩, rfl⟩
      obtain ⟨rfl, rfl, rfl⟩ := iso_det HP.out hi2
      clear hi2
      go_wp2_with fail
      refine (zzNumber_any _ _ haz).mono ?_
      rintro e w3 ⟨rfl, hb3⟩
      rw [HB.out]
      have HB3 := hide hb3
      clear hb3
      go_wp2_with fail
      refine (zzDigits_any _ _ hs).mono ?_
      rintro e w4 ⟨rfl, rfl⟩
      rw [← HA.out]
      go_wp2
      go_ret
      exact ⟨rfl, HB3.out⟩
  · go_enter Try.func9, Try.ntmps9
    go_wp2
    go_ret
    exact ⟨rfl, Below.refl _ _⟩


/-! ### THE ROW's STEP -/
set_option maxRecDepth 100000 in
theorem lifted (os : Os) (started : os.Started) (H : Type) (enc : TypeId × Value → H) :
    ReturnsInHanded {} Try.checked os 9 .any (Rows.fnIsoNumberPrefixStableSpec.pre6 enc Try.prog Try.f9 Rows.fnIsoNumberPrefixStableRow.domain false) (Rows.fnIsoNumberPrefixStableSpec.post enc Try.prog Try.f9 false true false false) := by
  refine returnsInHanded_of_change (C := Try.checked) own started (by kernel_rfl) Try.func9
    (ChangeSpec.witness6 (enc := enc) (C := Try.checked) false ⟨#[], #[.string ByteArray.empty], []⟩ 8 (by kernel_rfl) (by kernel_rfl) (by kernel_rfl) (by kernel_rfl)) ?_
  intro W base args ds gs before hval0 hW hcnd _
  have hval : ∀ (j : Nat) t v, Try.f9.params[j]? = some t → args[j]? = some v → Value.okWide Try.prog W .any base t v := hval0
  have hW' := hW
  obtain ⟨p, q, hA0, hV, rfl, hfz, hnd⟩ := hW
  have hA : DataW.TrodAll enc Try.prog W 0 (fun _ => true) true Try.f9.params.toList args.toList ds p := hA0
  rw [Try.params9] at hA hval
  obtain ⟨v0, vs0, d0, ds0, p0, q0, hargs, rfl, rfl, h0, r0⟩ := trodAll_cons hA
  obtain ⟨rfl, rfl, rfl⟩ := trodAll_nil r0
  obtain rfl : args = #[v0] := by cases args; simp_all
  obtain ⟨rfl, rfl⟩ := trodVars_none hV
  obtain ⟨a0, rfl, rfl, rfl, w0⟩ := open_string Try.underlying9 (hval 0 9 v0 rfl rfl) h0
  clear hA0 hval0
  simp only [List.append_nil] at hW'
  refine (walk a0 w0 W).mono fun e W' ⟨he, hg⟩ => ?_
  subst he
  exact ⟨_, rfl, _, _, _, [], [], [], hW', trodAll_mk1 (shut_bool Try.underlying4 _), trodAll_mk1 (shut_string Try.underlying9 w0), rfl, hg.frame _, fun h => by cases h⟩

theorem over : Rows.fnIsoNumberPrefixStableRow.holds Try.pinned (OpenSpec.ofChange Rows.fnIsoNumberPrefixStableSpec) :=
  OpenClaim.holds_of_wide 9 Try.f9 rfl rfl rfl rfl rfl rfl rfl ⟨rfl, rfl, rfl, rfl, rfl⟩ rfl rfl rfl rfl rfl (by kernel_rfl) Try.func9 (by kernel_rfl)
    (of_decide_eq_true (by kernel_rfl)) (by unfold Func.isWrapper; first | (rw [if_pos (by decide +kernel)]; kernel_rfl) | (rw [if_neg (by decide +kernel)]; exact ⟨rfl, rfl⟩))
    (fun os started H enc _ => lifted os started H enc)

/-- THE STATEMENT -/
theorem proved : Rows.FnIsoNumberPrefixStableSaid :=
  over
end Go.Proofs.Qxb6603445a.fnIsoNumberPrefixStable
