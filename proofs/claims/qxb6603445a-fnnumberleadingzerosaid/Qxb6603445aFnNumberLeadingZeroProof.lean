/-
  'Rows.FnNumberLeadingZeroSaid' ('zzlaws_pkg_schedule_b1.FnNumberLeadingZero'): for every string the law returns true; the string reads as it did.
  The frame is the shell's (proof-skeleton.mjs), but for the world behind the call: 'Below' (a conversion to bytes lays a marked row), so 'post' is given limb by limb.
-/
import Derived.Test.Qxb6603445aRows
import Derived.Test.Qxb6603445aPlain
import Derived.Test.Qxb6603445aWalks
import Derived.WalkKit
import Derived.WalkSpells
import Derived.WalkLawsBesides
import Derived.ProofKit
import Derived.OpenShut
import Derived.ShutString
namespace Go.Proofs.Qxb6603445a.fnNumberLeadingZero
open Go.ChangeShapes Go.WideShapes Go.ChangeAt Go.RowKit
open Go.ChangeMaps (open_string shut_string)

theorem own : ownKnob Try.prog.godebug = none := by kernel_rfl

theorem zzB (s : ByteArray) (w : World) (h : (s.size : Int) ≤ 1048576) :
    Calls Try.prog 18 #[.string s] w fun e w' => e = .returned (.bool true) ∧ w' = w := by
  go_enter Try.func18, Try.ntmps18
  go_wp2
  go_ret
  exact ⟨rfl, rfl⟩

/-! ### THE PLAIN LAW -/
theorem zero_cons (s : ByteArray) : ((⟨#[48]⟩ : ByteArray) ++ s).data.toList = 48 :: s.data.toList := by
  simp

theorem num_zero (l : List UInt8) (h : l.isEmpty = false) : numV (48 :: l) = numV l ∧ numB (48 :: l) = numB l := by
  have hd : dgt 48 = true := by decide
  unfold numV numB
  rw [h, val_zero]
  simp [hd]

/-! ### THE WALK -/
set_option maxHeartbeats 400000 in
theorem walk (s : ByteArray) (hs : s.size ≤ maxLen) (w : World) :
    Calls Try.prog 6 #[.string s] w fun e w' => e = .returned (.bool true) ∧ Below w.heap.size w w' := by
  by_cases hsz : (s.size : Int) ≤ 1048576
  · have hadd : ∀ w : World, (Op.stringOp .add (⟨#[48]⟩ : ByteArray) s).run Try.prog w = .ok (.string ((⟨#[48]⟩ : ByteArray) ++ s)) w := fun w => by
      rw [run_string_add_sum w _ _ (by show 1 + s.size ≤ _; omega)]
    go_enter Try.func6, Try.ntmps6
    go_wp2_with fail
    refine (zzB _ _ hsz).mono ?_
    rintro e w' ⟨rfl, rfl⟩
    go_wp2_with fail
    refine (zzNumber_any _ _ (by unfold maxLen; show ((⟨#[48]⟩ : ByteArray) ++ s).size ≤ _; rw [ByteArray.size_append]; show 1 + s.size ≤ _; omega)).mono ?_
    rintro e w1 ⟨rfl, hb1⟩
    rw [zero_cons]
    have HB1 := hide hb1
    clear hb1
    by_cases he : s.size = 0
    · have he2 : s.toList.isEmpty = true := empty_of s he
      have hn : s.data.toList = [] := List.length_eq_zero_iff.1 (by simpa using he)
      rw [hn, show numV [48] = 0 from by decide, show numB [48] = true from by decide]
      clear he hn
      go_wp2
      go_ret
      exact ⟨rfl, HB1.out⟩
    · have he2 : s.toList.isEmpty = false := empty_not s (by omega)
      have he3 : s.data.toList.isEmpty = false := by rw [← ByteArray.toList_eq]; exact he2
      rw [(num_zero _ he3).1, (num_zero _ he3).2]
      clear he he3
      go_wp2_with fail
      refine (zzNumber_any _ _ hs).mono ?_
      rintro e w2 ⟨rfl, hb2⟩
      have HB2 := hide hb2
      clear hb2
      generalize numV s.data.toList = v
      generalize numB s.data.toList = b
      have e1 : ((v : Int) == (v : Int)) = true := by simp
      have e2 : (b == b) = true := by simp
      go_wp2
      go_ret
      exact ⟨rfl, HB1.out.trans (HB2.out.mono HB1.out.size)⟩
  · go_enter Try.func6, Try.ntmps6
    go_wp2
    go_ret
    exact ⟨rfl, Below.refl _ _⟩


/-! ### THE ROW's STEP -/
set_option maxRecDepth 100000 in
theorem lifted (os : Os) (started : os.Started) (H : Type) (enc : TypeId × Value → H) :
    ReturnsInHanded {} Try.checked os 6 .any (Rows.fnNumberLeadingZeroSpec.pre6 enc Try.prog Try.f6 Rows.fnNumberLeadingZeroRow.domain false) (Rows.fnNumberLeadingZeroSpec.post enc Try.prog Try.f6 false true false false) := by
  refine returnsInHanded_of_change (C := Try.checked) own started (by kernel_rfl) Try.func6
    (ChangeSpec.witness6 (enc := enc) (C := Try.checked) false ⟨#[], #[.string ByteArray.empty], []⟩ 8 (by kernel_rfl) (by kernel_rfl) (by kernel_rfl) (by kernel_rfl)) ?_
  intro W base args ds gs before hval0 hW hcnd _
  have hval : ∀ (j : Nat) t v, Try.f6.params[j]? = some t → args[j]? = some v → Value.okWide Try.prog W .any base t v := hval0
  have hW' := hW
  obtain ⟨p, q, hA0, hV, rfl, hfz, hnd⟩ := hW
  have hA : DataW.TrodAll enc Try.prog W 0 (fun _ => true) true Try.f6.params.toList args.toList ds p := hA0
  rw [Try.params6] at hA hval
  obtain ⟨v0, vs0, d0, ds0, p0, q0, hargs, rfl, rfl, h0, r0⟩ := trodAll_cons hA
  obtain ⟨rfl, rfl, rfl⟩ := trodAll_nil r0
  obtain rfl : args = #[v0] := by cases args; simp_all
  obtain ⟨rfl, rfl⟩ := trodVars_none hV
  obtain ⟨a0, rfl, rfl, rfl, w0⟩ := open_string Try.underlying9 (hval 0 9 v0 rfl rfl) h0
  clear hA0 hval0
  simp only [List.append_nil] at hW'
  refine (walk a0 w0 W).mono fun e W' ⟨he, hg⟩ => ?_
  subst he
  exact ⟨_, rfl, _, _, _, [], [], [], hW', trodAll_mk1 (shut_bool Try.underlying4 _), trodAll_mk1 (shut_string Try.underlying9 w0), rfl, hg.frame _, fun h => by cases h⟩

theorem over : Rows.fnNumberLeadingZeroRow.holds Try.pinned (OpenSpec.ofChange Rows.fnNumberLeadingZeroSpec) :=
  OpenClaim.holds_of_wide 6 Try.f6 rfl rfl rfl rfl rfl rfl rfl ⟨rfl, rfl, rfl, rfl, rfl⟩ rfl rfl rfl rfl rfl (by kernel_rfl) Try.func6 (by kernel_rfl)
    (of_decide_eq_true (by kernel_rfl)) (by unfold Func.isWrapper; first | (rw [if_pos (by decide +kernel)]; kernel_rfl) | (rw [if_neg (by decide +kernel)]; exact ⟨rfl, rfl⟩))
    (fun os started H enc _ => lifted os started H enc)

/-- THE STATEMENT -/
theorem proved : Rows.FnNumberLeadingZeroSaid :=
  over
end Go.Proofs.Qxb6603445a.fnNumberLeadingZero
