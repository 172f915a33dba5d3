/-
  'Rows.FnNumberSpecSaid' ('zzlaws_pkg_schedule_b1.FnNumberSpec'): for every string the law returns true; the string reads as it did.
  The frame is the shell's (proof-skeleton.mjs), but for the world behind the call: 'Below' (a conversion to bytes lays a marked row), so 'post' is given limb by limb.
-/
import Derived.Test.Qxb6603445aRows
import Derived.Test.Qxb6603445aPlain
import Derived.Test.Qxb6603445aWalks
import Derived.Test.Qxb6603445aDec
import Derived.WalkKit
import Derived.WalkSpells
import Derived.WalkLawsBesides
import Derived.ProofKit
import Derived.OpenShut
import Derived.ShutString
namespace Go.Proofs.Qxb6603445a.fnNumberSpec
open Go.ChangeShapes Go.WideShapes Go.ChangeAt Go.RowKit
open Go.ChangeMaps (open_string shut_string)

theorem own : ownKnob Try.prog.godebug = none := by kernel_rfl

theorem zzB (s : ByteArray) (w : World) (h : (s.size : Int) ≤ 1048576) :
    Calls Try.prog 16 #[.string s] w fun e w' => e = .returned (.bool true) ∧ w' = w := by
  go_enter Try.func16, Try.ntmps16
  go_wp2
  go_ret
  exact ⟨rfl, rfl⟩

/-! ### PLAIN -/
theorem eqT {a b : Int} (h : a = b) : (a == b) = true := beq_iff_eq.2 h
theorem eqF {a b : Int} (h : a ≠ b) : (a == b) = false := beq_eq_false_iff_ne.2 h
theorem bad_facts (s : ByteArray) (h : allD s.data.toList = false) : numV s.data.toList = 0 ∧ numB s.data.toList = false := by
  have ha : s.data.toList.all dgt = false := h
  constructor
  · unfold numV; rw [ha]; simp
  · unfold numB; rw [ha]; simp
theorem good_facts (s : ByteArray) (h0 : 0 < s.size) (h : allD s.data.toList = true) : numV s.data.toList = val s.data.toList ∧ numB s.data.toList = true := by
  have ha : s.data.toList.all dgt = true := h
  have he := empty_not s h0
  rw [ByteArray.toList_eq] at he
  constructor
  · unfold numV; rw [he, ha]; simp
  · unfold numB; rw [he, ha]; simp

theorem three_ways (s : ByteArray) (k : Nat) : (∃ h : k < s.size, ((s[k].toNat : Int) == 48) = true) ∨ (∃ h : k < s.size, ((s[k].toNat : Int) == 48) = false) ∨ ¬ k < s.size := by
  by_cases h : k < s.size
  · cases h48 : ((s[k].toNat : Int) == 48) with
    | true => exact Or.inl ⟨h, h48⟩
    | false => exact Or.inr (Or.inl ⟨h, h48⟩)
  · exact Or.inr (Or.inr h)
theorem allD_at (t : ByteArray) (r : Nat) (h : r < t.size) (ha : allD t.data.toList = true) : 48 ≤ (t[r].toNat : Int) ∧ (t[r].toNat : Int) ≤ 57 := by
  unfold allD at ha
  rw [List.all_eq_true] at ha
  exact dgt_yes (ha t[r] (by rw [at_list t r h]; exact List.getElem_mem _))
theorem round_val (t : ByteArray) (r : Nat) (h : r < t.size) (D P : Nat) (hD : D = dec (t.data.toList.drop (r + 1))) (hP : P = 10 ^ (t.size - (r + 1))) (h48 : 48 ≤ (t[r].toNat : Int)) : (D : Int) + ((t[r].toNat : Int) - 48) * (P : Int) = (dec (t.data.toList.drop r) : Int) := by
  rw [dec_round t.data.toList r (by simpa using h), ← hD, show 10 ^ (t.data.toList.length - (r + 1)) = P by rw [hP]; simp, Int.natCast_add, Int.natCast_mul, ← at_list t r h]
  rw [show ((t[r].toNat - 48 : Nat) : Int) = (t[r].toNat : Int) - 48 by omega]
theorem round_pow (t : ByteArray) (r : Nat) (h : r < t.size) (P : Nat) (hP : P = 10 ^ (t.size - (r + 1))) : (P : Int) * 10 = ((10 ^ (t.size - r) : Nat) : Int) := by
  rw [show t.size - r = (t.size - (r + 1)) + 1 by omega, Nat.pow_succ, ← hP]; omega
theorem five (n r P : Nat) (h : r < n) (h5 : ¬ 5 < n) (hP : P = 10 ^ (n - (r + 1))) : P = 1 ∨ P = 10 ∨ P = 100 ∨ P = 1000 ∨ P = 10000 := by
  have : n - (r + 1) = 0 ∨ n - (r + 1) = 1 ∨ n - (r + 1) = 2 ∨ n - (r + 1) = 3 ∨ n - (r + 1) = 4 := by omega
  rcases this with e | e | e | e | e <;> (rw [e] at hP; simp at hP; omega)

/-! ### THE WALK -/
set_option maxRecDepth 100000 in
set_option maxHeartbeats 1000000 in
theorem walk (s : ByteArray) (hs : s.size ≤ maxLen) (w : World) :
    Calls Try.prog 5 #[.string s] w fun e w' => e = .returned (.bool true) ∧ Below w.heap.size w w' := by
  by_cases hsz : (s.size : Int) ≤ 1048576
  · by_cases he : s.size = 0
    · have he2 : s.toList.isEmpty = true := empty_of s he
      have hn := num_empty s he
      have HN := hide hn
      clear he hn
      go_enter Try.func5, Try.ntmps5
      go_wp2_with fail
      refine (zzB _ _ hsz).mono ?_
      rintro e w' ⟨rfl, rfl⟩
      go_wp2_with fail
      refine (zzNumber_any _ _ hs).mono ?_
      rintro e w1 ⟨rfl, hb1⟩
      rw [HN.out.1, HN.out.2]
      have HB1 := hide hb1
      clear hb1
      go_wp2
      go_ret
      exact ⟨rfl, HB1.out⟩
    · have h0 : 0 < s.size := by omega
      have he2 : s.toList.isEmpty = false := empty_not s h0
      clear he
      cases hall : allD s.data.toList with
      | false =>
        have hn := bad_facts s hall
        have HN := hide hn
        have HA := hide hall
        clear hn hall
        go_enter Try.func5, Try.ntmps5
        go_wp2_with fail
        refine (zzB _ _ hsz).mono ?_
        rintro e w' ⟨rfl, rfl⟩
        go_wp2_with fail
        refine (zzNumber_any _ _ hs).mono ?_
        rintro e w1 ⟨rfl, hb1⟩
        rw [HN.out.1, HN.out.2]
        have HB1 := hide hb1
        clear hb1
        go_wp2_with fail
        refine (allDigits_any _ _ hs).mono ?_
        rintro e w2 ⟨rfl, rfl⟩
        rw [HA.out]
        go_wp2
        go_ret
        exact ⟨rfl, HB1.out⟩
      | true =>
        have hn := good_facts s h0 hall
        have hv := val_le s.data.toList
        obtain ⟨v, hv'⟩ : ∃ v, v = val s.data.toList := ⟨_, rfl⟩
        rw [← hv'] at hn hv
        have HV := hide hv'
        have HN := hide hn
        have HA := hide hall
        clear hn hall hv'
        go_enter Try.func5, Try.ntmps5
        go_wp2_with fail
        refine (zzB _ _ hsz).mono ?_
        rintro e w' ⟨rfl, rfl⟩
        go_wp2_with fail
        refine (zzNumber_any _ _ hs).mono ?_
        rintro e w1 ⟨rfl, hb1⟩
        rw [HN.out.1, HN.out.2]
        have HB1 := hide hb1
        clear hb1
        go_wp2_with fail
        refine (allDigits_any _ _ hs).mono ?_
        rintro e w2 ⟨rfl, rfl⟩
        rw [HA.out]
        go_wp2
        go_loop [5] (fun i => ∃ k : Nat, k ≤ s.size ∧ i = .int .i64 k ∧ (∀ (j : Nat) (h : j < s.data.toList.length), j < k → (s.data.toList[j].toNat : Int) = 48)) (fun i => s.size - (intOf i).toNat)
        case atStart => exact ⟨0, Nat.zero_le _, rfl, fun j _ h => absurd h (by omega)⟩
        case round =>
          obtain ⟨k, hk, rfl, hz⟩ := hrel
          have HZ := hide hz
          clear hz
          rcases three_ways s k with ⟨hlt, h48⟩ | ⟨hlt, h48⟩ | hlt
          · have H48 := hide h48
            go_wp2
            go_round
            case rel =>
              refine ⟨k + 1, by omega, by go_num, ?_⟩
              intro j h hj
              by_cases e : j = k
              · subst e; exact eq_of_beq H48.out
              · exact HZ.out j h (by omega)
            case measure => simp [intOf]; omega
          all_goals
            have HX : Hid (∀ h : k < s.data.toList.length, (s.data.toList[k].toNat : Int) ≠ 48) := by
              first
                | exact fun h => beq_eq_false_iff_ne.1 h48
                | exact fun h => absurd h (by simpa using hlt)
            by_cases hbig : 5 < s.size - k
            · have q : ((v : Int) == 65536) = true := eqT (by rw [HV.out, val_big s.data.toList k HA.out HZ.out HX.out (by simpa using hbig)]; rfl)
              go_wp2
              all_goals
                go_ret
                exact ⟨rfl, HB1.out⟩
            · have hsm := val_small s.data.toList k HZ.out
              have HM := hide hsm
              clear hsm
              go_wp2
              obtain ⟨t, ht⟩ : ∃ t, t = s.extract k s.size := ⟨_, rfl⟩
              rw [← ht]
              have htl : t.data.toList = s.data.toList.drop k := by rw [ht]; exact extract_to_end s k
              have htz : t.size = s.size - k := by rw [ht]; simp
              have hta : allD t.data.toList = true := by rw [htl]; exact allD_drop _ _ HA.out
              rw [← htz] at hbig ⊢
              have HTL := hide htl
              have HTA := hide hta
              clear htl htz hta ht
              go_loop [7, 8, 9] (fun a b c => ∃ q : Nat, q ≤ t.size ∧ a = .int .i64 (dec (t.data.toList.drop q)) ∧ b = .int .i64 ((10 ^ (t.size - q) : Nat) : Int) ∧ c = .int .i64 ((q : Int) - 1)) (fun _ _ c => (intOf c + 1).toNat)
              case atStart => exact ⟨t.size, Nat.le_refl _, by rw [List.drop_of_length_le (by simp)]; rfl, by rw [Nat.sub_self]; rfl, rfl⟩
              case round =>
                obtain ⟨q, hq, rfl, rfl, rfl⟩ := hrel
                cases q with
                | zero =>
                  have e0 : t.data.toList.drop 0 = s.data.toList.drop k := by rw [List.drop_zero]; exact HTL.out
                  rw [e0]
                  obtain ⟨D, hD⟩ : ∃ D, D = dec (s.data.toList.drop k) := ⟨_, rfl⟩
                  rw [← hD]
                  have hvD : (v : Int) = if 65536 < (D : Int) then 65536 else (D : Int) := by rw [hD, HV.out]; exact HM.out
                  clear e0 hD
                  by_cases hD6 : 65536 < (D : Int)
                  · rw [if_pos hD6] at hvD
                    have q : ((v : Int) == 65536) = true := eqT hvD
                    clear hvD
                    go_wp2
                    go_ret
                    exact ⟨rfl, HB1.out⟩
                  · rw [if_neg hD6] at hvD
                    have q : ((v : Int) == (D : Int)) = true := eqT hvD
                    clear hvD
                    go_wp2
                    go_ret
                    exact ⟨rfl, HB1.out⟩
                | succ r =>
                  have hr : r < t.size := by omega
                  have hdg := allD_at t r hr HTA.out
                  have hd1 := hdg.1
                  have hd2 := hdg.2
                  have hlt2 := dec_lt (t.data.toList.drop (r + 1)) (allD_drop _ _ HTA.out)
                  rw [show (t.data.toList.drop (r + 1)).length = t.size - (r + 1) by simp] at hlt2
                  obtain ⟨D, hD⟩ : ∃ D, D = dec (t.data.toList.drop (r + 1)) := ⟨_, rfl⟩
                  obtain ⟨P, hP⟩ : ∃ P, P = 10 ^ (t.size - (r + 1)) := ⟨_, rfl⟩
                  have hrv := round_val t r hr D P hD hP hd1
                  have hrp := round_pow t r hr P hP
                  rw [← hD, ← hP] at hlt2 ⊢
                  have HRV := hide hrv
                  have HRP := hide hrp
                  have hP5 : P = 1 ∨ P = 10 ∨ P = 100 ∨ P = 1000 ∨ P = 10000 := five t.size r P hr hbig hP
                  clear hrv hrp hD hP hdg
                  rw [show ((r + 1 : Nat) : Int) - 1 = (r : Int) by omega]
                  rcases hP5 with rfl | rfl | rfl | rfl | rfl
                  all_goals
                    go_wp2
                    go_round
                    case rel =>
                      refine ⟨r, by omega, ?_, ?_, ?_⟩
                      · rw [← HRV.out]; first | rfl | (apply congrArg (Value.int .i64); omega)
                      · rw [← HRP.out]; first | rfl | (apply congrArg (Value.int .i64); omega)
                      · rfl
                    case measure => simp [intOf]
  · go_enter Try.func5, Try.ntmps5
    go_wp2
    go_ret
    exact ⟨rfl, Below.refl _ _⟩


/-! ### THE ROW's STEP -/
set_option maxRecDepth 100000 in
theorem lifted (os : Os) (started : os.Started) (H : Type) (enc : TypeId × Value → H) :
    ReturnsInHanded {} Try.checked os 5 .any (Rows.fnNumberSpecSpec.pre6 enc Try.prog Try.f5 Rows.fnNumberSpecRow.domain false) (Rows.fnNumberSpecSpec.post enc Try.prog Try.f5 false true false false) := by
  refine returnsInHanded_of_change (C := Try.checked) own started (by kernel_rfl) Try.func5
    (ChangeSpec.witness6 (enc := enc) (C := Try.checked) false ⟨#[], #[.string ByteArray.empty], []⟩ 8 (by kernel_rfl) (by kernel_rfl) (by kernel_rfl) (by kernel_rfl)) ?_
  intro W base args ds gs before hval0 hW hcnd _
  have hval : ∀ (j : Nat) t v, Try.f5.params[j]? = some t → args[j]? = some v → Value.okWide Try.prog W .any base t v := hval0
  have hW' := hW
  obtain ⟨p, q, hA0, hV, rfl, hfz, hnd⟩ := hW
  have hA : DataW.TrodAll enc Try.prog W 0 (fun _ => true) true Try.f5.params.toList args.toList ds p := hA0
  rw [Try.params5] at hA hval
  obtain ⟨v0, vs0, d0, ds0, p0, q0, hargs, rfl, rfl, h0, r0⟩ := trodAll_cons hA
  obtain ⟨rfl, rfl, rfl⟩ := trodAll_nil r0
  obtain rfl : args = #[v0] := by cases args; simp_all
  obtain ⟨rfl, rfl⟩ := trodVars_none hV
  obtain ⟨a0, rfl, rfl, rfl, w0⟩ := open_string Try.underlying9 (hval 0 9 v0 rfl rfl) h0
  clear hA0 hval0
  simp only [List.append_nil] at hW'
  refine (walk a0 w0 W).mono fun e W' ⟨he, hg⟩ => ?_
  subst he
  exact ⟨_, rfl, _, _, _, [], [], [], hW', trodAll_mk1 (shut_bool Try.underlying4 _), trodAll_mk1 (shut_string Try.underlying9 w0), rfl, hg.frame _, fun h => by cases h⟩

theorem over : Rows.fnNumberSpecRow.holds Try.pinned (OpenSpec.ofChange Rows.fnNumberSpecSpec) :=
  OpenClaim.holds_of_wide 5 Try.f5 rfl rfl rfl rfl rfl rfl rfl ⟨rfl, rfl, rfl, rfl, rfl⟩ rfl rfl rfl rfl rfl (by kernel_rfl) Try.func5 (by kernel_rfl)
    (of_decide_eq_true (by kernel_rfl)) (by unfold Func.isWrapper; first | (rw [if_pos (by decide +kernel)]; kernel_rfl) | (rw [if_neg (by decide +kernel)]; exact ⟨rfl, rfl⟩))
    (fun os started H enc _ => lifted os started H enc)

/-- THE STATEMENT -/
theorem proved : Rows.FnNumberSpecSaid :=
  over
end Go.Proofs.Qxb6603445a.fnNumberSpec
