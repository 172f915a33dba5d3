/-
  THE WALK of sortWords.
-/
import Derived.Test.Qxb6604560aWorld
import Derived.Test.Qxb6604560aClone
import Derived.Test.Qxb6604560aSortPlain
namespace Go.Proofs.Qxb6604560a
open Go.RowKit

set_option maxRecDepth 100000 in
set_option maxHeartbeats 4000000 in
theorem sort_any (ga n : Nat) (xs : List Int) (w : World) (hl : xs.length = n) (hn : n ≤ 1048576) (hr : Row w ga xs) :
    Calls Try.prog 12 #[.slice (some ⟨ga, 0, none⟩) n n] w fun e w' => ∃ (g : Nat) (R : List Int), e = .returned (.slice (some ⟨g, 0, none⟩) n n) ∧ Row w' g R ∧ R.Pairwise (fun a b => lew a b = true) ∧ R.Perm xs ∧ (g = ga ∨ w.heap.size ≤ g) ∧ Kept (fun b => b = ga) w w' := by
  have hmk := fun w => run_make_row' (P := Try.prog) 22 23 (.int .u64 0) 8 Try.underlying22 Try.info23 rfl .i64 .i64 n (by omega) (by omega) w
  have HL := hide hl
  have HR := hide hr
  have HLT := hide hr.lt
  clear hl hr
  go_enter Try.func12, Try.ntmps12
  go_wp2
  go_loopw [0, 4, 5] (fun a b wv wr => ∃ (g h W : Nat) (A B : List Int), a = .slice (some ⟨g, 0, none⟩) n n ∧ b = .slice (some ⟨h, 0, none⟩) n n ∧ wv = .int .i64 W ∧ 0 < W ∧ W ≤ 2 * n + 2 ∧ g ≠ h ∧ (g = ga ∨ w.heap.size ≤ g) ∧ (h = ga ∨ w.heap.size ≤ h) ∧
      Row wr g A ∧ Row wr h B ∧ B.length = n ∧ OutInv xs A W ∧ Kept (fun b => b = ga) w wr) (fun _ _ wv _ => n - (intOf wv).toNat)
  case atStart => exact ⟨ga, w.heap.size, 1, xs, List.replicate n 0, rfl, rfl, rfl, by omega, by omega, Nat.ne_of_lt HLT.out, Or.inl rfl, Or.inr (Nat.le_refl _), HR.out.alloc _, row_made w n, List.length_replicate, OutInv.start xs, (Kept.refl _ _).alloc _⟩
  case round =>
    obtain ⟨g, h, W, A, B, rfl, rfl, rfl, hW0, hW2, hgh, hg, hh, hr1, hr2, hBl, hout, hkp⟩ := hrel
    have HAL : Hid (A.length = n) := by show A.length = n; rw [hout.1]; exact HL.out
    by_cases hlt : W < n
    · have HO := hide hout
      have hhg : Hid (w.heap.size ≤ h ∨ h = ga) := hh.elim Or.inr Or.inl
      have HG := hide hg
      have HH := hide hh
      have hgh : Hid (g ≠ h) := hgh
      have HMS := hide (MidInv.start W A B (by rw [hBl]; exact HAL.out.symm))
      have HR1 := hide hr1
      have HR2 := hide hr2
      have HK := hide hkp
      clear hr1 hr2 hkp hout hg hh hBl
      obtain ⟨wo, hwo⟩ : ∃ wo : World, wo = wr := ⟨_, rfl⟩
      rw [← hwo] at HR1 HR2 HK ⊢
      clear hwo
      go_wp2
      go_loopw [6] (fun lv wr => ∃ (lo : Nat) (B : List Int), lo ≤ n + 2 * W ∧ lv = .int .i64 lo ∧ Row wr g A ∧ Row wr h B ∧ MidInv W A B lo ∧ Kept (fun b => b = ga) w wr) (fun lv _ => n - (intOf lv).toNat)
      case atStart => exact ⟨0, B, by omega, rfl, HR1.out, HR2.out, HMS.out, HK.out⟩
      case round =>
        clear HR1 HR2 HK HMS
        obtain ⟨lo, B, hlob, rfl, hr1, hr2, hmi, hkp2⟩ := hrel
        by_cases hlo : lo < n
        · by_cases hb1 : lo + 2 * W ≤ n
          · have e1 : min (lo + W) A.length = lo + W := by rw [HAL.out]; omega
            have e2 : min (lo + 2 * W) A.length = lo + 2 * W := by rw [HAL.out]; omega
            have hst := InInv.start hmi (by rw [HAL.out]; exact hlo)
            have hdn := fun (B' : List Int) (i j o : Nat) => InInv.done (B := B') (i := i) (j := j) (o := o) hmi
            rw [e1, e2] at hst hdn
            obtain ⟨M, hM⟩ : ∃ M, M = List.merge (seg A lo (lo + W)) (seg A (lo + W) (lo + 2 * W)) lew := ⟨_, rfl⟩
            rw [← hM] at hst hdn
            obtain ⟨pre, hpre⟩ : ∃ pre, pre = B.take lo := ⟨_, rfl⟩
            rw [← hpre] at hst hdn
            have HST := hide hst
            have HDN := hide hdn
            have HR1 := hide hr1
            have HR2 := hide hr2
            have HK2 := hide hkp2
            clear hst hdn e1 e2 hM hpre hmi hr1 hr2 hkp2
            obtain ⟨wo2, hwo2⟩ : ∃ wo : World, wo = wr := ⟨_, rfl⟩
            rw [← hwo2] at HR1 HR2 HK2 ⊢
            clear hwo2
            have qz1 : decide ((n : Int) < (lo : Int) + (W : Int)) = false := decide_eq_false (by omega)
            have qz2 : decide ((n : Int) < (lo : Int) + 2 * (W : Int)) = false := decide_eq_false (by omega)
            go_wp2
            go_loopw [9, 10, 11] (fun iv jv ov wr => ∃ (i j o : Nat) (B' : List Int), iv = .int .i64 i ∧ jv = .int .i64 j ∧ ov = .int .i64 o ∧ Row wr g A ∧ Row wr h B' ∧ InInv A B' pre M lo (lo + W) (lo + 2 * W) i j o ∧ Kept (fun b => b = ga) w wr) (fun _ _ ov _ => (lo + 2 * W) - (intOf ov).toNat)
            case atStart => exact ⟨lo, lo + W, lo, B, rfl, by go_num, rfl, HR1.out, HR2.out, HST.out, HK2.out⟩
            case round =>
              obtain ⟨i, j, o, B', rfl, rfl, rfl, hr1, hr2, hin, hkp2⟩ := hrel
              have hB' : B'.length = n := by rw [hin.1]; exact HAL.out
              have hb1 : lo ≤ i := hin.2.2.2.1
              have hb2 : i ≤ lo + W := hin.2.2.2.2.1
              have hb3 : lo + W ≤ j := hin.2.2.2.2.2.1
              have hb4 : j ≤ lo + 2 * W := hin.2.2.2.2.2.2.1
              have hb5 : o + (lo + W) = i + j := hin.2.2.2.2.2.2.2.2
              by_cases ho : o < lo + 2 * W
              · have co := hr2.cell o (by omega)
                have fo := hr2.free o
                have hon : o < n := by omega
                generalize B'.getD o 0 = bo at co
                have FK : Hid (∀ (N : Nat) (v : Int), Kept (fun b => b = ga) w ((wr.drewN N).setCell ⟨h, o, none⟩ (.int .u64 v))) := fun N v => (hkp2.drewN N).setCell _ _ hhg.out
                have FR1 : Hid (∀ (N : Nat) (v : Int), Row ((wr.drewN N).setCell ⟨h, o, none⟩ (.int .u64 v)) g A) := fun N v => (hr1.drewN N).other _ _ hgh.out
                have FR2 : Hid (∀ (N : Nat) (v : Int), Row ((wr.drewN N).setCell ⟨h, o, none⟩ (.int .u64 v)) h (B'.set o v)) := fun N v => (hr2.drewN N).set o v
                by_cases hj : lo + 2 * W ≤ j
                · have ci := hr1.cell i (by rw [HAL.out]; omega)
                  have NX := hide (hin.left ho (Or.inl hj))
                  have q1 : decide ((lo : Int) + 2 * (W : Int) ≤ (j : Int)) = true := decide_eq_true (by omega)
                  have hi1 : i < n := by omega
                  generalize A.getD i 0 = ai at ci NX
                  clear hin hr1 hr2 hkp2 hb5
                  go_wp2
                  go_quiet (fail)
                  go_wp2
                  go_roundw
                  case rel => first | exact ⟨i + 1, j, o + 1, _, by go_num, rfl, by go_num, FR1.out _ _, FR2.out _ _, NX.out, FK.out _ _⟩ | ((repeat apply Exists.intro); exact ⟨⟨i + 1, j, o + 1, _, by go_num, rfl, by go_num, FR1.out _ _, FR2.out _ _, NX.out, FK.out _ _⟩, rfl⟩)
                  case measure => simp [intOf]; omega
                · have cj := hr1.cell j (by rw [HAL.out]; omega)
                  have q1 : decide ((lo : Int) + 2 * (W : Int) ≤ (j : Int)) = false := decide_eq_false (by omega)
                  have hj1 : j < n := by omega
                  by_cases hi1 : i < lo + W
                  · have ci := hr1.cell i (by rw [HAL.out]; omega)
                    have q2 : decide ((i : Int) < (lo : Int) + (W : Int)) = true := decide_eq_true (by omega)
                    have hi2 : i < n := by omega
                    by_cases hle : A.getD i 0 ≤ A.getD j 0
                    · have NX := hide (hin.left ho (Or.inr ⟨hi1, hle⟩))
                      generalize A.getD i 0 = ai at ci NX hle
                      generalize A.getD j 0 = aj at cj hle
                      clear hin hr1 hr2 hkp2 hb5
                      go_wp2
                      go_quiet (fail)
                      go_wp2
                      go_roundw
                      case rel => first | exact ⟨i + 1, j, o + 1, _, by go_num, rfl, by go_num, FR1.out _ _, FR2.out _ _, NX.out, FK.out _ _⟩ | ((repeat apply Exists.intro); exact ⟨⟨i + 1, j, o + 1, _, by go_num, rfl, by go_num, FR1.out _ _, FR2.out _ _, NX.out, FK.out _ _⟩, rfl⟩)
                      case measure => simp [intOf]; omega
                    · have NX := hide (hin.right ho (by omega) (Or.inr (by omega)))
                      have q3 : decide (A.getD i 0 ≤ A.getD j 0) = false := decide_eq_false hle
                      generalize A.getD i 0 = ai at ci hle q3
                      generalize A.getD j 0 = aj at cj hle q3 NX
                      clear hin hr1 hr2 hkp2 hb5
                      go_wp2
                      go_quiet (fail)
                      go_wp2
                      go_roundw
                      case rel => first | exact ⟨i, j + 1, o + 1, _, rfl, by go_num, by go_num, FR1.out _ _, FR2.out _ _, NX.out, FK.out _ _⟩ | ((repeat apply Exists.intro); exact ⟨⟨i, j + 1, o + 1, _, rfl, by go_num, by go_num, FR1.out _ _, FR2.out _ _, NX.out, FK.out _ _⟩, rfl⟩)
                      case measure => simp [intOf]; omega
                  · have NX := hide (hin.right ho (by omega) (Or.inl (by omega)))
                    have q2 : decide ((i : Int) < (lo : Int) + (W : Int)) = false := decide_eq_false (by omega)
                    generalize A.getD j 0 = aj at cj NX
                    clear hin hr1 hr2 hkp2 hb5
                    go_wp2
                    go_quiet (fail)
                    go_wp2
                    go_roundw
                    case rel => first | exact ⟨i, j + 1, o + 1, _, rfl, by go_num, by go_num, FR1.out _ _, FR2.out _ _, NX.out, FK.out _ _⟩ | ((repeat apply Exists.intro); exact ⟨⟨i, j + 1, o + 1, _, rfl, by go_num, by go_num, FR1.out _ _, FR2.out _ _, NX.out, FK.out _ _⟩, rfl⟩)
                    case measure => simp [intOf]; omega
              · have ND := hide (HDN.out B' i j o hin ho (by rw [HAL.out]; exact hlo))
                have HR1 := hide hr1
                have HR2 := hide hr2
                have HK2 := hide hkp2
                clear hin hr1 hr2 hkp2 hb5
                go_wp2
                go_roundw
                case rel => exact ⟨lo + 2 * W, B', by omega, by go_num, HR1.out, HR2.out, ND.out, HK2.out⟩
                case measure => simp [intOf]; omega
          · by_cases hb2 : lo + W ≤ n
            · have e1 : min (lo + W) A.length = lo + W := by rw [HAL.out]; omega
              have e2 : min (lo + 2 * W) A.length = n := by rw [HAL.out]; omega
              have hst := InInv.start hmi (by rw [HAL.out]; exact hlo)
              have hdn := fun (B' : List Int) (i j o : Nat) => InInv.done (B := B') (i := i) (j := j) (o := o) hmi
              rw [e1, e2] at hst hdn
              obtain ⟨M, hM⟩ : ∃ M, M = List.merge (seg A lo (lo + W)) (seg A (lo + W) (n)) lew := ⟨_, rfl⟩
              rw [← hM] at hst hdn
              obtain ⟨pre, hpre⟩ : ∃ pre, pre = B.take lo := ⟨_, rfl⟩
              rw [← hpre] at hst hdn
              have HST := hide hst
              have HDN := hide hdn
              have HR1 := hide hr1
              have HR2 := hide hr2
              have HK2 := hide hkp2
              clear hst hdn e1 e2 hM hpre hmi hr1 hr2 hkp2
              obtain ⟨wo2, hwo2⟩ : ∃ wo : World, wo = wr := ⟨_, rfl⟩
              rw [← hwo2] at HR1 HR2 HK2 ⊢
              clear hwo2
              have qz1 : decide ((n : Int) < (lo : Int) + (W : Int)) = false := decide_eq_false (by omega)
              have qz2 : decide ((n : Int) < (lo : Int) + 2 * (W : Int)) = true := decide_eq_true (by omega)
              go_wp2
              go_loopw [9, 10, 11] (fun iv jv ov wr => ∃ (i j o : Nat) (B' : List Int), iv = .int .i64 i ∧ jv = .int .i64 j ∧ ov = .int .i64 o ∧ Row wr g A ∧ Row wr h B' ∧ InInv A B' pre M lo (lo + W) (n) i j o ∧ Kept (fun b => b = ga) w wr) (fun _ _ ov _ => (n) - (intOf ov).toNat)
              case atStart => exact ⟨lo, lo + W, lo, B, rfl, by go_num, rfl, HR1.out, HR2.out, HST.out, HK2.out⟩
              case round =>
                obtain ⟨i, j, o, B', rfl, rfl, rfl, hr1, hr2, hin, hkp2⟩ := hrel
                have hB' : B'.length = n := by rw [hin.1]; exact HAL.out
                have hb1 : lo ≤ i := hin.2.2.2.1
                have hb2 : i ≤ lo + W := hin.2.2.2.2.1
                have hb3 : lo + W ≤ j := hin.2.2.2.2.2.1
                have hb4 : j ≤ n := hin.2.2.2.2.2.2.1
                have hb5 : o + (lo + W) = i + j := hin.2.2.2.2.2.2.2.2
                by_cases ho : o < n
                · have co := hr2.cell o (by omega)
                  have fo := hr2.free o
                  have hon : o < n := by omega
                  generalize B'.getD o 0 = bo at co
                  have FK : Hid (∀ (N : Nat) (v : Int), Kept (fun b => b = ga) w ((wr.drewN N).setCell ⟨h, o, none⟩ (.int .u64 v))) := fun N v => (hkp2.drewN N).setCell _ _ hhg.out
                  have FR1 : Hid (∀ (N : Nat) (v : Int), Row ((wr.drewN N).setCell ⟨h, o, none⟩ (.int .u64 v)) g A) := fun N v => (hr1.drewN N).other _ _ hgh.out
                  have FR2 : Hid (∀ (N : Nat) (v : Int), Row ((wr.drewN N).setCell ⟨h, o, none⟩ (.int .u64 v)) h (B'.set o v)) := fun N v => (hr2.drewN N).set o v
                  by_cases hj : n ≤ j
                  · have ci := hr1.cell i (by rw [HAL.out]; omega)
                    have NX := hide (hin.left ho (Or.inl hj))
                    have q1 : decide ((n : Int) ≤ (j : Int)) = true := decide_eq_true (by omega)
                    have hi1 : i < n := by omega
                    generalize A.getD i 0 = ai at ci NX
                    clear hin hr1 hr2 hkp2 hb5
                    go_wp2
                    go_quiet (fail)
                    go_wp2
                    go_roundw
                    case rel => first | exact ⟨i + 1, j, o + 1, _, by go_num, rfl, by go_num, FR1.out _ _, FR2.out _ _, NX.out, FK.out _ _⟩ | ((repeat apply Exists.intro); exact ⟨⟨i + 1, j, o + 1, _, by go_num, rfl, by go_num, FR1.out _ _, FR2.out _ _, NX.out, FK.out _ _⟩, rfl⟩)
                    case measure => simp [intOf]; omega
                  · have cj := hr1.cell j (by rw [HAL.out]; omega)
                    have q1 : decide ((n : Int) ≤ (j : Int)) = false := decide_eq_false (by omega)
                    have hj1 : j < n := by omega
                    by_cases hi1 : i < lo + W
                    · have ci := hr1.cell i (by rw [HAL.out]; omega)
                      have q2 : decide ((i : Int) < (lo : Int) + (W : Int)) = true := decide_eq_true (by omega)
                      have hi2 : i < n := by omega
                      by_cases hle : A.getD i 0 ≤ A.getD j 0
                      · have NX := hide (hin.left ho (Or.inr ⟨hi1, hle⟩))
                        generalize A.getD i 0 = ai at ci NX hle
                        generalize A.getD j 0 = aj at cj hle
                        clear hin hr1 hr2 hkp2 hb5
                        go_wp2
                        go_quiet (fail)
                        go_wp2
                        go_roundw
                        case rel => first | exact ⟨i + 1, j, o + 1, _, by go_num, rfl, by go_num, FR1.out _ _, FR2.out _ _, NX.out, FK.out _ _⟩ | ((repeat apply Exists.intro); exact ⟨⟨i + 1, j, o + 1, _, by go_num, rfl, by go_num, FR1.out _ _, FR2.out _ _, NX.out, FK.out _ _⟩, rfl⟩)
                        case measure => simp [intOf]; omega
                      · have NX := hide (hin.right ho (by omega) (Or.inr (by omega)))
                        have q3 : decide (A.getD i 0 ≤ A.getD j 0) = false := decide_eq_false hle
                        generalize A.getD i 0 = ai at ci hle q3
                        generalize A.getD j 0 = aj at cj hle q3 NX
                        clear hin hr1 hr2 hkp2 hb5
                        go_wp2
                        go_quiet (fail)
                        go_wp2
                        go_roundw
                        case rel => first | exact ⟨i, j + 1, o + 1, _, rfl, by go_num, by go_num, FR1.out _ _, FR2.out _ _, NX.out, FK.out _ _⟩ | ((repeat apply Exists.intro); exact ⟨⟨i, j + 1, o + 1, _, rfl, by go_num, by go_num, FR1.out _ _, FR2.out _ _, NX.out, FK.out _ _⟩, rfl⟩)
                        case measure => simp [intOf]; omega
                    · have NX := hide (hin.right ho (by omega) (Or.inl (by omega)))
                      have q2 : decide ((i : Int) < (lo : Int) + (W : Int)) = false := decide_eq_false (by omega)
                      generalize A.getD j 0 = aj at cj NX
                      clear hin hr1 hr2 hkp2 hb5
                      go_wp2
                      go_quiet (fail)
                      go_wp2
                      go_roundw
                      case rel => first | exact ⟨i, j + 1, o + 1, _, rfl, by go_num, by go_num, FR1.out _ _, FR2.out _ _, NX.out, FK.out _ _⟩ | ((repeat apply Exists.intro); exact ⟨⟨i, j + 1, o + 1, _, rfl, by go_num, by go_num, FR1.out _ _, FR2.out _ _, NX.out, FK.out _ _⟩, rfl⟩)
                      case measure => simp [intOf]; omega
                · have ND := hide (HDN.out B' i j o hin ho (by rw [HAL.out]; exact hlo))
                  have HR1 := hide hr1
                  have HR2 := hide hr2
                  have HK2 := hide hkp2
                  clear hin hr1 hr2 hkp2 hb5
                  go_wp2
                  go_roundw
                  case rel => exact ⟨lo + 2 * W, B', by omega, by go_num, HR1.out, HR2.out, ND.out, HK2.out⟩
                  case measure => simp [intOf]; omega
            · have e1 : min (lo + W) A.length = n := by rw [HAL.out]; omega
              have e2 : min (lo + 2 * W) A.length = n := by rw [HAL.out]; omega
              have hst := InInv.start hmi (by rw [HAL.out]; exact hlo)
              have hdn := fun (B' : List Int) (i j o : Nat) => InInv.done (B := B') (i := i) (j := j) (o := o) hmi
              rw [e1, e2] at hst hdn
              obtain ⟨M, hM⟩ : ∃ M, M = List.merge (seg A lo (n)) (seg A (n) (n)) lew := ⟨_, rfl⟩
              rw [← hM] at hst hdn
              obtain ⟨pre, hpre⟩ : ∃ pre, pre = B.take lo := ⟨_, rfl⟩
              rw [← hpre] at hst hdn
              have HST := hide hst
              have HDN := hide hdn
              have HR1 := hide hr1
              have HR2 := hide hr2
              have HK2 := hide hkp2
              clear hst hdn e1 e2 hM hpre hmi hr1 hr2 hkp2
              obtain ⟨wo2, hwo2⟩ : ∃ wo : World, wo = wr := ⟨_, rfl⟩
              rw [← hwo2] at HR1 HR2 HK2 ⊢
              clear hwo2
              have qz1 : decide ((n : Int) < (lo : Int) + (W : Int)) = true := decide_eq_true (by omega)
              have qz2 : decide ((n : Int) < (lo : Int) + 2 * (W : Int)) = true := decide_eq_true (by omega)
              go_wp2
              go_loopw [9, 10, 11] (fun iv jv ov wr => ∃ (i j o : Nat) (B' : List Int), iv = .int .i64 i ∧ jv = .int .i64 j ∧ ov = .int .i64 o ∧ Row wr g A ∧ Row wr h B' ∧ InInv A B' pre M lo (n) (n) i j o ∧ Kept (fun b => b = ga) w wr) (fun _ _ ov _ => (n) - (intOf ov).toNat)
              case atStart => exact ⟨lo, n, lo, B, rfl, by go_num, rfl, HR1.out, HR2.out, HST.out, HK2.out⟩
              case round =>
                obtain ⟨i, j, o, B', rfl, rfl, rfl, hr1, hr2, hin, hkp2⟩ := hrel
                have hB' : B'.length = n := by rw [hin.1]; exact HAL.out
                have hb1 : lo ≤ i := hin.2.2.2.1
                have hb2 : i ≤ n := hin.2.2.2.2.1
                have hb3 : n ≤ j := hin.2.2.2.2.2.1
                have hb4 : j ≤ n := hin.2.2.2.2.2.2.1
                have hb5 : o + (n) = i + j := hin.2.2.2.2.2.2.2.2
                by_cases ho : o < n
                · have co := hr2.cell o (by omega)
                  have fo := hr2.free o
                  have hon : o < n := by omega
                  generalize B'.getD o 0 = bo at co
                  have FK : Hid (∀ (N : Nat) (v : Int), Kept (fun b => b = ga) w ((wr.drewN N).setCell ⟨h, o, none⟩ (.int .u64 v))) := fun N v => (hkp2.drewN N).setCell _ _ hhg.out
                  have FR1 : Hid (∀ (N : Nat) (v : Int), Row ((wr.drewN N).setCell ⟨h, o, none⟩ (.int .u64 v)) g A) := fun N v => (hr1.drewN N).other _ _ hgh.out
                  have FR2 : Hid (∀ (N : Nat) (v : Int), Row ((wr.drewN N).setCell ⟨h, o, none⟩ (.int .u64 v)) h (B'.set o v)) := fun N v => (hr2.drewN N).set o v
                  by_cases hj : n ≤ j
                  · have ci := hr1.cell i (by rw [HAL.out]; omega)
                    have NX := hide (hin.left ho (Or.inl hj))
                    have q1 : decide ((n : Int) ≤ (j : Int)) = true := decide_eq_true (by omega)
                    have hi1 : i < n := by omega
                    generalize A.getD i 0 = ai at ci NX
                    clear hin hr1 hr2 hkp2 hb5
                    go_wp2
                    go_quiet (fail)
                    go_wp2
                    go_roundw
                    case rel => first | exact ⟨i + 1, j, o + 1, _, by go_num, rfl, by go_num, FR1.out _ _, FR2.out _ _, NX.out, FK.out _ _⟩ | ((repeat apply Exists.intro); exact ⟨⟨i + 1, j, o + 1, _, by go_num, rfl, by go_num, FR1.out _ _, FR2.out _ _, NX.out, FK.out _ _⟩, rfl⟩)
                    case measure => simp [intOf]; omega
                  · exfalso; omega
                · have ND := hide (HDN.out B' i j o hin ho (by rw [HAL.out]; exact hlo))
                  have HR1 := hide hr1
                  have HR2 := hide hr2
                  have HK2 := hide hkp2
                  clear hin hr1 hr2 hkp2 hb5
                  go_wp2
                  go_roundw
                  case rel => exact ⟨lo + 2 * W, B', by omega, by go_num, HR1.out, HR2.out, ND.out, HK2.out⟩
                  case measure => simp [intOf]; omega
        · have HO2 := hide (hmi.done HO.out (by rw [HAL.out]; exact hlo))
          have hBl : Hid (B.length = n) := by show B.length = n; rw [hmi.1]; exact HAL.out
          have HR1 := hide hr1
          have HR2 := hide hr2
          have HK2 := hide hkp2
          clear hmi hr1 hr2 hkp2
          go_wp2
          go_roundw
          case rel => exact ⟨h, g, 2 * W, B, A, rfl, rfl, by go_num, by omega, by omega, Ne.symm hgh.out, HH.out, HG.out, HR2.out, HR1.out, HAL.out, HO2.out, HK2.out⟩
          case measure => simp [intOf]; omega
    · have hd := hout.done (by rw [HL.out]; exact hlt)
      have HD := hide hd
      have HG := hide hg
      have HR1 := hide hr1
      have HK := hide hkp
      clear hd hout hr1 hr2 hkp hg hh hBl
      go_wp2
      go_ret
      exact ⟨g, A, rfl, HR1.out, HD.out.1, HD.out.2, HG.out, HK.out⟩
end Go.Proofs.Qxb6604560a
