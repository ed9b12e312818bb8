/-
  zzScanNumber (28).
-/
import Derived.Test.Qxb6603802aWord
import Derived.Deep.DeepCutAuto
namespace Go.Proofs.Qxb6603802a
open Go.RowKit

set_option maxRecDepth 100000 in
set_option maxHeartbeats 3200000 in
theorem scanNumber_any (f : Nat → Int) (b off len cap : Nat) (hlen : len ≤ 1048576) (i : Nat) (hi : i < len) (w : World) (hl : Lies w b off len f) :
    Calls Try.prog 28 #[.slice (some ⟨b, off, none⟩) len cap, .int .i64 i] w fun e w' => Ends e len i (Plain.DullTo f i) ∧ w' = w := by
  have hc0 := hl i hi
  go_enter Try.func28, Try.ntmps28
  go_upto_region 2 with (fail)
  go_cut [20] (fun t w' => w = w' ∧ ∃ bb : Bool, t = .bool bb ∧ Hid (bb = true → f i = 45))
  case first =>
    by_cases hm : f i = 45
    · go_wp2
      go_meet
      case rel => exact ⟨rfl, true, rfl, fun _ => hm⟩
    · have hm' : (f i == 45) = false := by simpa using hm
      go_wp2
      go_meet
      case rel => exact ⟨rfl, false, rfl, fun h => by cases h⟩
  case rest =>
    obtain ⟨rfl, bb, rfl, hbb⟩ := hcut
    clear hc0
    go_upto_if 20 with (fail)
    go_cut [6] (fun t w' => w = w' ∧ ∃ j : Nat, t = .int .i64 j ∧ i ≤ j ∧ j ≤ len ∧ Hid (Plain.DullTo f i j))
    case first =>
      cases bb
      · go_wp2
        go_meet
        case rel => exact ⟨rfl, i, rfl, Nat.le_refl _, by omega, Plain.DullTo.refl f i⟩
      · have HB : Hid (Plain.Dull (f i)) := by rw [hbb.out rfl]; simp [Hid, Plain.Dull]
        clear hbb
        go_wp2
        go_meet
        case rel => exact ⟨rfl, i + 1, by go_num, by omega, by omega, (Plain.DullTo.refl f i).snoc HB.out⟩
    case rest =>
      clear hbb
      obtain ⟨rfl, j, rfl, hij, hj, HD⟩ := hcut
      by_cases hlt : j < len
      · have hc := hl j hlt
        go_upto_if 32 with (fail)
        go_cut [6] (fun t w' => w = w' ∧ ∃ j : Nat, t = .int .i64 j ∧ i ≤ j ∧ j ≤ len ∧ Hid (Plain.DullTo f i j))
        case first =>
          by_cases h0 : f j = 48
          · have H0 : Hid (f j = 48) := h0
            go_wp2
            go_meet
            case rel => exact ⟨rfl, j + 1, by go_num, by omega, by omega, HD.out.snoc (by rw [H0.out]; simp [Plain.Dull])⟩
          · have h0' : (f j == 48) = false := by simpa using h0
            by_cases h1 : 49 ≤ f j
            · by_cases h9 : f j ≤ 57
              · go_wp2_with (go_at_call 31; refine (scanDigits_any f b off len cap hlen (j + 1) (by omega) _ hl).mono ?_; rintro e w' ⟨⟨k, rfl, hk1, hk2, hk3⟩, rfl⟩)
                go_meet
                case rel => exact ⟨rfl, k, rfl, by omega, by omega, (HD.out.snoc (by simp [Plain.Dull]; omega)).trans hk3⟩
              · have h9' : decide (f j ≤ 57) = false := by simpa using h9
                go_wp2
                go_ret2
                exact ⟨Ends.no j rfl, rfl⟩
            · have h1' : decide (49 ≤ f j) = false := by simpa using h1
              go_wp2
              go_ret2
              exact ⟨Ends.no j rfl, rfl⟩
        case rest =>
          clear hlt hc HD hij hj
          obtain ⟨rfl, j, rfl, hij, hj, HD⟩ := hcut
          go_upto_region 11 with (fail)
          go_cut [62] (fun t w' => w = w' ∧ ∃ bb : Bool, t = .bool bb ∧ Hid (bb = true → j < len ∧ Plain.Dull (f j)))
          case first =>
            by_cases hlt : j < len
            · have hc := hl j hlt
              by_cases hm : f j = 46
              · have HM : Hid (f j = 46) := hm
                go_wp2
                go_meet
                case rel => exact ⟨rfl, true, rfl, fun _ => ⟨hlt, by rw [HM.out]; simp [Plain.Dull]⟩⟩
              · have hm' : (f j == 46) = false := by simpa using hm
                go_wp2
                go_meet
                case rel => exact ⟨rfl, false, rfl, fun h => by cases h⟩
            · go_wp2
              go_meet
              case rel => exact ⟨rfl, false, rfl, fun h => by cases h⟩
          case rest =>
            obtain ⟨rfl, bb, rfl, hbb⟩ := hcut
            go_upto_if 62 with (fail)
            go_cut [6, 7] (fun t _ w' => w = w' ∧ ∃ j : Nat, t = .int .i64 j ∧ i ≤ j ∧ j ≤ len ∧ Hid (Plain.DullTo f i j))
            case first =>
              cases bb
              · go_wp2
                go_meet
                case rel => exact ⟨rfl, j, rfl, hij, hj, HD⟩
              · have hlt := (hbb.out rfl).1
                have HB : Hid (Plain.Dull (f j)) := (hbb.out rfl).2
                clear hbb
                go_upto_if 70 with (go_at_call 31; refine (scanDigits_any f b off len cap hlen (j + 1) (by omega) _ hl).mono ?_; rintro e w' ⟨⟨k, rfl, hk1, hk2, hk3⟩, rfl⟩)
                have HK : Hid (Plain.DullTo f (j + 1) k) := hk3
                clear hk3
                by_cases hkk : k = j + 1
                · subst hkk
                  go_wp2
                  go_ret2
                  exact ⟨Ends.no (j + 1) rfl, rfl⟩
                · have hkk' : ((k : Int) == (j : Int) + 1) = false := by simp; omega
                  go_wp2
                  go_meet
                  case rel => exact ⟨rfl, k, rfl, by omega, by omega, (HD.out.snoc HB.out).trans HK.out⟩
            case rest =>
              clear hbb HD hij hj
              obtain ⟨rfl, j, rfl, hij, hj, HD⟩ := hcut
              go_upto_region 16 with (fail)
              go_cut [90] (fun t w' => w = w' ∧ ∃ bb : Bool, t = .bool bb ∧ Hid (bb = true → j < len ∧ Plain.Dull (f j)))
              case first =>
                by_cases hlt : j < len
                · have hc := hl j hlt
                  by_cases hm : f j = 101
                  · have HM : Hid (f j = 101) := hm
                    go_wp2
                    go_meet
                    case rel => exact ⟨rfl, true, rfl, fun _ => ⟨hlt, by rw [HM.out]; simp [Plain.Dull]⟩⟩
                  · have hm' : (f j == 101) = false := by simpa using hm
                    by_cases hm2 : f j = 69
                    · have HM : Hid (f j = 69) := hm2
                      clear hm' hm
                      go_wp2
                      go_meet
                      case rel => exact ⟨rfl, true, rfl, fun _ => ⟨hlt, by rw [HM.out]; simp [Plain.Dull]⟩⟩
                    · have hm2' : (f j == 69) = false := by simpa using hm2
                      go_wp2
                      go_meet
                      case rel => exact ⟨rfl, false, rfl, fun h => by cases h⟩
                · go_wp2
                  go_meet
                  case rel => exact ⟨rfl, false, rfl, fun h => by cases h⟩
              case rest =>
                obtain ⟨rfl, bb, rfl, hbb⟩ := hcut
                cases bb
                · go_wp2
                  go_ret2
                  exact ⟨Ends.yes j rfl hij hj HD.out, rfl⟩
                · have hlt := (hbb.out rfl).1
                  have HB : Hid (Plain.DullTo f i (j + 1)) := HD.out.snoc (hbb.out rfl).2
                  clear hbb HD
                  go_upto_region 18 with (fail)
                  go_cut [110] (fun t w' => w = w' ∧ ∃ bb : Bool, t = .bool bb ∧ Hid (bb = true → j + 1 < len ∧ Plain.Dull (f (j + 1))))
                  case first =>
                    by_cases hlt2 : j + 1 < len
                    · have hc := hl (j + 1) hlt2
                      by_cases hm : f (j + 1) = 43
                      · have HM : Hid (f (j + 1) = 43) := hm
                        go_wp2
                        go_meet
                        case rel => exact ⟨rfl, true, rfl, fun _ => ⟨hlt2, by rw [HM.out]; simp [Plain.Dull]⟩⟩
                      · have hm' : (f (j + 1) == 43) = false := by simpa using hm
                        by_cases hm2 : f (j + 1) = 45
                        · have HM : Hid (f (j + 1) = 45) := hm2
                          clear hm' hm
                          go_wp2
                          go_meet
                          case rel => exact ⟨rfl, true, rfl, fun _ => ⟨hlt2, by rw [HM.out]; simp [Plain.Dull]⟩⟩
                        · have hm2' : (f (j + 1) == 45) = false := by simpa using hm2
                          go_wp2
                          go_meet
                          case rel => exact ⟨rfl, false, rfl, fun h => by cases h⟩
                    · go_wp2
                      go_meet
                      case rel => exact ⟨rfl, false, rfl, fun h => by cases h⟩
                  case rest =>
                    obtain ⟨rfl, bb, rfl, hbb⟩ := hcut
                    go_upto_if 110 with (fail)
                    go_cut [6] (fun t w' => w = w' ∧ ∃ j : Nat, t = .int .i64 j ∧ i ≤ j ∧ j ≤ len ∧ Hid (Plain.DullTo f i j))
                    case first =>
                      cases bb
                      · go_wp2
                        go_meet
                        case rel => exact ⟨rfl, j + 1, by go_num, by omega, by omega, HB⟩
                      · have hlt2 := (hbb.out rfl).1
                        have HB2 : Hid (Plain.DullTo f i (j + 2)) := HB.out.snoc (hbb.out rfl).2
                        clear hbb HB
                        go_wp2
                        go_meet
                        case rel => exact ⟨rfl, j + 2, by go_num, by omega, by omega, HB2⟩
                    case rest =>
                      clear hbb HB hij hj hlt
                      obtain ⟨rfl, j, rfl, hij, hj, HD⟩ := hcut
                      go_upto_if 118 with (go_at_call 31; refine (scanDigits_any f b off len cap hlen j (by omega) _ hl).mono ?_; rintro e w' ⟨⟨k, rfl, hk1, hk2, hk3⟩, rfl⟩)
                      have HK : Hid (Plain.DullTo f j k) := hk3
                      clear hk3
                      by_cases hkk : k = j
                      · subst hkk
                        go_wp2
                        go_ret2
                        exact ⟨Ends.no k rfl, rfl⟩
                      · have hkk' : ((k : Int) == (j : Int)) = false := by simp; omega
                        go_wp2
                        go_ret2
                        exact ⟨Ends.yes k rfl (by omega) (by omega) (HD.out.trans HK.out), rfl⟩
      · go_wp2
        go_ret2
        exact ⟨Ends.no j rfl, rfl⟩

end Go.Proofs.Qxb6603802a
