/-
  zzScanArray (26), out of zzScanValue's contract at later places.
-/
import Derived.Test.Qxb6603802aNum
namespace Go.Proofs.Qxb6603802a
open Go.RowKit

/-- Nothing is counted from i to j, inside one brace at least. -/
def Deep1 (f : Nat → Int) (i j : Nat) : Prop := ∀ n d, 1 ≤ d → Plain.Q f i n d → Plain.Q f j n d

theorem Deep1.trans {f : Nat → Int} {i j k : Nat} (h : Deep1 f i j) (h' : Deep1 f j k) : Deep1 f i k := fun n d hd q => h' n d hd (h n d hd q)
theorem Deep1.dull {f : Nat → Int} {i j k : Nat} (h : Deep1 f i j) (hjk : j ≤ k) (hD : Plain.DullTo f j k) : Deep1 f i k := fun n d hd q => (h n d hd q).dullTo hjk hD
theorem Deep1.one {f : Nat → Int} {i j : Nat} (h : Deep1 f i j) (hD : Plain.Dull (f j)) : Deep1 f i (j + 1) := fun n d hd q => (h n d hd q).dull hD
theorem Deep1.refl (f : Nat → Int) (i : Nat) : Deep1 f i i := fun _ _ _ q => q

/-- zzScanValue's contract at the place i. -/
def VC (f : Nat → Int) (b off len cap i : Nat) : Prop := ∀ w, Lies w b off len f →
  Calls Try.prog 22 #[.slice (some ⟨b, off, none⟩) len cap, .int .i64 i] w fun e w' => Ends e len i (Deep1 f i) ∧ ∃ n, w' = w.drewN n

theorem skipSpace_at (f : Nat → Int) (b off len cap : Nat) (hlen : len ≤ 1048576) (i : Nat) (hi : i ≤ 1048576) (w : World) (hl : Lies w b off len f) :
    Calls Try.prog 19 #[.slice (some ⟨b, off, none⟩) len cap, .int .i64 i] w fun e w' => (∃ j : Nat, e = .returned (.int .i64 j) ∧ i ≤ j ∧ (j = i ∨ j ≤ len) ∧ Plain.DullTo f i j) ∧ w = w' :=
  (skipSpace_any f b off len cap hlen i hi w hl).mono fun _ _ ⟨h, hw⟩ => ⟨h, hw.symm⟩

theorem dull_c {c k : Int} (h : c = k) (hk : Plain.Dull k) : Plain.Dull c := by rw [h]; exact hk

set_option maxRecDepth 100000 in
set_option maxHeartbeats 3200000 in
theorem scanArray_of (f : Nat → Int) (b off len cap : Nat) (hlen : len ≤ 1048576) (i : Nat) (hi : i < len) (hfi : Plain.Dull (f i)) (hV : ∀ k, i < k → k ≤ len → VC f b off len cap k) (w : World) (hl : Lies w b off len f) :
    Calls Try.prog 26 #[.slice (some ⟨b, off, none⟩) len cap, .int .i64 i] w fun e w' => Ends e len i (Deep1 f i) ∧ ∃ n, w' = w.drewN n := by
  have HV : Hid (∀ k, i < k → k ≤ len → VC f b off len cap k) := hV
  have HI : Hid (Deep1 f i (i + 1)) := (Deep1.refl f i).one hfi
  clear hV hfi
  go_enter Try.func26, Try.ntmps26
  go_upto_region 2 with (go_at_call 19; refine (skipSpace_at f b off len cap hlen (i + 1) (by omega) w hl).mono ?_; rintro e w' ⟨⟨k, rfl, hk1, hk2, hk3⟩, rfl⟩)
  have HK : Hid (Deep1 f i k) := HI.out.dull hk1 hk3
  have hkl : k ≤ len := by omega
  clear hk3 HI hk2
  by_cases h93 : k < len ∧ f k = 93
  · obtain ⟨hlt, h93⟩ := h93
    have hc := hl k hlt
    have HN : Hid (Deep1 f i (k + 1)) := HK.out.one (dull_c h93 (by simp [Plain.Dull]))
    go_wp2
    go_ret2
    exact ⟨Ends.yes (k + 1) (by go_num) (by omega) (by omega) HN.out, 0, rfl⟩
  go_upto_region 2 with (fail)
  go_cut [22] (fun t w' => w = w' ∧ t = .bool false)
  case first =>
    by_cases hlt : k < len
    · have hc := hl k hlt
      have h93' : (f k == 93) = false := by simp at h93 ⊢; exact h93 hlt
      clear h93
      go_wp2
      go_meet
      case rel => exact ⟨rfl, rfl⟩
    · clear h93
      go_wp2
      go_meet
      case rel => exact ⟨rfl, rfl⟩
  case rest =>
    clear h93
    obtain ⟨rfl, rfl⟩ := hcut
    go_wp2
    go_loopw [1] (fun t wr => ∃ k : Nat, t = .int .i64 k ∧ i < k ∧ k ≤ len ∧ Hid (Deep1 f i k) ∧ ∃ n, wr = w.drewN n) (fun t _ => len - (intOf t).toNat)
    case atStart => exact ⟨k, rfl, by omega, hkl, HK, 0, rfl⟩
    case round =>
      clear HK hk1 hkl
      obtain ⟨k, rfl, hik, hkl, HK, n, rfl⟩ := hrel
      by_cases hlt : k < len
      · go_wp2_with fail
        refine (HV.out k hik hkl _ (hl.drewN n)).mono ?_
        rintro e w' ⟨hE, m, rfl⟩
        rw [World.drewN_drewN]
        rcases hE with ⟨q, rfl⟩ | ⟨q, rfl, hq1, hq2, hq3⟩
        · go_wp2
          go_ret2
          exact ⟨Ends.no q rfl, _, rfl⟩
        · have HQ : Hid (Deep1 f i q) := HK.out.trans hq3
          clear hq3 HK
          go_upto_region 9 with (go_at_call 19; refine (skipSpace_at f b off len cap hlen q (by omega) _ (hl.drewN _)).mono ?_; rintro e w' ⟨⟨p, rfl, hp1, hp2, hp3⟩, rfl⟩)
          have HP : Hid (Deep1 f i p) := HQ.out.dull hp1 hp3
          have hpl : p ≤ len := by omega
          clear hp3 HQ hp2
          by_cases hpt : p < len
          · have hc := hl p hpt
            by_cases h93 : f p = 93
            · have HN : Hid (Deep1 f i (p + 1)) := HP.out.one (dull_c h93 (by simp [Plain.Dull]))
              go_wp2
              go_ret2
              exact ⟨Ends.yes (p + 1) (by go_num) (by omega) (by omega) HN.out, _, rfl⟩
            · have h93' : (f p == 93) = false := by simpa using h93
              by_cases h44 : f p = 44
              · have HN : Hid (Deep1 f i (p + 1)) := HP.out.one (dull_c h44 (by simp [Plain.Dull]))
                clear h93 HP h93'
                go_wp2_with (go_at_call 19; refine (skipSpace_at f b off len cap hlen (p + 1) (by omega) _ (hl.drewN _)).mono ?_; rintro e w' ⟨⟨t, rfl, ht1, ht2, ht3⟩, rfl⟩)
                go_roundw
                case rel => exact ⟨t, rfl, by omega, by omega, HN.out.dull ht1 ht3, _, rfl⟩
                case measure => simp [intOf]; omega
              · have h44' : (f p != 44) = true := by simpa using h44
                go_wp2
                go_ret2
                exact ⟨Ends.no p rfl, _, rfl⟩
          · go_wp2
            go_ret2
            exact ⟨Ends.no p rfl, _, rfl⟩
      · go_wp2
        go_ret2
        exact ⟨Ends.no k rfl, _, rfl⟩

end Go.Proofs.Qxb6603802a
