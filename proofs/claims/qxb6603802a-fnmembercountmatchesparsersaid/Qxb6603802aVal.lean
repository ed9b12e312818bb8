/-
  zzScanValue (22) at every place; zzScanObject (20) at every place.
-/
import Derived.Test.Qxb6603802aObj
namespace Go.Proofs.Qxb6603802a
open Go.RowKit

theorem true_dull : ∀ k (h : k < (⟨#[116, 114, 117, 101]⟩ : ByteArray).size), Plain.Dull (((⟨#[116, 114, 117, 101]⟩ : ByteArray)[k]'h).toNat : Int) := by
  intro k h
  have h4 : k < 4 := h
  rcases (by omega : k = 0 ∨ k = 1 ∨ k = 2 ∨ k = 3) with rfl | rfl | rfl | rfl
  · exact (by simp [Plain.Dull] : Plain.Dull 116)
  · exact (by simp [Plain.Dull] : Plain.Dull 114)
  · exact (by simp [Plain.Dull] : Plain.Dull 117)
  · exact (by simp [Plain.Dull] : Plain.Dull 101)
theorem false_dull : ∀ k (h : k < (⟨#[102, 97, 108, 115, 101]⟩ : ByteArray).size), Plain.Dull (((⟨#[102, 97, 108, 115, 101]⟩ : ByteArray)[k]'h).toNat : Int) := by
  intro k h
  have h4 : k < 5 := h
  rcases (by omega : k = 0 ∨ k = 1 ∨ k = 2 ∨ k = 3 ∨ k = 4) with rfl | rfl | rfl | rfl | rfl
  · exact (by simp [Plain.Dull] : Plain.Dull 102)
  · exact (by simp [Plain.Dull] : Plain.Dull 97)
  · exact (by simp [Plain.Dull] : Plain.Dull 108)
  · exact (by simp [Plain.Dull] : Plain.Dull 115)
  · exact (by simp [Plain.Dull] : Plain.Dull 101)
theorem null_dull : ∀ k (h : k < (⟨#[110, 117, 108, 108]⟩ : ByteArray).size), Plain.Dull (((⟨#[110, 117, 108, 108]⟩ : ByteArray)[k]'h).toNat : Int) := by
  intro k h
  have h4 : k < 4 := h
  rcases (by omega : k = 0 ∨ k = 1 ∨ k = 2 ∨ k = 3) with rfl | rfl | rfl | rfl
  · exact (by simp [Plain.Dull] : Plain.Dull 110)
  · exact (by simp [Plain.Dull] : Plain.Dull 117)
  · exact (by simp [Plain.Dull] : Plain.Dull 108)
  · exact (by simp [Plain.Dull] : Plain.Dull 108)

theorem obj_deep {f : Nat → Int} {i j m : Nat} (h : Obj f i j m) : Deep1 f i j := fun n d hd q => by
  have := h n d (by omega) q
  rwa [if_neg (by omega), Int.add_zero] at this

theorem dullTo_deep {f : Nat → Int} {i j : Nat} (hij : i ≤ j) (h : Plain.DullTo f i j) : Deep1 f i j := (Deep1.refl f i).dull hij h

set_option maxRecDepth 100000 in
set_option maxHeartbeats 3200000 in
theorem scanValue_of (f : Nat → Int) (b off len cap : Nat) (hlen : len ≤ 1048576) (i : Nat) (hil : i ≤ len) (hV : ∀ k, i < k → k ≤ len → VC f b off len cap k) : VC f b off len cap i := by
  intro w hl
  by_cases hi : i < len
  · have hc := hl i hi
    have HV : Hid (∀ k, i < k → k ≤ len → VC f b off len cap k) := hV
    clear hV
    by_cases h123 : f i = 123
    · have H123 : Hid (f i = 123) := h123
      go_enter Try.func22, Try.ntmps22
      go_wp2_with fail
      refine (scanObject_of f b off len cap hlen i hi H123.out HV.out _ hl).mono ?_
      rintro e w' ⟨hE, o, rfl⟩
      rcases hE with ⟨x, m, rfl⟩ | ⟨x, m, rfl, hx1, hx2, hx3⟩
      · go_wp2
        go_ret2
        exact ⟨Ends.no x rfl, _, rfl⟩
      · go_wp2
        go_ret2
        exact ⟨Ends.yes x rfl hx1 hx2 (obj_deep hx3), _, rfl⟩
    have b123 : (f i == 123) = false := by simpa using h123
    by_cases h91 : f i = 91
    · have H91 : Hid (f i = 91) := h91
      clear h123 b123
      go_enter Try.func22, Try.ntmps22
      go_wp2_with fail
      refine (scanArray_of f b off len cap hlen i hi (dull_c H91.out (by simp [Plain.Dull])) HV.out _ hl).mono ?_
      rintro e w' ⟨hE, o, rfl⟩
      rcases hE with ⟨x, rfl⟩ | ⟨x, rfl, hx1, hx2, hx3⟩
      · go_wp2
        go_ret2
        exact ⟨Ends.no x rfl, _, rfl⟩
      · go_wp2
        go_ret2
        exact ⟨Ends.yes x rfl hx1 hx2 hx3, _, rfl⟩
    have b91 : (f i == 91) = false := by simpa using h91
    by_cases h34 : f i = 34
    · clear h123 b123 h91 b91
      go_enter Try.func22, Try.ntmps22
      go_wp2_with fail
      refine (scanString_any f b off len cap hlen i (by omega) _ hl).mono ?_
      rintro e w' ⟨hE, hw⟩
      obtain rfl := hw.symm
      rcases hE with ⟨x, rfl⟩ | ⟨x, rfl, hx1, hx2, hx3⟩
      · go_wp2
        go_ret2
        exact ⟨Ends.no x rfl, 0, rfl⟩
      · go_wp2
        go_ret2
        exact ⟨Ends.yes x rfl hx1 hx2 (fun n d _ q => hx3 n d q), 0, rfl⟩
    have b34 : (f i == 34) = false := by simpa using h34
    by_cases h116 : f i = 116
    · clear h123 b123 h91 b91 h34 b34
      go_enter Try.func22, Try.ntmps22
      go_wp2_with fail
      refine (scanWord_any f b off len cap hlen i hil ⟨#[116, 114, 117, 101]⟩ (by decide) true_dull _ hl).mono ?_
      rintro e w' ⟨hE, o, rfl⟩
      rcases hE with ⟨x, rfl⟩ | ⟨x, rfl, hx1, hx2, hx3⟩
      · go_wp2
        go_ret2
        exact ⟨Ends.no x rfl, _, rfl⟩
      · go_wp2
        go_ret2
        exact ⟨Ends.yes x rfl hx1 hx2 (dullTo_deep hx1 hx3), _, rfl⟩
    have b116 : (f i == 116) = false := by simpa using h116
    by_cases h102 : f i = 102
    · clear h123 b123 h91 b91 h34 b34 h116 b116
      go_enter Try.func22, Try.ntmps22
      go_wp2_with fail
      refine (scanWord_any f b off len cap hlen i hil ⟨#[102, 97, 108, 115, 101]⟩ (by decide) false_dull _ hl).mono ?_
      rintro e w' ⟨hE, o, rfl⟩
      rcases hE with ⟨x, rfl⟩ | ⟨x, rfl, hx1, hx2, hx3⟩
      · go_wp2
        go_ret2
        exact ⟨Ends.no x rfl, _, rfl⟩
      · go_wp2
        go_ret2
        exact ⟨Ends.yes x rfl hx1 hx2 (dullTo_deep hx1 hx3), _, rfl⟩
    have b102 : (f i == 102) = false := by simpa using h102
    by_cases h110 : f i = 110
    · clear h123 b123 h91 b91 h34 b34 h116 b116 h102 b102
      go_enter Try.func22, Try.ntmps22
      go_wp2_with fail
      refine (scanWord_any f b off len cap hlen i hil ⟨#[110, 117, 108, 108]⟩ (by decide) null_dull _ hl).mono ?_
      rintro e w' ⟨hE, o, rfl⟩
      rcases hE with ⟨x, rfl⟩ | ⟨x, rfl, hx1, hx2, hx3⟩
      · go_wp2
        go_ret2
        exact ⟨Ends.no x rfl, _, rfl⟩
      · go_wp2
        go_ret2
        exact ⟨Ends.yes x rfl hx1 hx2 (dullTo_deep hx1 hx3), _, rfl⟩
    have b110 : (f i == 110) = false := by simpa using h110
    go_enter Try.func22, Try.ntmps22
    go_wp2_with fail
    refine (scanNumber_any f b off len cap hlen i hi _ hl).mono ?_
    rintro e w' ⟨hE, hw⟩
    obtain rfl := hw.symm
    rcases hE with ⟨x, rfl⟩ | ⟨x, rfl, hx1, hx2, hx3⟩
    · go_wp2
      go_ret2
      exact ⟨Ends.no x rfl, 0, rfl⟩
    · go_wp2
      go_ret2
      exact ⟨Ends.yes x rfl hx1 hx2 (dullTo_deep hx1 hx3), 0, rfl⟩
  · go_enter Try.func22, Try.ntmps22
    go_wp2
    go_ret2
    exact ⟨Ends.no i rfl, 0, rfl⟩

theorem scanValue_any (f : Nat → Int) (b off len cap : Nat) (hlen : len ≤ 1048576) (i : Nat) (hil : i ≤ len) : VC f b off len cap i := by
  obtain ⟨m, hm⟩ : ∃ m, m = len - i := ⟨_, rfl⟩
  induction m using Nat.strongRecOn generalizing i with
  | _ m ih => exact scanValue_of f b off len cap hlen i hil fun k hk hkl => ih (len - k) (by omega) k hkl rfl

theorem scanObject_any (f : Nat → Int) (b off len cap : Nat) (hlen : len ≤ 1048576) (i : Nat) (hi : i < len) (hfi : f i = 123) (w : World) (hl : Lies w b off len f) :
    Calls Try.prog 20 #[.slice (some ⟨b, off, none⟩) len cap, .int .i64 i] w fun e w' => Ends3 e len i (Obj f i) ∧ ∃ n, w' = w.drewN n :=
  scanObject_of f b off len cap hlen i hi hfi (fun k _ hkl => scanValue_any f b off len cap hlen k hkl) w hl

end Go.Proofs.Qxb6603802a
