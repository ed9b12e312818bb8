/-
  THE LEAVES: zzIsSpace (24), zzIsDigit (33), zzIsHex (30).
-/
import Derived.Test.Qxb6603802aProg
import Derived.Test.Qxb6603802aPlain
import Derived.WalkKit
import Derived.WalkSpells
import Derived.Outline
import Derived.Deep.QuietTactic
import Derived.BigQuiet
namespace Go.Proofs.Qxb6603802a
open Go.RowKit

def isSp (c : Int) : Bool := c == 32 || c == 9 || c == 10 || c == 13
def isDg (c : Int) : Bool := decide (48 ≤ c) && decide (c ≤ 57)
def isHx (c : Int) : Bool := isDg c || (decide (97 ≤ c) && decide (c ≤ 102)) || (decide (65 ≤ c) && decide (c ≤ 70))

theorem isSpace_any (c : Int) (w : World) : Calls Try.prog 24 #[.int .u8 c] w fun e w' => e = .returned (.bool (isSp c)) ∧ w' = w := by
  by_cases h1 : c = 32
  · subst h1; go_enter Try.func24, Try.ntmps24; go_wp2; go_ret; exact ⟨rfl, rfl⟩
  have h1 : (c == 32) = false := by simpa using h1
  by_cases h2 : c = 9
  · subst h2; go_enter Try.func24, Try.ntmps24; go_wp2; go_ret; exact ⟨rfl, rfl⟩
  have h2 : (c == 9) = false := by simpa using h2
  by_cases h3 : c = 10
  · subst h3; go_enter Try.func24, Try.ntmps24; go_wp2; go_ret; exact ⟨rfl, rfl⟩
  have h3 : (c == 10) = false := by simpa using h3
  have e : isSp c = (c == 13) := by simp [isSp, h1, h2, h3]
  rw [e]
  clear e
  go_enter Try.func24, Try.ntmps24
  go_wp2
  go_ret
  exact ⟨rfl, rfl⟩

theorem isDigit_any (c : Int) (w : World) : Calls Try.prog 33 #[.int .u8 c] w fun e w' => e = .returned (.bool (isDg c)) ∧ w' = w := by
  by_cases h1 : 48 ≤ c
  · have e : isDg c = decide (c ≤ 57) := by simp [isDg, h1]
    rw [e]; clear e
    go_enter Try.func33, Try.ntmps33; go_wp2; go_ret; exact ⟨rfl, rfl⟩
  · have e : isDg c = false := by simp [isDg, h1]
    rw [e]; clear e
    go_enter Try.func33, Try.ntmps33; go_wp2; go_ret; exact ⟨rfl, rfl⟩

theorem isHex_any (c : Int) (w : World) : Calls Try.prog 30 #[.int .u8 c] w fun e w' => e = .returned (.bool (isHx c)) ∧ w' = w := by
  by_cases hd : isDg c = true
  · have e : isHx c = true := by simp [isHx, hd]
    rw [e]; clear e
    go_enter Try.func30, Try.ntmps30
    go_wp2_with (go_at_call 33; refine (isDigit_any _ _).mono ?_; rintro e w' ⟨rfl, rfl⟩)
    go_ret; exact ⟨rfl, rfl⟩
  have hd : isDg c = false := by simpa using hd
  by_cases h1 : 97 ≤ c
  · have h4 : 65 ≤ c := by omega
    by_cases h2 : c ≤ 102
    · have e : isHx c = true := by simp [isHx, h1, h2]
      rw [e]; clear e
      go_enter Try.func30, Try.ntmps30
      go_wp2_with (go_at_call 33; refine (isDigit_any _ _).mono ?_; rintro e w' ⟨rfl, rfl⟩)
      go_ret; exact ⟨rfl, rfl⟩
    · have h3 : ¬ c ≤ 70 := by omega
      have e : isHx c = false := by simp [isHx, hd, h2, h3]
      have h2 : decide (c ≤ 102) = false := by simpa using h2
      have h3 : decide (c ≤ 70) = false := by simpa using h3
      rw [e]; clear e
      go_enter Try.func30, Try.ntmps30
      go_wp2_with (go_at_call 33; refine (isDigit_any _ _).mono ?_; rintro e w' ⟨rfl, rfl⟩)
      go_ret; exact ⟨rfl, rfl⟩
  · by_cases h2 : 65 ≤ c
    · have e : isHx c = decide (c ≤ 70) := by simp [isHx, hd, h1, h2]
      rw [e]; clear e
      go_enter Try.func30, Try.ntmps30
      go_wp2_with (go_at_call 33; refine (isDigit_any _ _).mono ?_; rintro e w' ⟨rfl, rfl⟩)
      go_ret; exact ⟨rfl, rfl⟩
    · have e : isHx c = false := by simp [isHx, hd, h1, h2]
      rw [e]; clear e
      go_enter Try.func30, Try.ntmps30
      go_wp2_with (go_at_call 33; refine (isDigit_any _ _).mono ?_; rintro e w' ⟨rfl, rfl⟩)
      go_ret; exact ⟨rfl, rfl⟩

/-- The bytes of a text lie in a world: f k in the k-th cell. -/
def Lies (w : World) (b off len : Nat) (f : Nat → Int) : Prop := ∀ k, k < len → w.cell? ⟨b, off + k, none⟩ = some (.int .u8 (f k))

theorem Lies.drewN {w : World} {b off len : Nat} {f : Nat → Int} (h : Lies w b off len f) (n : Nat) : Lies (w.drewN n) b off len f := fun k hk => h k hk

set_option maxHeartbeats 400000 in
theorem skipSpace_any (f : Nat → Int) (b off len cap : Nat) (hlen : len ≤ 1048576) (i : Nat) (hi : i ≤ 1048576) (w : World) (hl : Lies w b off len f) :
    Calls Try.prog 19 #[.slice (some ⟨b, off, none⟩) len cap, .int .i64 i] w fun e w' => (∃ j : Nat, e = .returned (.int .i64 j) ∧ i ≤ j ∧ (j = i ∨ j ≤ len) ∧ Plain.DullTo f i j) ∧ w' = w := by
  go_enter Try.func19, Try.ntmps19
  go_wp2
  go_loop [1] (fun t => ∃ j : Nat, t = .int .i64 j ∧ i ≤ j ∧ (j = i ∨ j ≤ len) ∧ Plain.DullTo f i j) (fun t => len - (intOf t).toNat)
  case atStart => exact ⟨i, rfl, Nat.le_refl _, .inl rfl, Plain.DullTo.refl f i⟩
  case round =>
    obtain ⟨j, rfl, hij, hj, hD⟩ := hrel
    have HJ : Hid (j = i ∨ j ≤ len) := hj
    have HD : Hid (Plain.DullTo f i j) := hD
    have hj2 : j ≤ 1048576 := by omega
    clear hj hD
    by_cases hlt : j < len
    · have hc := hl j hlt
      have HL : Hid (Lies w b off len f) := hl
      clear hl
      by_cases hs : isSp (f j) = true
      · go_wp2_with (go_at_call 24; refine (isSpace_any _ _).mono ?_; rintro e w' ⟨rfl, rfl⟩)
        go_round
        case rel => 
          refine ⟨j + 1, by go_num, by omega, .inr (by omega), HD.out.snoc ?_⟩
          simp [isSp] at hs
          simp [Plain.Dull]
          omega
        case measure => simp [intOf]; omega
      · have hs : isSp (f j) = false := by simpa using hs
        go_wp2_with (go_at_call 24; refine (isSpace_any _ _).mono ?_; rintro e w' ⟨rfl, rfl⟩)
        go_ret
        exact ⟨⟨j, rfl, hij, HJ.out, HD.out⟩, rfl⟩
    · go_wp2
      go_ret
      exact ⟨⟨j, rfl, hij, HJ.out, HD.out⟩, rfl⟩

set_option maxHeartbeats 400000 in
theorem scanDigits_any (f : Nat → Int) (b off len cap : Nat) (hlen : len ≤ 1048576) (i : Nat) (hi : i ≤ 1048576) (w : World) (hl : Lies w b off len f) :
    Calls Try.prog 31 #[.slice (some ⟨b, off, none⟩) len cap, .int .i64 i] w fun e w' => (∃ j : Nat, e = .returned (.int .i64 j) ∧ i ≤ j ∧ (j = i ∨ j ≤ len) ∧ Plain.DullTo f i j) ∧ w' = w := by
  go_enter Try.func31, Try.ntmps31
  go_wp2
  go_loop [1] (fun t => ∃ j : Nat, t = .int .i64 j ∧ i ≤ j ∧ (j = i ∨ j ≤ len) ∧ Plain.DullTo f i j) (fun t => len - (intOf t).toNat)
  case atStart => exact ⟨i, rfl, Nat.le_refl _, .inl rfl, Plain.DullTo.refl f i⟩
  case round =>
    obtain ⟨j, rfl, hij, hj, hD⟩ := hrel
    have HJ : Hid (j = i ∨ j ≤ len) := hj
    have HD : Hid (Plain.DullTo f i j) := hD
    have hj2 : j ≤ 1048576 := by omega
    clear hj hD
    by_cases hlt : j < len
    · have hc := hl j hlt
      have HL : Hid (Lies w b off len f) := hl
      clear hl
      by_cases hs : isDg (f j) = true
      · go_wp2_with (go_at_call 33; refine (isDigit_any _ _).mono ?_; rintro e w' ⟨rfl, rfl⟩)
        go_round
        case rel => 
          refine ⟨j + 1, by go_num, by omega, .inr (by omega), HD.out.snoc ?_⟩
          simp [isDg] at hs
          simp [Plain.Dull]
          omega
        case measure => simp [intOf]; omega
      · have hs : isDg (f j) = false := by simpa using hs
        go_wp2_with (go_at_call 33; refine (isDigit_any _ _).mono ?_; rintro e w' ⟨rfl, rfl⟩)
        go_ret
        exact ⟨⟨j, rfl, hij, HJ.out, HD.out⟩, rfl⟩
    · go_wp2
      go_ret
      exact ⟨⟨j, rfl, hij, HJ.out, HD.out⟩, rfl⟩

end Go.Proofs.Qxb6603802a
