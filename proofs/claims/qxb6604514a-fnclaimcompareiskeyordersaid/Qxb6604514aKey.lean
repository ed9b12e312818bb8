/-
  zzKeyByte (23), zzKeyCompare (13), FnClaimCompareIsKeyOrder (4).
-/
import Derived.Test.Qxb6604514aCmp
import Derived.Test.Qxb6604514aKeyPlain
namespace Go.Proofs.Qxb6604514a
open Go.RowKit KeyPlain

/-- A word. -/
def Word (x : Int) : Prop := 0 ≤ x ∧ x < 18446744073709551616

set_option maxHeartbeats 400000 in
theorem keyByte_lo (x y : Int) (k : Nat) (hk : k < 8) (w : World) :
    Calls Try.prog 23 #[.int .u64 x, .int .u64 y, .int .i64 k] w fun e w' => e = .returned (.int .u8 (kb x k)) ∧ w = w' := by
  unfold kb
  go_enter Try.func23, Try.ntmps23
  go_wp2
  go_ret
  exact ⟨rfl, rfl⟩

set_option maxHeartbeats 400000 in
theorem keyByte_hi (x y : Int) (k : Nat) (hk : k < 8) (w : World) :
    Calls Try.prog 23 #[.int .u64 x, .int .u64 y, .int .i64 ((k : Int) + 8)] w fun e w' => e = .returned (.int .u8 (kb y k)) ∧ w = w' := by
  unfold kb
  go_enter Try.func23, Try.ntmps23
  go_wp2
  go_ret
  exact ⟨rfl, rfl⟩

theorem kbyte_hi (x y : Int) (j : Nat) : kbyte x y (j + 8) = kb y j := by
  unfold kbyte
  rw [if_neg (by omega), Nat.add_sub_cancel]

theorem keyByte_any (x y : Int) (k : Nat) (hk : k < 16) (w : World) :
    Calls Try.prog 23 #[.int .u64 x, .int .u64 y, .int .i64 k] w fun e w' => e = .returned (.int .u8 (kbyte x y k)) ∧ w = w' := by
  by_cases h : k < 8
  · have e : kbyte x y k = kb x k := by simp [kbyte, h]
    rw [e]
    exact keyByte_lo x y k h w
  · obtain ⟨j, rfl⟩ : ∃ j, k = j + 8 := ⟨k - 8, by omega⟩
    have e : kbyte x y (j + 8) = kb y j := kbyte_hi x y j
    have c : ((j + 8 : Nat) : Int) = (j : Int) + 8 := by omega
    rw [e, c]
    exact keyByte_hi x y j (by omega) w

/-- What comparing the two keys byte by byte answers, said at the first byte that differs. -/
def KeyAns (cf ch df dh r : Int) : Prop :=
  (r = 0 ∧ ∀ j, j < 16 → kbyte cf ch j = kbyte df dh j) ∨ ∃ k, k < 16 ∧ (∀ j, j < k → kbyte cf ch j = kbyte df dh j) ∧ ((r = -1 ∧ kbyte cf ch k < kbyte df dh k) ∨ (r = 1 ∧ kbyte df dh k < kbyte cf ch k))

set_option maxRecDepth 100000 in
set_option maxHeartbeats 800000 in
theorem keyCompare_any (cf ch df dh : Int) (w : World) :
    Calls Try.prog 13 #[.int .u64 cf, .int .u64 ch, .int .u64 df, .int .u64 dh] w fun e w' => (∃ r, e = .returned (.int .i64 r) ∧ KeyAns cf ch df dh r) ∧ w = w' := by
  go_enter Try.func13, Try.ntmps13
  go_wp2
  go_loop [9] (fun t => ∃ k : Nat, t = .int .i64 k ∧ k ≤ 16 ∧ Hid (∀ j, j < k → kbyte cf ch j = kbyte df dh j)) (fun t => 16 - (intOf t).toNat)
  case atStart => exact ⟨0, rfl, by omega, fun j hj => by omega⟩
  case round =>
    obtain ⟨k, rfl, hk, HA⟩ := hrel
    by_cases hlt : k < 16
    · go_wp2_with fail
      refine (keyByte_any cf ch k hlt w).mono ?_
      rintro e w' ⟨rfl, rfl⟩
      go_wp2_with fail
      refine (keyByte_any df dh k hlt w).mono ?_
      rintro e w' ⟨rfl, rfl⟩
      by_cases hl : kbyte cf ch k < kbyte df dh k
      · have HAns : Hid (KeyAns cf ch df dh (-1)) := .inr ⟨k, hlt, HA.out, .inl ⟨rfl, hl⟩⟩
        go_wp2
        go_ret
        exact ⟨⟨-1, rfl, HAns.out⟩, rfl⟩
      · by_cases hg : kbyte df dh k < kbyte cf ch k
        · have HAns : Hid (KeyAns cf ch df dh 1) := .inr ⟨k, hlt, HA.out, .inr ⟨rfl, hg⟩⟩
          go_wp2
          go_ret
          exact ⟨⟨1, rfl, HAns.out⟩, rfl⟩
        · have HA2 : Hid (∀ j, j < k + 1 → kbyte cf ch j = kbyte df dh j) := fun j hj => by
            by_cases e : j = k
            · rw [e]; omega
            · exact HA.out j (by omega)
          go_wp2
          go_round
          case rel => exact ⟨k + 1, by go_num, by omega, HA2⟩
          case measure => simp [intOf]; omega
    · have hkk : k = 16 := by omega
      subst hkk
      have HAns : Hid (KeyAns cf ch df dh 0) := .inl ⟨rfl, HA.out⟩
      go_wp2
      go_ret
      exact ⟨⟨0, rfl, HAns.out⟩, rfl⟩

theorem hi_eq {cf ch df dh : Int} {k : Nat} (h : ∀ j, j < k → kbyte cf ch j = kbyte df dh j) : ∀ j, j < k → j < 8 → kb cf j = kb df j := fun j h1 h2 => by
  have := h j h1
  simpa [kbyte, h2] using this
theorem lo_eq {cf ch df dh : Int} {k : Nat} (h : ∀ j, j < k → kbyte cf ch j = kbyte df dh j) : ∀ j, j + 8 < k → kb ch j = kb dh j := fun j h1 => by
  have := h (j + 8) h1
  rwa [kbyte_hi, kbyte_hi] at this

theorem key_eq {cf ch df dh : Int} (w1 : Word cf) (w2 : Word ch) (w3 : Word df) (w4 : Word dh) (h : ∀ j, j < 16 → kbyte cf ch j = kbyte df dh j) : cf = df ∧ ch = dh :=
  ⟨word_eq w1 w3 (fun j hj => hi_eq h j (by omega) hj), word_eq w2 w4 (fun j hj => lo_eq h j (by omega))⟩

theorem key_lt {cf ch df dh : Int} (w1 : Word cf) (w2 : Word ch) (w3 : Word df) (w4 : Word dh) {k : Nat} (hk : k < 16) (h : ∀ j, j < k → kbyte cf ch j = kbyte df dh j) (hlt : kbyte cf ch k < kbyte df dh k) : cf < df ∨ cf = df ∧ ch < dh := by
  by_cases c : k < 8
  · have l : kb cf k < kb df k := by simpa [kbyte, c] using hlt
    exact .inl (word_lt w1 w3 k c (fun j hj => hi_eq h j hj (by omega)) l)
  · obtain ⟨m, rfl⟩ : ∃ m, k = m + 8 := ⟨k - 8, by omega⟩
    have l : kb ch m < kb dh m := by rwa [kbyte_hi, kbyte_hi] at hlt
    exact .inr ⟨word_eq w1 w3 (fun j hj => hi_eq h j (by omega) hj), word_lt w2 w4 m (by omega) (fun j hj => lo_eq h j (by omega)) l⟩

/-- THE PLAIN LAW: the two answers are one. -/
theorem ans_eq {cf ch df dh r : Int} (w1 : Word cf) (w2 : Word ch) (w3 : Word df) (w4 : Word dh) (h : KeyAns cf ch df dh r) : or2 (cmp3 cf df) (cmp3 ch dh) = r := by
  rcases h with ⟨rfl, h⟩ | ⟨k, hk, h, ⟨rfl, hl⟩ | ⟨rfl, hg⟩⟩
  · obtain ⟨rfl, rfl⟩ := key_eq w1 w2 w3 w4 h
    simp [or2, cmp3]
  · rcases key_lt w1 w2 w3 w4 hk h hl with c | ⟨rfl, c⟩
    · simp [or2, cmp3, c]
    · simp [or2, cmp3, c]
  · rcases key_lt w3 w4 w1 w2 hk (fun j hj => (h j hj).symm) hg with c | ⟨rfl, c⟩
    · have c' : ¬ cf < df := by omega
      simp [or2, cmp3, c, c']
    · have c' : ¬ ch < dh := by omega
      simp [or2, cmp3, c, c']

set_option maxHeartbeats 400000 in
theorem key_any (cf ch df dh : Int) (w1 : Word cf) (w2 : Word ch) (w3 : Word df) (w4 : Word dh) (w : World) :
    Calls Try.prog 4 #[.int .u64 cf, .int .u64 ch, .int .u64 df, .int .u64 dh] w fun e w' => e = .returned (.bool true) ∧ Grown w w' := by
  go_enter Try.func4, Try.ntmps4
  go_wp2_with fail
  refine (zzClaim_any cf ch df dh w).mono ?_
  rintro e wa ⟨rfl, hG⟩
  go_wp2_with fail
  refine (keyCompare_any cf ch df dh wa).mono ?_
  rintro e wb ⟨⟨r, rfl, hR⟩, rfl⟩
  rw [ans_eq w1 w2 w3 w4 hR]
  clear hR
  go_wp2
  go_ret
  exact ⟨by simp, hG⟩

end Go.Proofs.Qxb6604514a
