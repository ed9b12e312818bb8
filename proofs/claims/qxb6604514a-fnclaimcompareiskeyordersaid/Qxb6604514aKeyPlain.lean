/-
  THE PLAIN MATHEMATICS of FnClaimCompareIsKeyOrder: the eight bytes of a word, the highest first. No Go in sight.
-/
namespace Go.Proofs.Qxb6604514a.KeyPlain

/-- The k-th byte of a word, the highest first. -/
def kb (x : Int) (k : Nat) : Int := x / 2 ^ (56 - 8 * k) % 256

/-- The k-th byte of a key of two words. -/
def kbyte (x y : Int) (k : Nat) : Int := if k < 8 then kb x k else kb y (k - 8)

theorem kb_byte (x : Int) (k : Nat) : 0 ≤ kb x k ∧ kb x k ≤ 255 := by
  unfold kb
  omega

theorem kbyte_byte (x y : Int) (k : Nat) : 0 ≤ kbyte x y k ∧ kbyte x y k ≤ 255 := by
  unfold kbyte
  split
  · exact kb_byte _ _
  · exact kb_byte _ _

theorem shift_step (x : Int) {k : Nat} (hk : k < 8) : x / 2 ^ (56 - 8 * k) / 256 = x / 2 ^ (64 - 8 * k) := by
  have e : 64 - 8 * k = (56 - 8 * k) + 8 := by omega
  have p : (2 : Int) ^ (64 - 8 * k) = 2 ^ (56 - 8 * k) * 256 := by rw [e, Int.pow_add]; rfl
  have n : (0 : Int) ≤ 2 ^ (56 - 8 * k) := Int.le_of_lt (Int.pow_pos (by decide))
  rw [p, Int.ediv_ediv_of_nonneg n]

/-- The bytes ahead agree: so do the words, cut there. -/
theorem head_eq {x y : Int} (hx : 0 ≤ x ∧ x < 18446744073709551616) (hy : 0 ≤ y ∧ y < 18446744073709551616) (k : Nat) (hk : k ≤ 8) (h : ∀ j, j < k → kb x j = kb y j) : x / 2 ^ (64 - 8 * k) = y / 2 ^ (64 - 8 * k) := by
  induction k with
  | zero =>
    show x / 18446744073709551616 = y / 18446744073709551616
    omega
  | succ k ih =>
    have i := ih (by omega) (fun j hj => h j (by omega))
    have l := h k (by omega)
    have sx := shift_step x (show k < 8 by omega)
    have sy := shift_step y (show k < 8 by omega)
    have e : 64 - 8 * (k + 1) = 56 - 8 * k := by omega
    unfold kb at l
    rw [e]
    omega

theorem word_lt {x y : Int} (hx : 0 ≤ x ∧ x < 18446744073709551616) (hy : 0 ≤ y ∧ y < 18446744073709551616) (k : Nat) (hk : k < 8) (h : ∀ j, j < k → kb x j = kb y j) (hlt : kb x k < kb y k) : x < y := by
  have i := head_eq hx hy k (by omega) h
  have sx := shift_step x hk
  have sy := shift_step y hk
  unfold kb at hlt
  by_cases c : x < y
  · exact c
  · have d : y / 2 ^ (56 - 8 * k) ≤ x / 2 ^ (56 - 8 * k) := Int.ediv_le_ediv (Int.pow_pos (by decide)) (by omega)
    omega

theorem word_eq {x y : Int} (hx : 0 ≤ x ∧ x < 18446744073709551616) (hy : 0 ≤ y ∧ y < 18446744073709551616) (h : ∀ j, j < 8 → kb x j = kb y j) : x = y := by
  have i := head_eq hx hy 8 (by omega) h
  simpa using i

end Go.Proofs.Qxb6604514a.KeyPlain
