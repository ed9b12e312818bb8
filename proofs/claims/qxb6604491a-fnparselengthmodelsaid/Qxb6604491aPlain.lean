/-
  THE PLAIN MATHEMATICS of FnParseLengthModel: decimal digits in a text that is given as a function f of places. No Go in sight.
-/
namespace Go.Proofs.Qxb6604491a.Plain

/-- The powers of ten. -/
def ten : Nat → Int
  | 0 => 1
  | k + 1 => 10 * ten k

theorem ten_pos (k : Nat) : 1 ≤ ten k := by
  induction k with
  | zero => simp [ten]
  | succ k ih => simp only [ten]; omega

theorem ten_mono {a b : Nat} (h : a ≤ b) : ten a ≤ ten b := by
  obtain ⟨m, rfl⟩ : ∃ m, b = a + m := ⟨b - a, by omega⟩
  clear h
  induction m with
  | zero => exact Int.le_refl _
  | succ m ih =>
    have := ten_pos (a + m)
    show ten a ≤ 10 * ten (a + m)
    omega

/-- The value of the k digits from s on. -/
def V (f : Nat → Int) (s : Nat) : Nat → Int
  | 0 => 0
  | k + 1 => V f s k * 10 + (f (s + k) - 48)

/-- All from a on and below b are digits. -/
def Dig (f : Nat → Int) (a b : Nat) : Prop := ∀ k, a ≤ k → k < b → 48 ≤ f k ∧ f k ≤ 57

theorem V_bound {f : Nat → Int} {s k : Nat} (h : Dig f s (s + k)) : 0 ≤ V f s k ∧ V f s k < ten k := by
  induction k with
  | zero => simp [V, ten]
  | succ k ih =>
    have i := ih (fun j h1 h2 => h j h1 (by omega))
    have d := h (s + k) (by omega) (by omega)
    simp only [V, ten]
    omega

/-- From the left: one digit more. -/
theorem V_left {f : Nat → Int} {s k : Nat} : V f s (k + 1) = (f s - 48) * ten k + V f (s + 1) k := by
  induction k with
  | zero => simp [V, ten]
  | succ k ih =>
    have e : V f s (k + 1 + 1) = V f s (k + 1) * 10 + (f (s + (k + 1)) - 48) := rfl
    have e2 : V f (s + 1) (k + 1) = V f (s + 1) k * 10 + (f (s + 1 + k) - 48) := rfl
    have e3 : s + (k + 1) = s + 1 + k := by omega
    have e4 : (f s - 48) * (10 * ten k) = (f s - 48) * ten k * 10 := by rw [Int.mul_assoc, Int.mul_comm (ten k) 10]
    rw [e, ih, e2, e3]
    simp only [ten]
    rw [e4, Int.add_mul]
    omega

/-- A first digit that is not nought. -/
theorem V_lead {f : Nat → Int} {s k : Nat} (h : Dig f s (s + (k + 1))) (h0 : 49 ≤ f s) : ten k ≤ V f s (k + 1) := by
  rw [V_left]
  have b := V_bound (f := f) (s := s + 1) (k := k) (fun j h1 h2 => h j (by omega) (by omega))
  have t := ten_pos k
  have m : 1 * ten k ≤ (f s - 48) * ten k := Int.mul_le_mul_of_nonneg_right (by omega) (by omega)
  omega

/-- Noughts ahead do not count. -/
theorem V_zeros {f : Nat → Int} {s k : Nat} (h : ∀ j, j < s → f j = 48) : V f 0 (s + k) = V f s k := by
  induction k with
  | zero =>
    show V f 0 s = 0
    induction s with
    | zero => rfl
    | succ s ih =>
      have e := h s (by omega)
      have i := ih (fun j hj => h j (by omega))
      simp only [V, Nat.zero_add, i, e]
      omega
  | succ k ih =>
    show V f 0 (s + k) * 10 + (f (0 + (s + k)) - 48) = V f s k * 10 + (f (s + k) - 48)
    rw [ih, Nat.zero_add]

/-- More digits: no less. -/
theorem V_grows {f : Nat → Int} {k m : Nat} (hkm : k ≤ m) (h : Dig f 0 m) : V f 0 k ≤ V f 0 m := by
  obtain ⟨d, rfl⟩ : ∃ d, m = k + d := ⟨m - k, by omega⟩
  clear hkm
  induction d with
  | zero => exact Int.le_refl _
  | succ d ih =>
    have i := ih (fun j h1 h2 => h j h1 (by omega))
    have dd := h (k + d) (by omega) (by omega)
    have b := V_bound (f := f) (s := 0) (k := k + d) (fun j h1 h2 => h j h1 (by omega))
    show V f 0 k ≤ V f 0 (k + d) * 10 + (f (0 + (k + d)) - 48)
    rw [Nat.zero_add]
    omega

/-- Agreeing digits have one value. -/
theorem V_congr {f g : Nat → Int} {s k : Nat} (h : ∀ j, s ≤ j → j < s + k → f j = g j) : V f s k = V g s k := by
  induction k with
  | zero => rfl
  | succ k ih =>
    simp only [V]
    rw [ih (fun j h1 h2 => h j h1 (by omega)), h (s + k) (by omega) (by omega)]

theorem V_shift {h : Nat → Int} {i k : Nat} : V (fun j => h (i + j)) 0 k = V h i k := by
  induction k with
  | zero => rfl
  | succ k ih =>
    simp only [V]
    rw [ih, Nat.zero_add]

/-- Ahead once, ahead for good. -/
theorem V_ahead {f g : Nat → Int} {s t i : Nat} (h : V g t i < V f s i) (m : Nat) (hf : Dig f s (s + (i + m))) (hg : Dig g t (t + (i + m))) : V g t (i + m) < V f s (i + m) := by
  induction m with
  | zero => exact h
  | succ m ih =>
    have i1 := ih (fun j h1 h2 => hf j h1 (by omega)) (fun j h1 h2 => hg j h1 (by omega))
    have d1 := hf (s + (i + m)) (by omega) (by omega)
    have d2 := hg (t + (i + m)) (by omega) (by omega)
    show V g t (i + m) * 10 + (g (t + (i + m)) - 48) < V f s (i + m) * 10 + (f (s + (i + m)) - 48)
    omega

/-- One digit more is written ahead of the others. -/
def put (h : Nat → Int) (j : Nat) (d : Int) : Nat → Int := fun k => if k = j then d else h k

theorem put_same (h : Nat → Int) (j : Nat) (d : Int) : put h j d j = d := by simp [put]
theorem put_other (h : Nat → Int) {j k : Nat} (d : Int) (hk : k ≠ j) : put h j d k = h k := by simp [put, hk]

theorem digit_step {h : Nat → Int} {x y : Int} {j m : Nat} (hx : x = y * ten m + V h (j + 1) m) : x = (y / 10) * ten (m + 1) + V (put h j (48 + y % 10)) j (m + 1) := by
  have e1 : V (put h j (48 + y % 10)) (j + 1) m = V h (j + 1) m := V_congr (fun k h1 _ => put_other h _ (by omega))
  have e2 : (y / 10) * ten (m + 1) = (10 * (y / 10)) * ten m := by
    show (y / 10) * (10 * ten m) = _
    rw [← Int.mul_assoc, Int.mul_comm (y / 10) 10]
  have e3 : (10 * (y / 10)) * ten m + (y % 10) * ten m = y * ten m := by
    rw [← Int.add_mul, Int.mul_ediv_add_emod]
  have e4 : 48 + y % 10 - 48 = y % 10 := by omega
  rw [V_left, e1, put_same, e2, e4, hx, ← e3]
  omega

theorem digit_room {h : Nat → Int} {x y : Int} {i m : Nat} (hx : x = y * ten m + V h i m) (hd : Dig h i (i + m)) (hy : 0 < y) (hb : x ≤ 214748363) : ten m ≤ x ∧ m ≤ 8 := by
  have b := V_bound hd
  have t := ten_pos m
  have p : 1 * ten m ≤ y * ten m := Int.mul_le_mul_of_nonneg_right (by omega) (by omega)
  have g : ten m ≤ x := by omega
  refine ⟨g, ?_⟩
  by_cases e : m ≤ 8
  · exact e
  · have q := ten_mono (show 9 ≤ m by omega)
    have n9 : ten 9 = 1000000000 := rfl
    omega

/-- WHAT parseLength TAKES: one digit at least, digits alone, a carriage return behind them, a value within the limit. -/
def Good (f : Nat → Int) (len : Nat) (L : Int) : Prop := 2 ≤ len ∧ f (len - 1) = 13 ∧ Dig f 0 (len - 1) ∧ V f 0 (len - 1) ≤ L

/-- The limit's own digits. -/
structure Lim (g : Nat → Int) (n : Nat) (L : Int) : Prop where
  dig : Dig g 0 n
  one : 1 ≤ n
  nine : n ≤ 9
  val : V g 0 n = L
  lead : n = 1 ∨ ten (n - 1) ≤ L

theorem Lim.lt {g : Nat → Int} {n : Nat} {L : Int} (h : Lim g n L) : 0 ≤ L ∧ L < ten n := by
  have b := V_bound (f := g) (s := 0) (k := n) (by rw [Nat.zero_add]; exact h.dig)
  rw [h.val] at b
  exact b

section
variable {f g : Nat → Int} {last s n : Nat} {L : Int}

/-- More digits than the limit has. -/
theorem too_long (h : Lim g n L) (hd : Dig f 0 last) (hz : ∀ j, j < s → f j = 48) (hs : s < last) (h0 : f s ≠ 48) (hlong : n < last - s) : L < V f 0 last := by
  obtain ⟨k, hk⟩ : ∃ k, last = s + (k + 1) := ⟨last - s - 1, by omega⟩
  have d0 := hd s (by omega) hs
  have lead := V_lead (f := f) (s := s) (k := k) (fun j h1 h2 => hd j (by omega) (by omega)) (by omega)
  have e := V_zeros (f := f) (s := s) (k := k + 1) hz
  have m := ten_mono (show n ≤ k by omega)
  have l := h.lt
  rw [hk, e]
  omega

/-- Fewer digits than the limit has. -/
theorem short (h : Lim g n L) (hd : Dig f 0 last) (hz : ∀ j, j < s → f j = 48) (hs : s < last) (hshort : last - s < n) : V f 0 last ≤ L := by
  obtain ⟨k, hk⟩ : ∃ k, last = s + k := ⟨last - s, by omega⟩
  have e := V_zeros (f := f) (s := s) (k := k) hz
  have b := V_bound (f := f) (s := s) (k := k) (fun j h1 h2 => hd j (by omega) (by omega))
  have m := ten_mono (show k ≤ n - 1 by omega)
  have l := h.lead
  rw [hk, e]
  omega

/-- As many: the first digit that differs decides. -/
theorem above (h : Lim g n L) (hd : Dig f 0 last) (hz : ∀ j, j < s → f j = 48) (hsn : last = s + n) {i : Nat} (hi : i < n) (heq : V f s i = V g 0 i) (hgt : g i < f (s + i)) : L < V f 0 last := by
  have e := V_zeros (f := f) (s := s) (k := n) hz
  have a : V g 0 (i + 1) < V f s (i + 1) := by
    show V g 0 i * 10 + (g (0 + i) - 48) < V f s i * 10 + (f (s + i) - 48)
    rw [Nat.zero_add, heq]
    omega
  obtain ⟨m, hm⟩ : ∃ m, n = i + 1 + m := ⟨n - (i + 1), by omega⟩
  have := V_ahead a m (fun j h1 h2 => hd j (by omega) (by omega)) (fun j h1 h2 => h.dig j h1 (by omega))
  rw [← hm, h.val] at this
  rw [hsn, e]
  exact this

theorem below (h : Lim g n L) (hd : Dig f 0 last) (hz : ∀ j, j < s → f j = 48) (hsn : last = s + n) {i : Nat} (hi : i < n) (heq : V f s i = V g 0 i) (hlt : f (s + i) < g i) : V f 0 last ≤ L := by
  have e := V_zeros (f := f) (s := s) (k := n) hz
  have a : V f s (i + 1) < V g 0 (i + 1) := by
    show V f s i * 10 + (f (s + i) - 48) < V g 0 i * 10 + (g (0 + i) - 48)
    rw [Nat.zero_add, heq]
    omega
  obtain ⟨m, hm⟩ : ∃ m, n = i + 1 + m := ⟨n - (i + 1), by omega⟩
  have := V_ahead a m (fun j h1 h2 => h.dig j h1 (by omega)) (fun j h1 h2 => hd j (by omega) (by omega))
  rw [← hm, h.val] at this
  rw [hsn, e]
  omega

theorem same (h : Lim g n L) (hz : ∀ j, j < s → f j = 48) (hsn : last = s + n) (heq : V f s n = V g 0 n) : V f 0 last ≤ L := by
  have e := V_zeros (f := f) (s := s) (k := n) hz
  rw [hsn, e, heq, h.val]
  exact Int.le_refl _
end

end Go.Proofs.Qxb6604491a.Plain
