/-
  THE PLAIN MATHEMATICS of FnMemberCountMatchesParser: the automaton of memberCount over a text given as a function f of places. No Go in sight.
-/
namespace Go.Proofs.Qxb6603802a.Plain

/-- memberCount's four variables. -/
structure St where
  n : Int
  d : Int
  s : Bool
  e : Bool

/-- One round of memberCount. -/
def step (t : St) (c : Int) : St :=
  if t.e = true then ⟨t.n, t.d, t.s, false⟩
  else if t.s = true then (if c = 92 then ⟨t.n, t.d, t.s, true⟩ else ⟨t.n, t.d, c != 34, t.e⟩)
  else if c = 34 then ⟨t.n, t.d, true, t.e⟩
  else if c = 123 then ⟨t.n, t.d + 1, t.s, t.e⟩
  else if c = 125 then ⟨t.n, t.d - 1, t.s, t.e⟩
  else if c = 58 then (if t.d = 1 then ⟨t.n + 1, t.d, t.s, t.e⟩ else t)
  else t

/-- The state behind the first k bytes. -/
def pre (f : Nat → Int) : Nat → St
  | 0 => ⟨0, 0, false, false⟩
  | k + 1 => step (pre f k) (f k)

theorem pre_bound (f : Nat → Int) (k : Nat) : 0 ≤ (pre f k).n ∧ (pre f k).n ≤ k ∧ -(k : Int) ≤ (pre f k).d ∧ (pre f k).d ≤ k := by
  induction k with
  | zero => simp [pre]
  | succ k ih =>
    simp only [pre, step]
    repeat' split
    all_goals (first | omega | (simp only []; omega))

/-- Outside strings, n members counted, d braces open. -/
def Q (f : Nat → Int) (i : Nat) (n d : Int) : Prop := pre f i = ⟨n, d, false, false⟩

/-- A byte that turns nothing outside strings. -/
def Dull (c : Int) : Prop := c ≠ 34 ∧ c ≠ 123 ∧ c ≠ 125 ∧ c ≠ 58

theorem Q.dull {f : Nat → Int} {i : Nat} {n d : Int} (h : Q f i n d) (hc : Dull (f i)) : Q f (i + 1) n d := by
  obtain ⟨h1, h2, h3, h4⟩ := hc
  unfold Q at *
  simp [pre, h, step, h1, h2, h3, h4]

theorem Q.opens {f : Nat → Int} {i : Nat} {n d : Int} (h : Q f i n d) (hc : f i = 123) : Q f (i + 1) n (d + 1) := by
  unfold Q at *
  simp [pre, h, step, hc]

theorem Q.shuts {f : Nat → Int} {i : Nat} {n d : Int} (h : Q f i n d) (hc : f i = 125) : Q f (i + 1) n (d - 1) := by
  unfold Q at *
  simp [pre, h, step, hc]

theorem Q.colon_in {f : Nat → Int} {i : Nat} {n d : Int} (h : Q f i n d) (hc : f i = 58) (hd : d = 1) : Q f (i + 1) (n + 1) d := by
  unfold Q at *
  simp [pre, h, step, hc, hd]

theorem Q.colon_out {f : Nat → Int} {i : Nat} {n d : Int} (h : Q f i n d) (hc : f i = 58) (hd : d ≠ 1) : Q f (i + 1) n d := by
  unfold Q at *
  simp [pre, h, step, hc, hd]

/-- All bytes from i up to j are dull. -/
def DullTo (f : Nat → Int) (i j : Nat) : Prop := ∀ k, i ≤ k → k < j → Dull (f k)

theorem DullTo.refl (f : Nat → Int) (i : Nat) : DullTo f i i := fun k h1 h2 => by omega

theorem DullTo.snoc {f : Nat → Int} {i j : Nat} (h : DullTo f i j) (hc : Dull (f j)) : DullTo f i (j + 1) := fun k h1 h2 => by
  by_cases e : k = j
  · rw [e]; exact hc
  · exact h k h1 (by omega)

theorem DullTo.trans {f : Nat → Int} {i j k : Nat} (h : DullTo f i j) (h' : DullTo f j k) : DullTo f i k := fun m h1 h2 => by
  by_cases e : m < j
  · exact h m h1 e
  · exact h' m (by omega) h2

theorem Q.dullTo {f : Nat → Int} {i j : Nat} {n d : Int} (h : Q f i n d) (hij : i ≤ j) (hc : DullTo f i j) : Q f j n d := by
  obtain ⟨m, rfl⟩ : ∃ m, j = i + m := ⟨j - i, by omega⟩
  clear hij
  induction m with
  | zero => exact h
  | succ m ih => exact (ih (fun k h1 h2 => hc k h1 (by omega))).dull (hc (i + m) (by omega) (by omega))

/-- Inside a string, no escape pending. -/
def S (f : Nat → Int) (i : Nat) (n d : Int) : Prop := pre f i = ⟨n, d, true, false⟩

theorem Q.quote {f : Nat → Int} {i : Nat} {n d : Int} (h : Q f i n d) (hc : f i = 34) : S f (i + 1) n d := by
  unfold Q at h
  unfold S
  simp [pre, h, step, hc]

theorem S.quote {f : Nat → Int} {i : Nat} {n d : Int} (h : S f i n d) (hc : f i = 34) : Q f (i + 1) n d := by
  unfold S at h
  unfold Q
  simp [pre, h, step, hc]

theorem S.plain {f : Nat → Int} {i : Nat} {n d : Int} (h : S f i n d) (h1 : f i ≠ 34) (h2 : f i ≠ 92) : S f (i + 1) n d := by
  unfold S at *
  simp [pre, h, step, h1, h2]

theorem S.escape {f : Nat → Int} {i : Nat} {n d : Int} (h : S f i n d) (hc : f i = 92) : S f (i + 2) n d := by
  unfold S at *
  simp [pre, h, step, hc]

/-- '\u' and four bytes that are neither a quote nor a backslash. -/
theorem S.hex {f : Nat → Int} {i : Nat} {n d : Int} (h : S f i n d) (hc : f i = 92) (hx : ∀ k, i + 2 ≤ k → k ≤ i + 5 → f k ≠ 34 ∧ f k ≠ 92) : S f (i + 6) n d := by
  have h2 := h.escape hc
  have h3 := h2.plain (hx _ (by omega) (by omega)).1 (hx _ (by omega) (by omega)).2
  have h4 := h3.plain (hx _ (by omega) (by omega)).1 (hx _ (by omega) (by omega)).2
  have h5 := h4.plain (hx _ (by omega) (by omega)).1 (hx _ (by omega) (by omega)).2
  exact h5.plain (hx _ (by omega) (by omega)).1 (hx _ (by omega) (by omega)).2

end Go.Proofs.Qxb6603802a.Plain
