/-
  FnClaimCompareAntisymmetricAndExact (5).
-/
import Derived.Test.Qxb6604514aCmp
namespace Go.Proofs.Qxb6604514a
open Go.RowKit

theorem cmp3_lt {x y : Int} (h : x < y) : cmp3 x y = -1 := by simp [cmp3, h]
theorem cmp3_gt {x y : Int} (h : y < x) : cmp3 x y = 1 := by simp [cmp3, h]; omega
theorem cmp3_eq (x : Int) : cmp3 x x = 0 := by simp [cmp3]

theorem grown_trans {a b c : World} (h : Grown a b) (k : Grown b c) : Grown a c := ⟨World.keptBut_trans h.1 k.1, fun x => (k.2.1 x).trans (h.2.1 x), Nat.le_trans h.2.2 k.2.2⟩

/-- The law, once what the two calls answer is known: x and -x. -/
theorem anti_of (cf ch df dh x y : Int) (w : World) (ex : or2 (cmp3 cf df) (cmp3 ch dh) = x) (ey : or2 (cmp3 df cf) (cmp3 dh ch) = y)
    (h : (cf < df ∧ x = -1 ∧ y = 1) ∨ (df < cf ∧ x = 1 ∧ y = -1) ∨ (cf = df ∧ ch < dh ∧ x = -1 ∧ y = 1) ∨ (cf = df ∧ dh < ch ∧ x = 1 ∧ y = -1) ∨ (cf = df ∧ ch = dh ∧ x = 0 ∧ y = 0)) :
    Calls Try.prog 5 #[.int .u64 cf, .int .u64 ch, .int .u64 df, .int .u64 dh] w fun e w' => e = .returned (.bool true) ∧ Grown w w' := by
  have c1 : ∀ w : World, Calls Try.prog 12 #[.int .u64 cf, .int .u64 ch, .int .u64 df, .int .u64 dh] w fun e w' => e = .returned (.int .i64 x) ∧ Grown w w' := fun w => by
    rw [← ex]; exact zzClaim_any cf ch df dh w
  have c2 : ∀ w : World, Calls Try.prog 12 #[.int .u64 df, .int .u64 dh, .int .u64 cf, .int .u64 ch] w fun e w' => e = .returned (.int .i64 y) ∧ Grown w w' := fun w => by
    rw [← ey]; exact zzClaim_any df dh cf ch w
  have C1 : Hid (∀ w : World, Calls Try.prog 12 #[.int .u64 cf, .int .u64 ch, .int .u64 df, .int .u64 dh] w fun e w' => e = .returned (.int .i64 x) ∧ Grown w w') := c1
  have C2 : Hid (∀ w : World, Calls Try.prog 12 #[.int .u64 df, .int .u64 dh, .int .u64 cf, .int .u64 ch] w fun e w' => e = .returned (.int .i64 y) ∧ Grown w w') := c2
  clear c1 c2 ex ey
  rcases h with ⟨h1, rfl, rfl⟩ | ⟨h1, rfl, rfl⟩ | ⟨rfl, h2, rfl, rfl⟩ | ⟨rfl, h2, rfl, rfl⟩ | ⟨rfl, rfl, rfl, rfl⟩
  · have b1 : (cf == df) = false := by simp; omega
    go_enter Try.func5, Try.ntmps5
    go_wp2_with fail
    refine (C1.out w).mono ?_
    rintro e w1 ⟨rfl, hG1⟩
    go_wp2_with fail
    refine (C2.out w1).mono ?_
    rintro e w2 ⟨rfl, hG2⟩
    go_wp2
    go_ret
    exact ⟨rfl, grown_trans hG1 hG2⟩
  · have b1 : (cf == df) = false := by simp; omega
    go_enter Try.func5, Try.ntmps5
    go_wp2_with fail
    refine (C1.out w).mono ?_
    rintro e w1 ⟨rfl, hG1⟩
    go_wp2_with fail
    refine (C2.out w1).mono ?_
    rintro e w2 ⟨rfl, hG2⟩
    go_wp2
    go_ret
    exact ⟨rfl, grown_trans hG1 hG2⟩
  · have b2 : (ch == dh) = false := by simp; omega
    go_enter Try.func5, Try.ntmps5
    go_wp2_with fail
    refine (C1.out w).mono ?_
    rintro e w1 ⟨rfl, hG1⟩
    go_wp2_with fail
    refine (C2.out w1).mono ?_
    rintro e w2 ⟨rfl, hG2⟩
    go_wp2
    go_ret
    exact ⟨rfl, grown_trans hG1 hG2⟩
  · have b2 : (ch == dh) = false := by simp; omega
    go_enter Try.func5, Try.ntmps5
    go_wp2_with fail
    refine (C1.out w).mono ?_
    rintro e w1 ⟨rfl, hG1⟩
    go_wp2_with fail
    refine (C2.out w1).mono ?_
    rintro e w2 ⟨rfl, hG2⟩
    go_wp2
    go_ret
    exact ⟨rfl, grown_trans hG1 hG2⟩
  · go_enter Try.func5, Try.ntmps5
    go_wp2_with fail
    refine (C1.out w).mono ?_
    rintro e w1 ⟨rfl, hG1⟩
    go_wp2_with fail
    refine (C2.out w1).mono ?_
    rintro e w2 ⟨rfl, hG2⟩
    go_wp2
    go_ret
    exact ⟨rfl, grown_trans hG1 hG2⟩

theorem anti_any (cf ch df dh : Int) (w : World) :
    Calls Try.prog 5 #[.int .u64 cf, .int .u64 ch, .int .u64 df, .int .u64 dh] w fun e w' => e = .returned (.bool true) ∧ Grown w w' := by
  by_cases h1 : cf < df
  · exact anti_of cf ch df dh (-1) 1 w (by rw [cmp3_lt h1]; rfl) (by rw [cmp3_gt h1]; rfl) (.inl ⟨h1, rfl, rfl⟩)
  by_cases h2 : df < cf
  · exact anti_of cf ch df dh 1 (-1) w (by rw [cmp3_gt h2]; rfl) (by rw [cmp3_lt h2]; rfl) (.inr (.inl ⟨h2, rfl, rfl⟩))
  obtain rfl : cf = df := by omega
  by_cases h3 : ch < dh
  · exact anti_of cf ch cf dh (-1) 1 w (by rw [cmp3_eq, cmp3_lt h3]; rfl) (by rw [cmp3_eq, cmp3_gt h3]; rfl) (.inr (.inr (.inl ⟨rfl, h3, rfl, rfl⟩)))
  by_cases h4 : dh < ch
  · exact anti_of cf ch cf dh 1 (-1) w (by rw [cmp3_eq, cmp3_gt h4]; rfl) (by rw [cmp3_eq, cmp3_lt h4]; rfl) (.inr (.inr (.inr (.inl ⟨rfl, h4, rfl, rfl⟩))))
  obtain rfl : ch = dh := by omega
  exact anti_of cf ch cf ch 0 0 w (by rw [cmp3_eq, cmp3_eq]; rfl) (by rw [cmp3_eq, cmp3_eq]; rfl) (.inr (.inr (.inr (.inr ⟨rfl, rfl, rfl, rfl⟩))))

end Go.Proofs.Qxb6604514a
