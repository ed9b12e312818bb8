/-
  cmp.isNaN (31), cmp.Compare (27), cmp.Or (26) at two values, claim.compare (22), ZZclaimCompare (12).
-/
import Derived.Test.Qxb6604514aProg
import Derived.WalkKit
import Derived.WalkSpells
import Derived.Outline
import Derived.StillTactics
import Derived.Laws.Pointers
import Derived.Deep.RegionHeld3
import Derived.RowKit3
namespace Go.Proofs.Qxb6604514a
open Go.RowKit

/-- cmp.Compare of two numbers. -/
def cmp3 (x y : Int) : Int := if x < y then -1 else if y < x then 1 else 0
/-- cmp.Or of two numbers. -/
def or2 (p q : Int) : Int := if p = 0 then q else p

theorem isNaN_any (x : Int) (w : World) : Calls Try.prog 31 #[.int .u64 x] w fun e w' => e = .returned (.bool false) ∧ w = w' := by
  go_enter Try.func31, Try.ntmps31
  go_wp2
  go_ret
  exact ⟨by simp, rfl⟩

set_option maxHeartbeats 400000 in
theorem compare_any (x y : Int) (w : World) : Calls Try.prog 27 #[.int .u64 x, .int .u64 y] w fun e w' => e = .returned (.int .i64 (cmp3 x y)) ∧ w = w' := by
  by_cases h1 : x < y
  · have e : cmp3 x y = -1 := by simp [cmp3, h1]
    rw [e]; clear e
    go_enter Try.func27, Try.ntmps27
    go_wp2_with (go_at_call 31; refine (isNaN_any _ _).mono ?_; rintro e w' ⟨rfl, rfl⟩)
    go_ret
    exact ⟨rfl, rfl⟩
  · by_cases h2 : y < x
    · have e : cmp3 x y = 1 := by simp [cmp3, h1, h2]
      rw [e]; clear e
      go_enter Try.func27, Try.ntmps27
      go_wp2_with (go_at_call 31; refine (isNaN_any _ _).mono ?_; rintro e w' ⟨rfl, rfl⟩)
      go_ret
      exact ⟨rfl, rfl⟩
    · have e : cmp3 x y = 0 := by simp [cmp3, h1, h2]
      rw [e]; clear e
      go_enter Try.func27, Try.ntmps27
      go_wp2_with (go_at_call 31; refine (isNaN_any _ _).mono ?_; rintro e w' ⟨rfl, rfl⟩)
      go_ret
      exact ⟨rfl, rfl⟩

set_option maxHeartbeats 400000 in
theorem or_any (b : Nat) (p q : Int) (w : World) (h0 : w.cell? ⟨b, 0, none⟩ = some (.int .i64 p)) (h1 : w.cell? ⟨b, 1, none⟩ = some (.int .i64 q)) :
    Calls Try.prog 26 #[.slice (some ⟨b, 0, none⟩) 2 2] w fun e w' => e = .returned (.int .i64 (or2 p q)) ∧ w = w' := by
  by_cases hp : p = 0
  · subst hp
    have e : or2 0 q = q := rfl
    rw [e]; clear e
    by_cases hq : q = 0
    · subst hq
      go_enter Try.func26, Try.ntmps26
      go_wp2
      refine wp_loop_rounds 3 ?_
      rw [rounds_succ]
      go_wp2
      rw [rounds_succ]
      go_wp2
      rw [rounds_succ]
      go_wp2
      go_ret
      exact ⟨rfl, rfl⟩
    · have hq' : (q != 0) = true := by simpa using hq
      go_enter Try.func26, Try.ntmps26
      go_wp2
      refine wp_loop_rounds 3 ?_
      rw [rounds_succ]
      go_wp2
      rw [rounds_succ]
      go_wp2
      go_ret
      exact ⟨rfl, rfl⟩
  · have hp' : (p != 0) = true := by simpa using hp
    have e : or2 p q = p := by simp [or2, hp]
    rw [e]; clear e
    go_enter Try.func26, Try.ntmps26
    go_wp2
    refine wp_loop_rounds 3 ?_
    rw [rounds_succ]
    go_wp2
    go_ret
    exact ⟨rfl, rfl⟩

theorem pair_at (W : World) (p q : Int) (b : Nat) (hb : b = W.heap.size) : (W.alloc (.cells #[.int .i64 p, .int .i64 q] 3)).drew.cell? ⟨b, 0, none⟩ = some (.int .i64 p) ∧ (W.alloc (.cells #[.int .i64 p, .int .i64 q] 3)).drew.cell? ⟨b, 1, none⟩ = some (.int .i64 q) := by
  subst hb
  simp

set_option maxHeartbeats 1600000 in
theorem claim_any (cf ch df dh : Int) (w : World) :
    Calls Try.prog 22 #[.agg #[.int .u64 cf, .int .u64 ch], .agg #[.int .u64 df, .int .u64 dh]] w fun e w' => e = .returned (.int .i64 (or2 (cmp3 cf df) (cmp3 ch dh))) ∧ Grown w w' := by
  go_enter Try.func22, Try.ntmps22
  go_wp2
  go_region_held3 (fun w' => w'.cell? ⟨w.heap.size, 0, none⟩ = some (.int .u64 cf) ∧ w'.cell? ⟨w.heap.size, 1, none⟩ = some (.int .u64 ch) ∧ w'.cell? ⟨w.heap.size + 1, 0, none⟩ = some (.int .u64 df) ∧ w'.cell? ⟨w.heap.size + 1, 1, none⟩ = some (.int .u64 dh)) (simp [go_sem, World.cell?_alloc_past])
    (first
      | (go_at_call 27; refine (compare_any _ _ _).mono ?_; rintro e w' ⟨rfl, rfl⟩)
      | (go_at_call 26; refine (or_any _ (cmp3 cf df) (cmp3 ch dh) _ (pair_at _ _ _ _ (by simp)).1 (pair_at _ _ _ _ (by simp)).2).mono ?_; rintro e w' ⟨rfl, rfl⟩))
  go_wp2
  go_ret
  exact ⟨rfl, by repeat (first | exact Grown.refl _ | apply Grown.drew | apply Grown.alloc)⟩

theorem zzClaim_any (cf ch df dh : Int) (w : World) :
    Calls Try.prog 12 #[.int .u64 cf, .int .u64 ch, .int .u64 df, .int .u64 dh] w fun e w' => e = .returned (.int .i64 (or2 (cmp3 cf df) (cmp3 ch dh))) ∧ Grown w w' := by
  go_enter Try.func12, Try.ntmps12
  go_wp2_with fail
  refine (claim_any cf ch df dh w).mono ?_
  rintro e w' ⟨rfl, hG⟩
  go_wp2
  go_ret
  exact ⟨rfl, hG⟩

end Go.Proofs.Qxb6604514a
