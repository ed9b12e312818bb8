/-
  zzObjectMembers (8), zzBytes_.. (7), ZZmemberCount (10), the law (3).
-/
import Derived.Test.Qxb6603802aCount
namespace Go.Proofs.Qxb6603802a
open Go.RowKit

set_option maxRecDepth 100000 in
set_option maxHeartbeats 1600000 in
theorem objectMembers_any (f : Nat → Int) (b off len cap : Nat) (hlen : len ≤ 1048576) (w : World) (hl : Lies w b off len f) :
    Calls Try.prog 8 #[.slice (some ⟨b, off, none⟩) len cap] w fun e w' => (e = .returned (.tuple #[.int .i64 0, .bool false]) ∨ ∃ n : Nat, e = .returned (.tuple #[.int .i64 n, .bool true]) ∧ (Plain.pre f len).n = n) ∧ ∃ m, w' = w.drewN m := by
  have HQ0 : Hid (Plain.Q f 0 0 0) := rfl
  go_enter Try.func8, Try.ntmps8
  go_upto_region 2 with (go_at_call 19; refine (skipSpace_at f b off len cap hlen 0 (by omega) w hl).mono ?_; rintro e w' ⟨⟨i, rfl, hi1, hi2, hi3⟩, rfl⟩)
  have HQi : Hid (Plain.Q f i 0 0) := HQ0.out.dullTo hi1 hi3
  clear HQ0 hi3
  by_cases hlt : i < len
  · have hc := hl i hlt
    by_cases h123 : f i = 123
    · have H123 : Hid (f i = 123) := h123
      go_wp2_with fail
      clear hc h123
      refine (scanObject_any f b off len cap hlen i hlt H123.out _ hl).mono ?_
      rintro e w' ⟨hE, o, rfl⟩
      rcases hE with ⟨x, m, rfl⟩ | ⟨x, m, rfl, hx1, hx2, hx3⟩
      · go_wp2
        go_ret2
        exact ⟨.inl rfl, _, rfl⟩
      · have HQx : Hid (Plain.Q f x (0 + (m : Int)) 0) := hx3 0 0 (by omega) HQi.out
        clear hx3 HQi
        go_wp2_with fail
        refine (skipSpace_at f b off len cap hlen x (by omega) _ (hl.drewN _)).mono ?_
        rintro e w' ⟨⟨y, rfl, hy1, hy2, hy3⟩, rfl⟩
        have HQy : Hid (Plain.Q f y (0 + (m : Int)) 0) := HQx.out.dullTo hy1 hy3
        clear hy3 HQx
        by_cases hyl : y = len
        · subst hyl
          have HF : Hid ((Plain.pre f y).n = m) := by
            have := HQy.out
            unfold Plain.Q at this
            rw [this]
            exact Int.zero_add _
          clear HQy hy2
          go_wp2
          go_ret2
          exact ⟨.inr ⟨m, rfl, HF.out⟩, _, rfl⟩
        · have hyl' : ((y : Int) != (len : Int)) = true := by simp; omega
          go_wp2
          go_ret2
          exact ⟨.inl rfl, _, rfl⟩
    · have h123' : (f i != 123) = true := by simpa using h123
      go_wp2
      go_ret2
      exact ⟨.inl rfl, 0, rfl⟩
  · go_wp2
    go_ret2
    exact ⟨.inl rfl, 0, rfl⟩

theorem skipSpace_empty (a : Option Addr) (cap : Nat) (w : World) :
    Calls Try.prog 19 #[.slice a 0 cap, .int .i64 0] w fun e w' => e = .returned (.int .i64 0) ∧ w = w' := by
  go_enter Try.func19, Try.ntmps19
  go_wp2
  go_loop [1] (fun t => t = .int .i64 0) (fun _ => 0)
  case atStart => rfl
  case round =>
    subst hrel
    go_wp2
    go_ret
    exact ⟨rfl, rfl⟩

theorem objectMembers_empty (a : Option Addr) (cap : Nat) (w : World) :
    Calls Try.prog 8 #[.slice a 0 cap] w fun e w' => e = .returned (.tuple #[.int .i64 0, .bool false]) ∧ w = w' := by
  go_enter Try.func8, Try.ntmps8
  go_wp2_with (go_at_call 19; refine (skipSpace_empty a cap w).mono ?_; rintro e w' ⟨rfl, rfl⟩)
  go_ret2
  exact ⟨rfl, rfl⟩

theorem bytes_any (a : Option Addr) (len cap : Nat) (hm : len ≤ 9223372036854775807) (w : World) :
    Calls Try.prog 7 #[.slice a len cap] w fun e w' => e = .returned (.bool (decide (len ≤ 1048576))) ∧ w = w' := by
  by_cases h : len ≤ 1048576
  · rw [decide_eq_true h]
    go_enter Try.func7, Try.ntmps7
    go_wp2
    go_ret
    exact ⟨rfl, rfl⟩
  · rw [decide_eq_false h]
    go_enter Try.func7, Try.ntmps7
    go_wp2
    go_ret
    exact ⟨rfl, rfl⟩

theorem zzMemberCount_any (f : Nat → Int) (b off len cap : Nat) (hlen : len ≤ 1048576) (w : World) (hl : Lies w b off len f) :
    Calls Try.prog 10 #[.slice (some ⟨b, off, none⟩) len cap] w fun e w' => e = .returned (.int .i64 (Plain.pre f len).n) ∧ w = w' := by
  go_enter Try.func10, Try.ntmps10
  go_wp2_with fail
  refine (memberCount_any f b off len cap hlen w hl).mono ?_
  rintro e w' ⟨rfl, hw⟩
  obtain rfl := hw.symm
  go_wp2
  go_ret
  exact ⟨rfl, rfl⟩

/-- The law, on a text that is too long. -/
theorem law_long (a : Option Addr) (len cap : Nat) (hm : len ≤ 9223372036854775807) (h : ¬ len ≤ 1048576) (w : World) :
    Calls Try.prog 3 #[.slice a len cap] w fun e w' => e = .returned (.bool true) ∧ Below w.heap.size w w' := by
  have hd : decide (len ≤ 1048576) = false := decide_eq_false h
  go_enter Try.func3, Try.ntmps3
  go_wp2_with (go_at_call 7; refine (bytes_any a len cap hm w).mono ?_; rintro e w' ⟨rfl, rfl⟩)
  go_ret
  exact ⟨rfl, Below.refl _ _⟩

/-- The law, on an empty text. -/
theorem law_empty (a : Option Addr) (cap : Nat) (w : World) :
    Calls Try.prog 3 #[.slice a 0 cap] w fun e w' => e = .returned (.bool true) ∧ Below w.heap.size w w' := by
  go_enter Try.func3, Try.ntmps3
  go_wp2_with (first | (go_at_call 7; refine (bytes_any a 0 cap (by omega) w).mono ?_; rintro e w' ⟨rfl, rfl⟩) | (go_at_call 8; refine (objectMembers_empty a cap w).mono ?_; rintro e w' ⟨rfl, rfl⟩))
  go_ret
  exact ⟨rfl, Below.refl _ _⟩

theorem below_drawn {B : Nat} {a w : World} (h : Below B a w) (n : Nat) : Below B a (w.drewN n) := h.trans ⟨rfl, rfl, rfl, Nat.le_refl _, fun _ _ => rfl⟩

set_option maxRecDepth 100000 in
set_option maxHeartbeats 1600000 in
theorem law_text (f : Nat → Int) (b off len cap : Nat) (h0 : 0 < len) (hlen : len ≤ 1048576) (w : World) (hl : Lies w b off len f) :
    Calls Try.prog 3 #[.slice (some ⟨b, off, none⟩) len cap] w fun e w' => e = .returned (.bool true) ∧ Below w.heap.size w w' := by
  have hd : decide (len ≤ 1048576) = true := decide_eq_true hlen
  go_enter Try.func3, Try.ntmps3
  go_wp2_with fail
  refine (bytes_any _ len cap (by omega) w).mono ?_
  rintro e w' ⟨rfl, rfl⟩
  go_wp2_with fail
  refine (objectMembers_any f b off len cap hlen w hl).mono ?_
  rintro e w' ⟨hE, m, rfl⟩
  rcases hE with rfl | ⟨n, rfl, hn⟩
  · go_wp2
    go_ret
    exact ⟨rfl, below_drawn (Below.refl _ _) _⟩
  · have HN : Hid ((Plain.pre f len).n = n) := hn
    clear hn
    go_wp2_with fail
    refine (clone_any f b off len cap h0 hlen _ (hl.drewN m)).mono ?_
    rintro e w1 ⟨⟨g, rfl, hL⟩, hB⟩
    go_wp2_with fail
    refine (zzMemberCount_any f g 0 len len hlen w1 hL).mono ?_
    rintro e w2 ⟨rfl, rfl⟩
    rw [HN.out]
    go_wp2
    go_ret
    exact ⟨rfl, (below_drawn (Below.refl _ _) m).trans hB⟩

end Go.Proofs.Qxb6603802a
