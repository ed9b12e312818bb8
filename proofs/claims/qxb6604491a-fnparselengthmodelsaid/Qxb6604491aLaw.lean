/-
  THE LAW (3).
-/
import Derived.Test.Qxb6604491aModel
namespace Go.Proofs.Qxb6604491a
open Go.RowKit Plain

theorem model_empty (a : Option Addr) (cap : Nat) (L : Int) (w : World) :
    Calls Try.prog 7 #[.slice a 0 cap, .int .i64 L] w fun e w' => e = .returned (.tuple #[.int .i64 0, .bool false]) ∧ w = w' := by
  go_enter Try.func7, Try.ntmps7
  go_wp2
  go_ret2
  exact ⟨rfl, rfl⟩

theorem bytes_any (a : Option Addr) (len cap : Nat) (L : Int) (hm : len ≤ 9223372036854775807) (w : World) :
    Calls Try.prog 5 #[.slice a len cap, .int .i64 L] w fun e w' => e = .returned (.bool (decide (len ≤ 1048576))) ∧ w = w' := by
  by_cases h : len ≤ 1048576
  · rw [decide_eq_true h]
    go_enter Try.func5, Try.ntmps5
    go_wp2
    go_ret
    exact ⟨rfl, rfl⟩
  · rw [decide_eq_false h]
    go_enter Try.func5, Try.ntmps5
    go_wp2
    go_ret
    exact ⟨rfl, rfl⟩

theorem bytes_yes (a : Option Addr) (len cap : Nat) (L : Int) (h : len ≤ 1048576) (w : World) :
    Calls Try.prog 5 #[.slice a len cap, .int .i64 L] w fun e w' => e = .returned (.bool true) ∧ w = w' :=
  (bytes_any a len cap L (by omega) w).mono fun e w' ⟨he, hw⟩ => ⟨by rw [he, decide_eq_true h], hw⟩

theorem law_long (a : Option Addr) (len cap : Nat) (L : Int) (hm : len ≤ 9223372036854775807) (h : ¬ len ≤ 1048576) (w : World) :
    Calls Try.prog 3 #[.slice a len cap, .int .i64 L] w fun e w' => e = .returned (.bool true) ∧ Below w.heap.size w w' := by
  have hd : decide (len ≤ 1048576) = false := decide_eq_false h
  go_enter Try.func3, Try.ntmps3
  go_wp2_with (go_at_call 5; refine (bytes_any a len cap L hm w).mono ?_; rintro e w' ⟨rfl, rfl⟩)
  go_ret
  exact ⟨rfl, Below.refl _ _⟩

theorem law_wide (a : Option Addr) (len cap : Nat) (L : Int) (h : len ≤ 1048576) (hL : ¬ L ≤ 214748363) (w : World) :
    Calls Try.prog 3 #[.slice a len cap, .int .i64 L] w fun e w' => e = .returned (.bool true) ∧ Below w.heap.size w w' := by
  have hd : decide (len ≤ 1048576) = true := decide_eq_true h
  have hL2 : 214748363 < L := by omega
  go_enter Try.func3, Try.ntmps3
  go_wp2_with (go_at_call 5; refine (bytes_any a len cap L (by omega) w).mono ?_; rintro e w' ⟨rfl, rfl⟩)
  go_ret
  exact ⟨rfl, Below.refl _ _⟩

theorem neq22 (w : World) (a : Option Addr) (n c : Nat) : (binOp .neq 22 (.slice a n c) (.slice none 0 0)).run Try.prog w = .ok (.bool (!a.isNone)) w :=
  run_neq_slice_nil_any w 22 5 a n c 0 0 Try.underlying22

set_option maxRecDepth 100000 in
set_option maxHeartbeats 800000 in
theorem law_nil (L : Int) (hL : L ≤ 214748363) (w : World) :
    Calls Try.prog 3 #[.slice none 0 0, .int .i64 L] w fun e w' => e = .returned (.bool true) ∧ Below w.heap.size w w' := by
  have hne := neq22
  have hL2 : ¬ 214748363 < L := by omega
  go_enter Try.func3, Try.ntmps3
  go_wp2_with fail
  refine (bytes_any _ 0 0 L (by omega) w).mono ?_
  rintro e w' ⟨rfl, rfl⟩
  go_wp2_with fail
  refine (zzParse_empty none 0 L w).mono ?_
  rintro e w1 ⟨rfl, hB1⟩
  go_wp2_with fail
  refine (model_empty none 0 L w1).mono ?_
  rintro e w' ⟨rfl, rfl⟩
  go_wp2
  go_ret
  exact ⟨rfl, hB1⟩

set_option maxRecDepth 100000 in
set_option maxHeartbeats 800000 in
theorem law_empty (x : Addr) (cap : Nat) (L : Int) (hL : L ≤ 214748363) (w : World) :
    Calls Try.prog 3 #[.slice (some x) 0 cap, .int .i64 L] w fun e w' => e = .returned (.bool true) ∧ Below w.heap.size w w' := by
  have hne := neq22
  have hL2 : ¬ 214748363 < L := by omega
  obtain ⟨i0, hi, hz0, hz1, hz2⟩ := info_parts Try.info5
  go_enter Try.func3, Try.ntmps3
  go_wp2_with fail
  refine (bytes_any _ 0 cap L (by omega) w).mono ?_
  rintro e w' ⟨rfl, rfl⟩
  go_wp2_with (at_make; refine wpList_make_full _ rfl _ _ 22 rfl w.heap.size 5 i0 (.int .u8 0) 1 Try.underlying22 hi hz0 hz1 .i64 .i64 _ _ 0 rfl rfl ?c0 ?c4 ?c1 ?c2 ?c3 ?_)
  case c0 => first | rfl | omega
  case c4 => first | rfl | omega
  case c1 => omega
  case c2 => unfold maxLen; omega
  case c3 => exact Nat.le_refl _
  intro w1 hown hgrow
  have HB1 : Hid (Below w.heap.size w w1) := (Below.refl _ _).grown hgrow (Nat.le_refl _) (fun k h => by cases h)
  clear hown hgrow hi hz0 hz1 hz2 i0
  go_upto_region 9 with (fail)
  go_wp2_with (refine wpList_copy_nothing rfl _ _ 22 22 rfl 5 Try.underlying22 Try.size5 _ _ _ _ _ _ rfl rfl ?d1 ?_)
  case d1 => rfl
  go_wp2_with fail
  refine (zzParse_empty (some ⟨w.heap.size, 0, none⟩) 0 L w1).mono ?_
  rintro e w2 ⟨rfl, hB2⟩
  go_wp2_with fail
  refine (model_empty (some ⟨w.heap.size, 0, none⟩) 0 L w2).mono ?_
  rintro e w' ⟨rfl, rfl⟩
  go_wp2
  go_ret
  exact ⟨rfl, HB1.out.trans (hB2.mono HB1.out.size)⟩

theorem zzParse_len (f : Nat → Int) (b off len cap : Nat) (h1 : 1 ≤ len) (hlen : len ≤ 1048576) (hcap : len ≤ cap) (L : Int) (hL : L ≤ 214748363) (w : World) (hl : Lies w b off len f) :
    Calls Try.prog 6 #[.slice (some ⟨b, off, none⟩) len cap, .int .i64 L] w fun e w' => Res f len L e ∧ Below w.heap.size w w' := by
  obtain ⟨n, rfl⟩ : ∃ n, len = n + 1 := ⟨len - 1, by omega⟩
  exact zzParse_any f b off n cap hlen hcap L hL w hl

theorem model_len (f : Nat → Int) (b off len cap : Nat) (h1 : 1 ≤ len) (hlen : len ≤ 1048576) (L : Int) (hL : L ≤ 214748363) (hL2 : -9223372036854775808 ≤ L) (w : World) (hl : Lies w b off len f) :
    Calls Try.prog 7 #[.slice (some ⟨b, off, none⟩) len cap, .int .i64 L] w fun e w' => Res f len L e ∧ Below w.heap.size w w' := by
  obtain ⟨n, rfl⟩ : ∃ n, len = n + 1 := ⟨len - 1, by omega⟩
  exact model_any f b off n cap hlen L hL hL2 w hl

set_option maxRecDepth 100000 in
set_option maxHeartbeats 1600000 in
theorem law_text (f : Nat → Int) (b off len cap : Nat) (h1 : 1 ≤ len) (hlen : len ≤ 1048576) (L : Int) (hL : L ≤ 214748363) (hL0 : -9223372036854775808 ≤ L) (w : World) (hl : Lies w b off len f) :
    Calls Try.prog 3 #[.slice (some ⟨b, off, none⟩) len cap, .int .i64 L] w fun e w' => e = .returned (.bool true) ∧ Below w.heap.size w w' := by
  have hne := neq22
  have hL2 : ¬ 214748363 < L := by omega
  obtain ⟨i0, hi, hz0, hz1, hz2⟩ := info_parts Try.info5
  go_enter Try.func3, Try.ntmps3
  go_wp2_with fail
  refine (bytes_yes _ len cap L hlen w).mono ?_
  rintro e w' ⟨rfl, rfl⟩
  go_wp2_with (at_make; refine wpList_make_full _ rfl _ _ 22 rfl w.heap.size 5 i0 (.int .u8 0) 1 Try.underlying22 hi hz0 hz1 .i64 .i64 _ _ len rfl rfl ?c0 ?c4 ?c1 ?c2 ?c3 ?_)
  case c0 => first | rfl | omega
  case c4 => first | rfl | omega
  case c1 => first | omega | (rw [hz2]; omega)
  case c2 => unfold maxLen; omega
  case c3 => exact Nat.le_refl _
  intro w1 hown hgrow
  obtain ⟨cur, hcur, hcl⟩ := own_block hown
  have HB1 : Hid (Below w.heap.size w w1) := (Below.refl _ _).grown hgrow (Nat.le_refl _) (fun k h => by cases h)
  have HC1 : Hid (w1.heap[w.heap.size]? = some (.cells cur.toArray 5 (0, 0))) := hcur
  have hl1 := hl.later HB1.out
  clear hown hgrow hcur hi hz0 hz1 hz2 i0
  go_upto_region 9 with (fail)
  go_wp2_with (refine wpList_copy_splice rfl _ _ 22 22 rfl 5 Try.underlying22 Try.size5 _ _ _ _ _ _ rfl rfl w.heap.size 0 cur 5 HC1.out (bytes f len) ?d1 ?d2 ?d3 (bytes_one _ _) w.heap.size w HB1.out (Nat.le_refl _) ?_)
  case d1 => rw [bytes_length]; simp
  case d2 => first | exact fun _ => bytes_src hl1.cell | exact fun _ => ⟨rfl, _, rfl, fun j v hj => by rw [Go.WideShapes.add_plain]; exact bytes_src hl1.cell j v hj⟩
  case d3 => rw [bytes_length, hcl]; omega
  intro w2 hg2 hB2
  have hLw : Lies w2 w.heap.size 0 len f := by
    have := hg2.out
    rw [splice_all _ _ (by rw [bytes_length, hcl])] at this
    exact lies_block this hl.byte
  clear hg2 HC1 HB1 hl1 hl
  go_wp2_with fail
  refine (zzParse_len f w.heap.size 0 len len h1 hlen (Nat.le_refl _) L hL w2 hLw).mono ?_
  rintro e w3 ⟨hR1, hB3⟩
  have hLw3 := hLw.later hB3
  clear hLw
  have HB3 : Hid (Below w.heap.size w w3) := hB2.trans (hB3.mono hB2.size)
  clear hB2 hB3
  rcases hR1 with ⟨hG, rfl⟩ | ⟨hG, rfl⟩
  · go_wp2_with fail
    refine (model_len f w.heap.size 0 len len h1 hlen L hL hL0 w3 hLw3).mono ?_
    rintro e w4 ⟨hR2, hB4⟩
    rcases hR2 with ⟨hG2, rfl⟩ | ⟨hG2, rfl⟩
    · go_wp2
      go_ret
      exact ⟨by simp, HB3.out.trans (hB4.mono HB3.out.size)⟩
    · exact absurd hG hG2
  · go_wp2_with fail
    refine (model_len f w.heap.size 0 len len h1 hlen L hL hL0 w3 hLw3).mono ?_
    rintro e w4 ⟨hR2, hB4⟩
    rcases hR2 with ⟨hG2, rfl⟩ | ⟨hG2, rfl⟩
    · exact absurd hG2 hG
    · go_wp2
      go_ret
      exact ⟨rfl, HB3.out.trans (hB4.mono HB3.out.size)⟩

end Go.Proofs.Qxb6604491a
