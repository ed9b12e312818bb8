/-
  bytes.Equal (12), bytes.HasSuffix (11), bytes.CutSuffix (10) at a suffix of one byte; parseLength (9).
-/
import Derived.Test.Qxb6604491aProg
import Derived.Test.Qxb6604491aPlain
import Derived.WalkKit
import Derived.WalkSpells
import Derived.Outline
import Derived.Deep.QuietTactic
import Derived.BigQuiet
import Derived.Deep.DeepCutAuto
import Derived.Laws.BytesArg
import Derived.Lib.Bytes
namespace Go.Proofs.Qxb6604491a
open Go.RowKit

/-- The bytes of a text lie in a world: f k in the k-th cell, each a byte. -/
structure Lies (w : World) (b off len : Nat) (f : Nat → Int) : Prop where
  cell : ∀ k, k < len → w.cell? ⟨b, off + k, none⟩ = some (.int .u8 (f k))
  byte : ∀ k, k < len → 0 ≤ f k ∧ f k ≤ 255

theorem ret_bool {a b : Bool} (h : a = b) : Ending.returned (.bool a) = .returned (.bool b) := by rw [h]

theorem one_byte (x y : Int) (hx : 0 ≤ x ∧ x ≤ 255) (hy : 0 ≤ y ∧ y ≤ 255) : (Lib.bytesOf [x] == Lib.bytesOf [y]) = (x == y) := by
  by_cases e : x = y
  · subst e; simp
  · have e2 : (x == y) = false := by simpa using e
    rw [e2]
    simp only [Lib.bytesOf, List.map_cons, List.map_nil, beq_eq_false_iff_ne, ne_eq, List.cons.injEq, and_true]
    intro h
    have := congrArg UInt8.toNat h
    simp only [UInt8.toNat_ofNat'] at this
    omega

set_option maxHeartbeats 400000 in
theorem equal_one (b off c b2 off2 c2 : Nat) (x y : Int) (hx : 0 ≤ x ∧ x ≤ 255) (hy : 0 ≤ y ∧ y ≤ 255) (w : World) (h1 : w.cell? ⟨b, off, none⟩ = some (.int .u8 x)) (h2 : w.cell? ⟨b2, off2, none⟩ = some (.int .u8 y)) :
    Calls Try.prog 12 #[.slice (some ⟨b, off, none⟩) 1 c, .slice (some ⟨b2, off2, none⟩) 1 c2] w fun e w' => e = .returned (.bool (x == y)) ∧ w = w' := by
  have g1 : ∀ i, i < 1 → w.cell? ⟨b, off + i, none⟩ = some (.int .u8 (([x] : List Int).getD i 0)) := by
    intro i hi
    obtain rfl : i = 0 := by omega
    simpa using h1
  have g2 : ∀ i, i < 1 → w.cell? ⟨b2, off2 + i, none⟩ = some (.int .u8 (([y] : List Int).getD i 0)) := by
    intro i hi
    obtain rfl : i = 0 := by omega
    simpa using h2
  have q1 := run_convert_bytes_arg (P := Try.prog) w 22 5 Try.underlying22 Try.underlying5 b off 1 c [x] rfl g1 9 Try.underlying9
  have q2 := run_convert_bytes_arg (P := Try.prog) w 22 5 Try.underlying22 Try.underlying5 b2 off2 1 c2 [y] rfl g2 9 Try.underlying9
  clear g1 g2
  have he := one_byte x y hx hy
  rw [← Lib.strOfNums_toList, ← Lib.strOfNums_toList] at he
  have HE : Hid (((strOfNums [x]).toList == (strOfNums [y]).toList) = (x == y)) := he
  clear he
  go_enter Try.func12, Try.ntmps12
  go_wp2
  go_ret
  exact ⟨ret_bool HE.out, rfl⟩

set_option maxHeartbeats 400000 in
theorem hasSuffix_one (f : Nat → Int) (b off len cap sb : Nat) (h0 : 0 < len) (hlen : len ≤ 1048576) (hcap : len ≤ cap) (w : World) (hl : Lies w b off len f) (hs : w.cell? ⟨sb, 0, none⟩ = some (.int .u8 13)) :
    Calls Try.prog 11 #[.slice (some ⟨b, off, none⟩) len cap, .slice (some ⟨sb, 0, none⟩) 1 1] w fun e w' => e = .returned (.bool (f (len - 1) == 13)) ∧ w = w' := by
  obtain ⟨n, rfl⟩ : ∃ n, len = n + 1 := ⟨len - 1, by omega⟩
  have hc := hl.cell n (by omega)
  have hb := hl.byte n (by omega)
  rw [Nat.add_sub_cancel]
  go_enter Try.func11, Try.ntmps11
  go_wp2_with fail
  refine (equal_one b (off + n) (cap - n) sb 0 1 (f n) 13 hb (by omega) w hc hs).mono ?_
  rintro e w' ⟨rfl, rfl⟩
  go_wp2
  go_ret
  exact ⟨rfl, rfl⟩

theorem hasSuffix_empty (a : Option Addr) (cap sb : Nat) (w : World) :
    Calls Try.prog 11 #[.slice a 0 cap, .slice (some ⟨sb, 0, none⟩) 1 1] w fun e w' => e = .returned (.bool false) ∧ w = w' := by
  go_enter Try.func11, Try.ntmps11
  go_wp2
  go_ret
  exact ⟨rfl, rfl⟩

theorem cutSuffix_empty (a : Option Addr) (cap sb : Nat) (w : World) :
    Calls Try.prog 10 #[.slice a 0 cap, .slice (some ⟨sb, 0, none⟩) 1 1] w fun e w' => e = .returned (.tuple #[.slice a 0 cap, .bool false]) ∧ w = w' := by
  go_enter Try.func10, Try.ntmps10
  go_wp2_with fail
  refine (hasSuffix_empty a cap sb w).mono ?_
  rintro e w' ⟨rfl, rfl⟩
  go_wp2
  go_ret2
  exact ⟨rfl, rfl⟩

set_option maxHeartbeats 400000 in
theorem cutSuffix_yes (f : Nat → Int) (b off n cap sb : Nat) (hlen : n + 1 ≤ 1048576) (hcap : n + 1 ≤ cap) (w : World) (hl : Lies w b off (n + 1) f) (hs : w.cell? ⟨sb, 0, none⟩ = some (.int .u8 13)) (h13 : f n = 13) :
    Calls Try.prog 10 #[.slice (some ⟨b, off, none⟩) ((n + 1 : Nat)) cap, .slice (some ⟨sb, 0, none⟩) 1 1] w fun e w' => e = .returned (.tuple #[.slice (some ⟨b, off, none⟩) n cap, .bool true]) ∧ w = w' := by
  have e1 : (f (n + 1 - 1) == 13) = true := by simp [h13]
  go_enter Try.func10, Try.ntmps10
  go_wp2_with fail
  refine (hasSuffix_one f b off (n + 1) cap sb (by omega) hlen hcap w hl hs).mono ?_
  rintro e w' ⟨rfl, rfl⟩
  rw [e1]
  clear e1 hl hs h13
  go_wp2
  go_ret2
  exact ⟨rfl, rfl⟩

set_option maxHeartbeats 400000 in
theorem cutSuffix_no (f : Nat → Int) (b off n cap sb : Nat) (hlen : n + 1 ≤ 1048576) (hcap : n + 1 ≤ cap) (w : World) (hl : Lies w b off (n + 1) f) (hs : w.cell? ⟨sb, 0, none⟩ = some (.int .u8 13)) (h13 : f n ≠ 13) :
    Calls Try.prog 10 #[.slice (some ⟨b, off, none⟩) ((n + 1 : Nat)) cap, .slice (some ⟨sb, 0, none⟩) 1 1] w fun e w' => e = .returned (.tuple #[.slice (some ⟨b, off, none⟩) (n + 1) cap, .bool false]) ∧ w = w' := by
  have e1 : (f (n + 1 - 1) == 13) = false := by simp [h13]
  go_enter Try.func10, Try.ntmps10
  go_wp2_with fail
  refine (hasSuffix_one f b off (n + 1) cap sb (by omega) hlen hcap w hl hs).mono ?_
  rintro e w' ⟨rfl, rfl⟩
  rw [e1]
  clear e1 hl hs h13
  go_wp2
  go_ret2
  exact ⟨rfl, rfl⟩

end Go.Proofs.Qxb6604491a
