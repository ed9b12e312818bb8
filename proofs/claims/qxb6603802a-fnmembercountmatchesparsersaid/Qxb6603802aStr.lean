/-
  zzScanString (25).
-/
import Derived.Test.Qxb6603802aLeaf
namespace Go.Proofs.Qxb6603802a
open Go.RowKit

/-- How a scanner ends: 'no', at whatever place; or 'yes', at a place j from i on within the text, of which R holds. -/
def Ends (e : Ending) (len i : Nat) (R : Nat → Prop) : Prop :=
  (∃ j : Int, e = .returned (.tuple #[.int .i64 j, .bool false])) ∨ ∃ j : Nat, e = .returned (.tuple #[.int .i64 j, .bool true]) ∧ i ≤ j ∧ j ≤ len ∧ R j

theorem Ends.no {len i : Nat} {R : Nat → Prop} {e : Ending} (j : Int) (h : e = .returned (.tuple #[.int .i64 j, .bool false])) : Ends e len i R := .inl ⟨j, h⟩
theorem Ends.yes {len i : Nat} {R : Nat → Prop} {e : Ending} (j : Nat) (h : e = .returned (.tuple #[.int .i64 j, .bool true])) (h1 : i ≤ j) (h2 : j ≤ len) (h3 : R j) : Ends e len i R := .inr ⟨j, h, h1, h2, h3⟩

/-- Nothing is counted from i to j, whatever the depth. -/
def Flat (f : Nat → Int) (i j : Nat) : Prop := ∀ n d, Plain.Q f i n d → Plain.Q f j n d

theorem esc_ways (c : Int) : c = 34 ∨ c = 92 ∨ c = 47 ∨ c = 98 ∨ c = 102 ∨ c = 110 ∨ c = 114 ∨ c = 116 ∨
    ((c == 34) = false ∧ (c == 92) = false ∧ (c == 47) = false ∧ (c == 98) = false ∧ (c == 102) = false ∧ (c == 110) = false ∧ (c == 114) = false ∧ (c == 116) = false) := by
  simp only [beq_eq_false_iff_ne]
  omega

theorem hex_plain {c : Int} (h : isHx c = true) : c ≠ 34 ∧ c ≠ 92 := by
  simp [isHx, isDg] at h
  omega

set_option maxRecDepth 100000 in
set_option maxHeartbeats 1600000 in
theorem scanString_any (f : Nat → Int) (b off len cap : Nat) (hlen : len ≤ 1048576) (i : Nat) (hi : i ≤ 1048576) (w : World) (hl : Lies w b off len f) :
    Calls Try.prog 25 #[.slice (some ⟨b, off, none⟩) len cap, .int .i64 i] w fun e w' => Ends e len i (Flat f i) ∧ w' = w := by
  by_cases hlt0 : i < len
  · have hc0 := hl i hlt0
    have hd0 : ¬ len ≤ i := by omega
    by_cases hq0 : f i = 34
    · have HQ0 : Hid (f i = 34) := hq0
      go_enter Try.func25, Try.ntmps25
      go_wp2
      clear hc0 hq0
      go_loop [1] (fun t => ∃ j : Nat, t = .int .i64 j ∧ i < j ∧ j ≤ len ∧ ∀ n d, Plain.Q f i n d → Plain.S f j n d) (fun t => len - (intOf t).toNat)
      case atStart => exact ⟨i + 1, by go_num, by omega, by omega, fun n d h => h.quote HQ0.out⟩
      case round =>
        obtain ⟨j, rfl, hij, hj, hS⟩ := hrel
        have HS : Hid (∀ n d, Plain.Q f i n d → Plain.S f j n d) := hS
        clear hS
        by_cases hlt : j < len
        · have hc := hl j hlt
          by_cases h34 : f j = 34
          · have H34 : Hid (f j = 34) := h34
            clear hl
            go_wp2
            go_ret2
            exact ⟨Ends.yes (j + 1) (by go_num) (by omega) (by omega) (fun n d h => (HS.out n d h).quote H34.out), rfl⟩
          by_cases h32 : f j < 32
          · have h34 : (f j == 34) = false := by simpa using h34
            clear hl
            go_wp2
            go_ret2
            exact ⟨Ends.no j rfl, rfl⟩
          by_cases h92 : f j = 92
          · have H92 : Hid (f j = 92) := h92
            by_cases hlt2 : j + 1 < len
            · have hc2 := hl (j + 1) hlt2
              rcases esc_ways (f (j + 1)) with h | h | h | h | h | h | h | h | ⟨e1, e2, e3, e4, e5, e6, e7, e8⟩
              iterate 8
                · go_wp2
                  go_round
                  case rel => exact ⟨j + 2, by go_num, by omega, by omega, fun n d h => (HS.out n d h).escape H92.out⟩
                  case measure => simp [intOf]; omega
              by_cases h117 : f (j + 1) = 117
              · by_cases hlt5 : j + 5 < len
                · go_wp2
                  clear hc hc2
                  go_loop [8] (fun t => ∃ k : Nat, t = .int .i64 k ∧ j + 2 ≤ k ∧ k ≤ j + 6 ∧ ∀ m, j + 2 ≤ m → m < k → isHx (f m) = true) (fun t => j + 6 - (intOf t).toNat)
                  case atStart => exact ⟨j + 2, by go_num, by omega, by omega, fun m h1 h2 => by omega⟩
                  case round =>
                    obtain ⟨k, rfl, hk1, hk2, hX⟩ := hrel
                    have HX : Hid (∀ m, j + 2 ≤ m → m < k → isHx (f m) = true) := hX
                    clear hX
                    by_cases hlek : k ≤ j + 5
                    · have hck := hl k (by omega)
                      by_cases hx : isHx (f k) = true
                      · go_wp2_with (go_at_call 30; refine (isHex_any _ _).mono ?_; rintro e w' ⟨rfl, rfl⟩)
                        go_round
                        case rel =>
                          refine ⟨k + 1, by go_num, by omega, by omega, fun m h1 h2 => ?_⟩
                          by_cases hm : m = k
                          · rw [hm]; exact hx
                          · exact HX.out m h1 (by omega)
                        case measure => simp [intOf]; omega
                      · have hx : isHx (f k) = false := by simpa using hx
                        go_wp2_with (go_at_call 30; refine (isHex_any _ _).mono ?_; rintro e w' ⟨rfl, rfl⟩)
                        go_ret2
                        exact ⟨Ends.no j rfl, rfl⟩
                    · go_wp2
                      go_round
                      case rel =>
                        exact ⟨j + 6, by go_num, by omega, by omega, fun n d h => (HS.out n d h).hex H92.out fun m h1 h2 => hex_plain (HX.out m h1 (by omega))⟩
                      case measure => simp [intOf]; omega
                · go_wp2
                  go_ret2
                  exact ⟨Ends.no j rfl, rfl⟩
              · have h117 : (f (j + 1) != 117) = true := by simpa using h117
                go_wp2
                go_ret2
                exact ⟨Ends.no j rfl, rfl⟩
            · clear hl
              go_wp2
              go_ret2
              exact ⟨Ends.no j rfl, rfl⟩
          · have h34 : (f j == 34) = false := by simpa using h34
            have h92' : (f j != 92) = true := by simpa using h92
            clear hl
            go_wp2
            go_round
            case rel => exact ⟨j + 1, by go_num, by omega, by omega, fun n d h => (HS.out n d h).plain (by simpa using h34) h92⟩
            case measure => simp [intOf]; omega
        · go_wp2
          go_ret2
          exact ⟨Ends.no j rfl, rfl⟩
    · have hq0 : (f i != 34) = true := by simpa using hq0
      go_enter Try.func25, Try.ntmps25
      go_wp2
      go_ret2
      exact ⟨Ends.no i rfl, rfl⟩
  · go_enter Try.func25, Try.ntmps25
    go_wp2
    go_ret2
    exact ⟨Ends.no i rfl, rfl⟩

end Go.Proofs.Qxb6603802a
