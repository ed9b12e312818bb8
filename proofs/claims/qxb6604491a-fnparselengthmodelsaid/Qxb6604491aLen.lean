/-
  parseLength (9), ZZparseLength (6).
-/
import Derived.Test.Qxb6604491aParse
namespace Go.Proofs.Qxb6604491a
open Go.RowKit Plain

theorem Lies.later {w w' : World} {b off len : Nat} {f : Nat → Int} (h : Lies w b off len f) (hB : Below w.heap.size w w') : Lies w' b off len f :=
  ⟨fun k hk => (hB.cell (p := ⟨b, off + k, none⟩) (World.block_lt_of_cell? _ _ (h.cell k hk))).trans (h.cell k hk), h.byte⟩

theorem Lies.short {w : World} {b off len m : Nat} {f : Nat → Int} (h : Lies w b off len f) (hm : m ≤ len) : Lies w b off m f :=
  ⟨fun k hk => h.cell k (by omega), fun k hk => h.byte k (by omega)⟩

/-- What both readers answer. -/
def Res (f : Nat → Int) (len : Nat) (L : Int) (e : Ending) : Prop :=
  (Plain.Good f len L ∧ e = .returned (.tuple #[.int .i64 (V f 0 (len - 1)), .bool true])) ∨ (¬ Plain.Good f len L ∧ e = .returned (.tuple #[.int .i64 0, .bool false]))

theorem Res.yes {f : Nat → Int} {n : Nat} {L : Int} {e : Ending} (h1 : 1 ≤ n) (h2 : f n = 13) (h3 : Dig f 0 n) (h4 : V f 0 n ≤ L) (he : e = .returned (.tuple #[.int .i64 (V f 0 n), .bool true])) : Res f (n + 1) L e :=
  .inl ⟨⟨by omega, h2, h3, h4⟩, he⟩
theorem Res.no {f : Nat → Int} {n : Nat} {L : Int} {e : Ending} (h : 1 ≤ n → f n = 13 → Dig f 0 n → V f 0 n ≤ L → False) (he : e = .returned (.tuple #[.int .i64 0, .bool false])) : Res f (n + 1) L e :=
  .inr ⟨fun ⟨g1, g2, g3, g4⟩ => h (by omega) g2 g3 g4, he⟩

theorem new_one (w : World) : (w.alloc (.cells #[.int .u8 13] 5)).cell? ⟨w.heap.size, 0, none⟩ = some (.int .u8 13) := by simp

set_option maxRecDepth 100000 in
set_option maxHeartbeats 1600000 in
theorem parse_any (f : Nat → Int) (b off n cap : Nat) (hlen : n + 1 ≤ 1048576) (hcap : n + 1 ≤ cap) (L : Int) (hL : L ≤ 214748363) (w : World) (hl : Lies w b off (n + 1) f) :
    Calls Try.prog 9 #[.slice (some ⟨b, off, none⟩) ((n + 1 : Nat)) cap, .int .i64 L] w fun e w' => Res f (n + 1) L e ∧ Below w.heap.size w w' := by
  have hB : Below w.heap.size w (w.alloc (.cells #[.int .u8 13] 5)) := (Below.refl _ _).alloc (Nat.le_refl _) _
  have hl2 := hl.later hB
  have hs := new_one w
  by_cases h13 : f n = 13
  · go_enter Try.func9, Try.ntmps9
    go_wp2_with fail
    refine (cutSuffix_yes f b off n cap w.heap.size hlen hcap _ hl2 hs h13).mono ?_
    rintro e w' ⟨rfl, rfl⟩
    have HB : Hid (Below w.heap.size w (w.alloc (.cells #[.int .u8 13] 5))) := hB
    have H13 : Hid (f n = 13) := h13
    clear hs hl h13 hB
    by_cases hn : n = 0
    · subst hn
      go_wp2
      go_ret2
      exact ⟨Res.no (fun h => by omega) rfl, HB.out⟩
    · have hn' : ((n : Int) == 0) = false := by simp; omega
      generalize (w.alloc (.cells #[.int .u8 13] 5)) = w2 at *
      go_wp2
      go_loop [8, 26] (fun t c => ∃ (k : Nat) (v : Int), c = .int .i64 k ∧ t = .int .i64 v ∧ k ≤ n ∧ 0 ≤ v ∧ v ≤ 214748363 ∧ Hid (v = V f 0 k) ∧ Hid (Dig f 0 k) ∧ Hid (k = 0 ∨ v ≤ L)) (fun _ c => n - (intOf c).toNat)
      case atStart => exact ⟨0, 0, rfl, rfl, Nat.zero_le _, by omega, by omega, rfl, fun j h1 h2 => by omega, .inl rfl⟩
      case round =>
        obtain ⟨k, v, rfl, rfl, hk, hv0, hv1, HV, HD, HK⟩ := hrel
        by_cases hlt : k < n
        · have hc := hl2.cell k (by omega)
          have hb := hl2.byte k (by omega)
          clear hl2
          by_cases h48 : f k < 48
          · go_wp2
            go_ret2
            exact ⟨Res.no (fun _ _ h _ => by have := h k (by omega) hlt; omega) rfl, HB.out⟩
          · have h48 : 48 ≤ f k := by omega
            have g48 : decide (f k < 48) = false := by simp; omega
            by_cases h57 : f k ≤ 57
            · have g57 : decide (57 < f k) = false := by simp; omega
              have HV2 : Hid (v * 10 + (f k - 48) = V f 0 (k + 1)) := by
                show _ = V f 0 k * 10 + (f (0 + k) - 48)
                rw [HV.out, Nat.zero_add]
              have HD2 : Hid (Dig f 0 (k + 1)) := fun j h1 h2 => by
                by_cases e : j = k
                · rw [e]; exact ⟨h48, h57⟩
                · exact HD.out j h1 (by omega)
              by_cases hle : v * 10 + (f k - 48) ≤ L
              · go_wp2
                go_round
                case rel => exact ⟨k + 1, _, by go_num, rfl, by omega, by omega, by omega, HV2, HD2, .inr hle⟩
                case measure => simp [intOf]; omega
              · go_wp2
                go_ret2
                exact ⟨Res.no (fun _ _ h h' => by have := V_grows (show k + 1 ≤ n by omega) h; have := HV2.out; omega) rfl, HB.out⟩
            · have g57 : 57 < f k := by omega
              go_wp2
              go_ret2
              exact ⟨Res.no (fun _ _ h _ => by have := h k (by omega) hlt; omega) rfl, HB.out⟩
        · have hkk : k = n := by omega
          subst hkk
          go_wp2
          go_ret2
          have hV := HV.out
          subst hV
          exact ⟨Res.yes (by omega) H13.out HD.out (by have := HK.out; omega) rfl, HB.out⟩
  · go_enter Try.func9, Try.ntmps9
    go_wp2_with fail
    refine (cutSuffix_no f b off n cap w.heap.size hlen hcap _ hl2 hs h13).mono ?_
    rintro e w' ⟨rfl, rfl⟩
    have HB : Hid (Below w.heap.size w (w.alloc (.cells #[.int .u8 13] 5))) := hB
    have H13 : Hid (f n ≠ 13) := h13
    clear hs hl hl2 h13 hB
    go_wp2
    go_ret2
    exact ⟨Res.no (fun _ h => absurd h H13.out) rfl, HB.out⟩

/-- On an empty text. -/
theorem parse_empty (a : Option Addr) (cap : Nat) (L : Int) (w : World) :
    Calls Try.prog 9 #[.slice a 0 cap, .int .i64 L] w fun e w' => e = .returned (.tuple #[.int .i64 0, .bool false]) ∧ Below w.heap.size w w' := by
  have hB : Below w.heap.size w (w.alloc (.cells #[.int .u8 13] 5)) := (Below.refl _ _).alloc (Nat.le_refl _) _
  go_enter Try.func9, Try.ntmps9
  go_wp2_with fail
  refine (cutSuffix_empty a cap w.heap.size _).mono ?_
  rintro e w' ⟨rfl, rfl⟩
  have HB : Hid (Below w.heap.size w (w.alloc (.cells #[.int .u8 13] 5))) := hB
  clear hB
  go_wp2
  go_ret2
  exact ⟨rfl, HB.out⟩

theorem zzParse_any (f : Nat → Int) (b off n cap : Nat) (hlen : n + 1 ≤ 1048576) (hcap : n + 1 ≤ cap) (L : Int) (hL : L ≤ 214748363) (w : World) (hl : Lies w b off (n + 1) f) :
    Calls Try.prog 6 #[.slice (some ⟨b, off, none⟩) ((n + 1 : Nat)) cap, .int .i64 L] w fun e w' => Res f (n + 1) L e ∧ Below w.heap.size w w' := by
  go_enter Try.func6, Try.ntmps6
  go_wp2_with fail
  refine (parse_any f b off n cap hlen hcap L hL w hl).mono ?_
  rintro e w' ⟨hR, hB⟩
  rcases hR with ⟨hG, rfl⟩ | ⟨hG, rfl⟩
  · go_wp2
    go_ret2
    exact ⟨.inl ⟨hG, rfl⟩, hB⟩
  · go_wp2
    go_ret2
    exact ⟨.inr ⟨hG, rfl⟩, hB⟩

theorem zzParse_empty (a : Option Addr) (cap : Nat) (L : Int) (w : World) :
    Calls Try.prog 6 #[.slice a 0 cap, .int .i64 L] w fun e w' => e = .returned (.tuple #[.int .i64 0, .bool false]) ∧ Below w.heap.size w w' := by
  go_enter Try.func6, Try.ntmps6
  go_wp2_with fail
  refine (parse_empty a cap L w).mono ?_
  rintro e w' ⟨rfl, hB⟩
  go_wp2
  go_ret2
  exact ⟨rfl, hB⟩

end Go.Proofs.Qxb6604491a
