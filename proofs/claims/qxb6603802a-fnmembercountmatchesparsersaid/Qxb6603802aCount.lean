/-
  memberCount (21); zzCloneBytes (9).
-/
import Derived.Test.Qxb6603802aVal
import Derived.Deep.OwnRows
namespace Go.Proofs.Qxb6603802a
open Go.RowKit

theorem ret_int {k : IntKind} {a b : Int} (h : a = b) : Ending.returned (.int k a) = .returned (.int k b) := by rw [h]

set_option maxRecDepth 100000 in
set_option maxHeartbeats 3200000 in
theorem memberCount_any (f : Nat → Int) (b off len cap : Nat) (hlen : len ≤ 1048576) (w : World) (hl : Lies w b off len f) :
    Calls Try.prog 21 #[.slice (some ⟨b, off, none⟩) len cap] w fun e w' => e = .returned (.int .i64 (Plain.pre f len).n) ∧ w' = w := by
  go_enter Try.func21, Try.ntmps21
  go_wp2
  go_loop [3, 4, 5, 6, 11] (fun vn vd vs ve vk => ∃ (k : Nat) (n d : Int) (s e : Bool), vk = .int .i64 k ∧ vn = .int .i64 n ∧ vd = .int .i64 d ∧ vs = .bool s ∧ ve = .bool e ∧ k ≤ len ∧ Hid (Plain.pre f k = ⟨n, d, s, e⟩)) (fun _ _ _ _ vk => len - (intOf vk).toNat)
  case atStart => exact ⟨0, 0, 0, false, false, rfl, rfl, rfl, rfl, rfl, Nat.zero_le _, rfl⟩
  case round =>
    obtain ⟨k, n, d, s, e, rfl, rfl, rfl, rfl, rfl, hk, HP⟩ := hrel
    obtain ⟨b1, b2, b3, b4⟩ : 0 ≤ n ∧ n ≤ k ∧ -(k : Int) ≤ d ∧ d ≤ k := by
      have := Plain.pre_bound f k
      rw [HP.out] at this
      exact this
    by_cases hlt : k < len
    · have hc := hl k hlt
      have HS : Hid (Plain.pre f (k + 1) = Plain.step ⟨n, d, s, e⟩ (f k)) := by rw [← HP.out]; rfl
      clear HP
      cases e
      · cases s
        · by_cases h34 : f k = 34
          · have HN : Hid (Plain.pre f (k + 1) = ⟨n, d, true, false⟩) := by rw [HS.out, h34]; rfl
            clear HS
            go_wp2
            go_round
            case rel => exact ⟨k + 1, n, d, true, false, by go_num, rfl, rfl, rfl, rfl, by omega, HN⟩
            case measure => simp [intOf]; omega
          have b34 : (f k == 34) = false := by simpa using h34
          by_cases h123 : f k = 123
          · have HN : Hid (Plain.pre f (k + 1) = ⟨n, d + 1, false, false⟩) := by rw [HS.out, h123]; rfl
            clear HS h34 b34
            go_wp2
            go_round
            case rel => exact ⟨k + 1, n, d + 1, false, false, by go_num, rfl, rfl, rfl, rfl, by omega, HN⟩
            case measure => simp [intOf]; omega
          have b123 : (f k == 123) = false := by simpa using h123
          by_cases h125 : f k = 125
          · have HN : Hid (Plain.pre f (k + 1) = ⟨n, d - 1, false, false⟩) := by rw [HS.out, h125]; rfl
            clear HS h34 b34 h123 b123
            go_wp2
            go_round
            case rel => exact ⟨k + 1, n, d - 1, false, false, by go_num, rfl, rfl, rfl, rfl, by omega, HN⟩
            case measure => simp [intOf]; omega
          have b125 : (f k == 125) = false := by simpa using h125
          by_cases h58 : f k = 58
          · by_cases hd : d = 1
            · subst hd
              have HN : Hid (Plain.pre f (k + 1) = ⟨n + 1, 1, false, false⟩) := by rw [HS.out, h58]; rfl
              clear HS h34 b34 h123 b123 h125 b125
              go_wp2
              go_round
              case rel => exact ⟨k + 1, n + 1, 1, false, false, by go_num, rfl, rfl, rfl, rfl, by omega, HN⟩
              case measure => simp [intOf]; omega
            · have HN : Hid (Plain.pre f (k + 1) = ⟨n, d, false, false⟩) := by rw [HS.out, h58]; simp [Hid, Plain.step, hd]
              have bd : (d == 1) = false := by simpa using hd
              clear HS h34 b34 h123 b123 h125 b125
              go_wp2
              go_round
              case rel => exact ⟨k + 1, n, d, false, false, by go_num, rfl, rfl, rfl, rfl, by omega, HN⟩
              case measure => simp [intOf]; omega
          have b58 : (f k == 58) = false := by simpa using h58
          have HN : Hid (Plain.pre f (k + 1) = ⟨n, d, false, false⟩) := by rw [HS.out]; simp [Hid, Plain.step, h34, h123, h125, h58]
          clear HS
          go_wp2
          go_round
          case rel => exact ⟨k + 1, n, d, false, false, by go_num, rfl, rfl, rfl, rfl, by omega, HN⟩
          case measure => simp [intOf]; omega
        · by_cases h92 : f k = 92
          · have HN : Hid (Plain.pre f (k + 1) = ⟨n, d, true, true⟩) := by rw [HS.out, h92]; rfl
            clear HS
            go_wp2
            go_round
            case rel => exact ⟨k + 1, n, d, true, true, by go_num, rfl, rfl, rfl, rfl, by omega, HN⟩
            case measure => simp [intOf]; omega
          · have b92 : (f k == 92) = false := by simpa using h92
            have HN : Hid (Plain.pre f (k + 1) = ⟨n, d, f k != 34, false⟩) := by rw [HS.out]; simp [Hid, Plain.step, h92]
            clear HS
            go_wp2
            go_round
            case rel => exact ⟨k + 1, n, d, f k != 34, false, by go_num, rfl, rfl, rfl, rfl, by omega, HN⟩
            case measure => simp [intOf]; omega
      · have HN : Hid (Plain.pre f (k + 1) = ⟨n, d, s, false⟩) := by rw [HS.out]; rfl
        clear HS
        go_wp2
        go_round
        case rel => exact ⟨k + 1, n, d, s, false, by go_num, rfl, rfl, rfl, rfl, by omega, HN⟩
        case measure => simp [intOf]; omega
    · have hkk : k = len := by omega
      subst hkk
      have HN : Hid ((Plain.pre f k).n = n) := by rw [HP.out]; rfl
      go_wp2
      go_ret
      exact ⟨ret_int HN.out.symm, rfl⟩

theorem Try.info5 : (Try.prog.info? 5).map (fun i => (i.zero, i.size, i.bytes)) = some (some (.int .u8 0), 1, 1) := by kernel_rfl

/-- One more byte of the copy. -/
theorem copy_step {xs : List Value} {f : Nat → Int} {k len : Nat} (hn : xs.length = len) (hk : k < len) (h : ∀ j, j < k → xs[j]? = some (.int .u8 (f j))) :
    ∀ j, j < k + 1 → (xs.set k (.int .u8 (f k)))[j]? = some (.int .u8 (f j)) := by
  intro j hj
  by_cases e : j = k
  · subst e
    rw [List.getElem?_set_self (by omega)]
  · rw [List.getElem?_set_ne (by omega)]
    exact h j (by omega)

set_option maxRecDepth 100000 in
set_option maxHeartbeats 1600000 in
theorem clone_any (f : Nat → Int) (b off len cap : Nat) (h0 : 0 < len) (hlen : len ≤ 1048576) (w : World) (hl : Lies w b off len f) :
    Calls Try.prog 9 #[.slice (some ⟨b, off, none⟩) len cap] w fun e w' => (∃ g, e = .returned (.slice (some ⟨g, 0, none⟩) len len) ∧ Lies w' g 0 len f) ∧ Below w.heap.size w w' := by
  have hb : b < w.heap.size := World.block_lt_of_cell? _ _ (hl 0 h0)
  have q22 : ∀ (w : World) (a : Option Addr) (n c n' c' : Nat), (binOp .eql 22 (.slice a n c) (.slice none n' c')).run Try.prog w = .ok (.bool a.isNone) w := fun w a n c n' c' => Lib.run_eql_slice_nil w _ _ a n c n' c' Try.underlying22
  obtain ⟨i0, hi, hz0, hz1, hz2⟩ := info_parts Try.info5
  go_enter Try.func9, Try.ntmps9
  go_wp2_with (at_make; refine wpList_make_full _ rfl _ _ 22 rfl w.heap.size 5 i0 (.int .u8 0) 1 Try.underlying22 hi hz0 hz1 .i64 .i64 _ _ len rfl rfl rfl rfl ?c1 ?c2 ?c3 ?_)
  case c1 => rw [hz2]; omega
  case c2 => unfold maxLen; omega
  case c3 => exact Nat.le_refl _
  intro w1 hown hgrow
  have hbel : Below w.heap.size w w1 := (Below.refl _ _).grown hgrow (Nat.le_refl _) (fun k h => by cases h)
  clear hgrow hi hz0 hz1 hz2 i0
  go_wp2
  go_loopw [4] (fun t wr => ∃ (k : Nat) (xs : List Value), t = .int .i64 k ∧ k ≤ len ∧ Hid (wr.ownsRow w.heap.size 5 1 (.slice (some ⟨w.heap.size, 0, none⟩) len len) len xs) ∧ Hid (∀ j, j < k → xs[j]? = some (.int .u8 (f j))) ∧ Hid (Below w.heap.size w wr)) (fun t _ => len - (intOf t).toNat)
  case atStart => exact ⟨0, _, rfl, Nat.zero_le _, hown, fun j hj => by omega, hbel⟩
  case round =>
    clear hown hbel
    obtain ⟨k, xs, rfl, hk, HO, HX, HB⟩ := hrel
    by_cases hlt : k < len
    · have hc : wr.cell? ⟨b, off + k, none⟩ = some (.int .u8 (f k)) := (HB.out.cell (by exact hb)).trans (hl k hlt)
      have hxl : xs.length = len := by have := HO.out.1; omega
      obtain ⟨u, hu⟩ : ∃ u, wr.cell? ⟨w.heap.size, k, none⟩ = some u := ⟨xs[k]'(by omega), by rw [HO.out.cellAt k (by omega)]; exact List.getElem?_eq_getElem (by omega)⟩
      have hf := HO.out.frozenAt k
      have HST := HO.out.stored k (.int .u8 (f k))
      have HO' : Hid ((wr.setCell ⟨w.heap.size, k, none⟩ (.int .u8 (f k))).ownsRow w.heap.size 5 1 (.slice (some ⟨w.heap.size, 0, none⟩) len len) len (xs.set k (.int .u8 (f k)))) := HST.1
      have HB' : Hid (Below w.heap.size w (wr.setCell ⟨w.heap.size, k, none⟩ (.int .u8 (f k)))) := HB.out.setCell (by exact Nat.le_refl _) _
      have HX' : Hid (∀ j, j < k + 1 → (xs.set k (.int .u8 (f k)))[j]? = some (.int .u8 (f j))) := copy_step hxl hlt HX.out
      clear HO HST HB HX hxl
      go_wp2
      go_roundw
      case rel => exact ⟨k + 1, _, by go_num, by omega, HO', HX', HB'⟩
      case measure => simp [intOf]; omega
    · have hkk : k = len := by omega
      subst hkk
      have HL : Hid (Lies wr w.heap.size 0 k f) := fun j hj => by
        rw [Nat.zero_add, HO.out.cellAt j (by omega)]
        exact HX.out j hj
      clear HO HX
      go_wp2
      go_ret
      exact ⟨⟨w.heap.size, rfl, HL.out⟩, HB.out⟩

end Go.Proofs.Qxb6603802a
