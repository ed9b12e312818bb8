/-
  zzScanWord (27).
-/
import Derived.Test.Qxb6603802aStr
namespace Go.Proofs.Qxb6603802a
open Go.RowKit

set_option maxRecDepth 100000 in
set_option maxHeartbeats 800000 in
theorem scanWord_any (f : Nat → Int) (b off len cap : Nat) (hlen : len ≤ 1048576) (i : Nat) (hi : i ≤ len) (s : ByteArray) (hs : s.size ≤ 5) (hD : ∀ k (h : k < s.size), Plain.Dull ((s[k]'h).toNat : Int)) (w : World) (hl : Lies w b off len f) :
    Calls Try.prog 27 #[.slice (some ⟨b, off, none⟩) len cap, .int .i64 i, .string s] w fun e w' => Ends e len i (Plain.DullTo f i) ∧ ∃ n, w' = w.drewN n := by
  have HD : Hid (∀ k (h : k < s.size), Plain.Dull ((s[k]'h).toNat : Int)) := hD
  clear hD
  by_cases hfit : (len : Int) - (i : Int) < (s.size : Int)
  · go_enter Try.func27, Try.ntmps27
    go_wp2
    go_ret2
    exact ⟨Ends.no i rfl, 0, rfl⟩
  · go_enter Try.func27, Try.ntmps27
    go_wp2
    go_loopw [8] (fun t wr => ∃ k : Nat, t = .int .i64 k ∧ k ≤ s.size ∧ Plain.DullTo f i (i + k) ∧ ∃ n, wr = w.drewN n) (fun t _ => s.size - (intOf t).toNat)
    case atStart => exact ⟨0, rfl, by omega, Plain.DullTo.refl f i, 0, rfl⟩
    case round =>
      obtain ⟨k, rfl, hk, hT, n, rfl⟩ := hrel
      have HT : Hid (Plain.DullTo f i (i + k)) := hT
      clear hT
      by_cases hlt : k < s.size
      · have hc := hl (i + k) (by omega)
        have hb : (i : Int) + (k : Int) < (len : Int) := by omega
        by_cases he : f (i + k) = (s[k].toNat : Int)
        · have he' : (f (i + k) != (s[k].toNat : Int)) = false := by simpa using he
          have HE : Hid (f (i + k) = (s[k].toNat : Int)) := he
          clear he
          go_wp2
          go_quiet (fail)
          go_wp2
          go_roundw
          case rel => exact ⟨k + 1, by go_num, by omega, HT.out.snoc (by rw [HE.out]; exact HD.out k hlt), _, rfl⟩
          case measure => simp [intOf]; omega
        · have he' : (f (i + k) != (s[k].toNat : Int)) = true := by simpa using he
          clear he
          go_wp2
          go_quiet (fail)
          go_wp2
          go_ret2
          exact ⟨Ends.no i rfl, _, World.drewN_drewN _ _ _⟩
      · go_wp2
        go_ret2
        have hk' : k = s.size := by omega
        subst hk'
        exact ⟨Ends.yes (i + s.size) (by go_num) (by omega) (by omega) HT.out, n, rfl⟩

end Go.Proofs.Qxb6603802a
