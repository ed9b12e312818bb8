/-
  plModel (7).
-/
import Derived.Test.Qxb6604491aDig
namespace Go.Proofs.Qxb6604491a
open Go.RowKit Plain

theorem digits_any (x : Int) (h0 : 0 ≤ x) (hx : x ≤ 214748363) (w : World) :
    Calls Try.prog 8 #[.int .i64 x] w fun e w' => (∃ (g n : Nat) (h : Nat → Int), e = .returned (.slice (some ⟨g, 0, none⟩) n n) ∧ Lim h n x ∧ Lies w' g 0 n h) ∧ Below w.heap.size w w' := by
  by_cases e : x = 0
  · subst e; exact digits_zero w
  · exact digits_pos x (by omega) hx w

theorem Lies.drawn {w : World} {b off len : Nat} {f : Nat → Int} (h : Lies w b off len f) (k : Nat) : Lies (w.drewN k) b off len f := ⟨h.cell, h.byte⟩

theorem below_drawn {B : Nat} {a w : World} (h : Below B a w) (n : Nat) : Below B a (w.drewN n) := h.trans ⟨rfl, rfl, rfl, Nat.le_refl _, fun _ _ => rfl⟩

theorem drawn3 (w : World) (a b c : Nat) : ((w.drewN a).drewN b).drewN c = w.drewN (a + (b + c)) := by rw [World.drewN_drewN, World.drewN_drewN]

theorem eval_step {f : Nat → Int} {r n m : Nat} (h : n = r + 1 + m) : V f (r + 1) m + (f r - 48) * ten m = V f r (n - r) := by
  have e : n - r = m + 1 := by omega
  rw [e, V_left]
  omega

theorem prod_bound {c p : Int} (h1 : 48 ≤ c) (h2 : c ≤ 57) (h3 : 1 ≤ p) (h4 : p ≤ 1000000000) : 0 ≤ (c - 48) * p ∧ (c - 48) * p ≤ 9000000000 := by
  have a : 0 * p ≤ (c - 48) * p := Int.mul_le_mul_of_nonneg_right (by omega) (by omega)
  have b : (c - 48) * p ≤ 9 * p := Int.mul_le_mul_of_nonneg_right (by omega) (by omega)
  omega

set_option maxRecDepth 100000 in
set_option maxHeartbeats 3200000 in
theorem model_any (f : Nat → Int) (b off n cap : Nat) (hlen : n + 1 ≤ 1048576) (L : Int) (hL : L ≤ 214748363) (hL2 : -9223372036854775808 ≤ L) (w : World) (hl : Lies w b off (n + 1) f) :
    Calls Try.prog 7 #[.slice (some ⟨b, off, none⟩) ((n + 1 : Nat)) cap, .int .i64 L] w fun e w' => Res f (n + 1) L e ∧ Below w.heap.size w w' := by
  by_cases hn : n = 0
  · subst hn
    go_enter Try.func7, Try.ntmps7
    go_wp2
    go_ret2
    exact ⟨Res.no (fun h => by omega) rfl, Below.refl _ _⟩
  have hn1 : 1 ≤ n := by omega
  have hd1 : decide ((n : Int) < 1) = false := by simp; omega
  have hcn := hl.cell n (by omega)
  by_cases h13 : f n = 13
  · have H13 : Hid (f n = 13) := h13
    go_enter Try.func7, Try.ntmps7
    go_wp2
    clear hcn h13
    go_loop [7] (fun t => ∃ k : Nat, t = .int .i64 k ∧ k ≤ n ∧ Hid (Dig f 0 k)) (fun t => n - (intOf t).toNat)
    case atStart => exact ⟨0, rfl, Nat.zero_le _, fun j h1 h2 => by omega⟩
    case round =>
      obtain ⟨k, rfl, hk, HD⟩ := hrel
      by_cases hlt : k < n
      · have hc := hl.cell k (by omega)
        by_cases h48 : f k < 48
        · go_wp2
          go_ret2
          exact ⟨Res.no (fun _ _ h _ => by have := h k (by omega) hlt; omega) rfl, Below.refl _ _⟩
        · have h48 : 48 ≤ f k := by omega
          have g48 : decide (f k < 48) = false := by simp; omega
          by_cases h57 : f k ≤ 57
          · have g57 : decide (57 < f k) = false := by simp; omega
            have HD2 : Hid (Dig f 0 (k + 1)) := fun j h1 h2 => by
              by_cases e : j = k
              · rw [e]; exact ⟨h48, h57⟩
              · exact HD.out j h1 (by omega)
            go_wp2
            go_round
            case rel => exact ⟨k + 1, by go_num, by omega, HD2⟩
            case measure => simp [intOf]; omega
          · have g57 : 57 < f k := by omega
            go_wp2
            go_ret2
            exact ⟨Res.no (fun _ _ h _ => by have := h k (by omega) hlt; omega) rfl, Below.refl _ _⟩
      · have hkk : k = n := by omega
        subst hkk
        clear hlt hk
        by_cases hneg : L < 0
        · go_wp2
          go_ret2
          exact ⟨Res.no (fun _ _ h h' => by have := V_bound (f := f) (s := 0) (k := k) (by rw [Nat.zero_add]; exact h); omega) rfl, Below.refl _ _⟩
        · have hpos : 0 ≤ L := by omega
          clear hneg
          go_wp2
          go_loop [8] (fun t => ∃ s : Nat, t = .int .i64 s ∧ s ≤ k ∧ Hid (∀ j, j < s → f j = 48)) (fun t => k - (intOf t).toNat)
          case atStart => exact ⟨0, rfl, Nat.zero_le _, fun j h => by omega⟩
          case round =>
            obtain ⟨s, rfl, hs, HZ⟩ := hrel
            by_cases hsl : s < k
            · have hc := hl.cell s (by omega)
              by_cases hs48 : f s = 48
              · have HZ2 : Hid (∀ j, j < s + 1 → f j = 48) := fun j hj => by
                  by_cases e : j = s
                  · rw [e]; exact hs48
                  · exact HZ.out j (by omega)
                go_wp2
                go_round
                case rel => exact ⟨s + 1, by go_num, by omega, HZ2⟩
                case measure => simp [intOf]; omega
              · have hs48' : (f s == 48) = false := by simpa using hs48
                have H48 : Hid (f s ≠ 48) := hs48
                have hsig : (((k : Int) - (s : Int)) == 0) = false := by simp; omega
                clear hs48
                go_wp2_with fail
                clear hc hs48'
                refine (digits_any L hpos hL w).mono ?_
                rintro e w1 ⟨⟨g, d, h, rfl, hLim, hLg⟩, hB1⟩
                have HL : Hid (Lim h d L) := hLim
                have hd9 := hLim.nine
                have hlf := hl.later hB1
                have HB1 : Hid (Below w.heap.size w w1) := hB1
                clear hLim hl hB1
                go_upto_if 68 with (fail)
                by_cases hlong : d < k - s
                · have hlong' : (d : Int) < (k : Int) - (s : Int) := by omega
                  go_wp2
                  go_ret2
                  exact ⟨Res.no (fun _ _ _ h' => by have := too_long HL.out HD.out HZ.out hsl H48.out hlong; omega) rfl, HB1.out⟩
                · have hlong' : ¬ (d : Int) < (k : Int) - (s : Int) := by omega
                  go_upto_if 72 with (fail)
                  go_cut [11] (fun _ w' => (∃ q, w' = w1.drewN q) ∧ Hid (V f 0 k ≤ L))
                  case first =>
                    by_cases heq : k - s = d
                    · have heq' : (((k : Int) - (s : Int)) == (d : Int)) = true := by simp; omega
                      have hks : k = s + d := by omega
                      have HKS : Hid (k = s + d) := hks
                      clear hks heq
                      go_wp2
                      go_loopw [11] (fun t wr => ∃ i q : Nat, t = .int .i64 i ∧ i ≤ d ∧ Hid (V f s i = V h 0 i) ∧ wr = w1.drewN q) (fun t _ => d - (intOf t).toNat)
                      case atStart => exact ⟨0, 0, rfl, Nat.zero_le _, rfl, rfl⟩
                      case round =>
                        obtain ⟨i, q, rfl, hi, HE, rfl⟩ := hrel
                        by_cases hid : i < d
                        · have hid2 : (i : Int) < (k : Int) - (s : Int) := by have := HKS.out; omega
                          have hid3 : (i : Int) < (d : Int) := by omega
                          have hc1 := hlf.cell (s + i) (by have := HKS.out; omega)
                          have hc2 := hLg.cell i hid
                          have hb : (s : Int) + (i : Int) < (k : Int) + 1 := by have := HKS.out; omega
                          have hb1 := hlf.byte (s + i) (by have := HKS.out; omega)
                          have hb2 := hLg.byte i hid
                          rw [Nat.zero_add] at hc2
                          by_cases hfe : f (s + i) = h i
                          · have HE2 : Hid (V f s (i + 1) = V h 0 (i + 1)) := by
                              show V f s i * 10 + (f (s + i) - 48) = V h 0 i * 10 + (h (0 + i) - 48)
                              rw [HE.out, Nat.zero_add, hfe]
                            have hfe' : (f (s + i) != h i) = false := by simpa using hfe
                            clear hfe
                            go_wp2
                            go_quiet (fail)
                            go_wp2
                            go_roundw
                            case rel => exact ⟨i + 1, _, by go_num, by omega, HE2, rfl⟩
                            case measure => simp [intOf]; omega
                          · have hfe' : (f (s + i) != h i) = true := by simpa using hfe
                            by_cases hgt : h i < f (s + i)
                            · have HF : Hid (L < V f 0 k) := above HL.out HD.out HZ.out HKS.out hid HE.out hgt
                              go_wp2
                              go_quiet (fail)
                              go_wp2
                              go_quiet (fail)
                              go_wp2
                              go_ret2
                              exact ⟨Res.no (fun _ _ _ h' => by have := HF.out; omega) rfl, below_drawn (below_drawn (below_drawn HB1.out _) _) _⟩
                            · have HF : Hid (V f 0 k ≤ L) := below HL.out HD.out HZ.out HKS.out hid HE.out (by omega)
                              have hgt' : decide (h i < f (s + i)) = false := by simpa using hgt
                              go_wp2
                              go_quiet (fail)
                              go_wp2
                              go_quiet (fail)
                              go_wp2
                              go_meet
                              case rel => exact ⟨⟨_, drawn3 _ _ _ _⟩, HF⟩
                        · have hie : i = d := by omega
                          have HF : Hid (V f 0 k ≤ L) := same HL.out HZ.out HKS.out (by rw [← hie]; exact HE.out)
                          have hid2 : ¬ (i : Int) < (k : Int) - (s : Int) := by have := HKS.out; omega
                          go_wp2
                          go_meet
                          case rel => exact ⟨⟨_, rfl⟩, HF⟩
                    · have heq' : (((k : Int) - (s : Int)) == (d : Int)) = false := by simp; omega
                      have HF : Hid (V f 0 k ≤ L) := short HL.out HD.out HZ.out hsl (by omega)
                      go_wp2
                      go_meet
                      case rel => exact ⟨⟨0, rfl⟩, HF⟩
                  case rest =>
                    obtain ⟨⟨q0, rfl⟩, HF⟩ := hcut
                    have hlq := hlf.drawn q0
                    have HBq : Hid (Below w.heap.size w (w1.drewN q0)) := below_drawn HB1.out q0
                    have HVV : Hid (V f s (k - s) = V f 0 k) := by
                      have := V_zeros (f := f) (s := s) (k := k - s) HZ.out
                      rw [show s + (k - s) = k by omega] at this
                      exact this.symm
                    clear HB1 hLg hlf HZ H48 HL
                    generalize w1.drewN q0 = w2 at *
                    go_wp2
                    go_loop [12, 13, 14] (fun tv tp ti => ∃ (q : Nat) (v p : Int), ti = .int .i64 ((q : Int) - 1) ∧ tv = .int .i64 v ∧ tp = .int .i64 p ∧ s ≤ q ∧ q ≤ k ∧ 0 ≤ v ∧ v ≤ 1000000000 ∧ 1 ≤ p ∧ p ≤ 1000000000 ∧ Hid (p = ten (k - q)) ∧ Hid (v = V f q (k - q))) (fun _ _ ti => (intOf ti + 1).toNat)
                    case atStart => exact ⟨k, 0, 1, rfl, rfl, rfl, hs, Nat.le_refl _, by omega, by omega, by omega, by omega, (by rw [Nat.sub_self]; rfl), (by rw [Nat.sub_self]; rfl)⟩
                    case round =>
                      obtain ⟨q, v, p, rfl, rfl, rfl, hq1, hq2, hv0, hv1, hp0, hp1, HP, HV⟩ := hrel
                      by_cases hlast : s < q
                      · obtain ⟨r, rfl⟩ : ∃ r, q = r + 1 := ⟨q - 1, by omega⟩
                        have hc := hlq.cell r (by omega)
                        obtain ⟨d1, d2⟩ := HD.out r (by omega) (by omega)
                        obtain ⟨m1, m2⟩ := prod_bound d1 d2 hp0 hp1
                        have hm : k = r + 1 + (k - (r + 1)) := by omega
                        have HV2 : Hid (v + (f r - 48) * p = V f r (k - r)) := by rw [HV.out, HP.out]; exact eval_step hm
                        have HP2 : Hid (p * 10 = ten (k - r)) := by
                          rw [HP.out, show k - r = k - (r + 1) + 1 by omega, Int.mul_comm]
                          rfl
                        have HQ : Hid (0 ≤ v + (f r - 48) * p ∧ v + (f r - 48) * p ≤ 1000000000 ∧ 1 ≤ p * 10 ∧ p * 10 ≤ 1000000000) := by
                          have t1 := ten_mono (show k - r ≤ 9 by omega)
                          have t2 : ten 9 = 1000000000 := rfl
                          have t3 := V_bound (f := f) (s := r) (k := k - r) (fun j h1 h2 => HD.out j (by omega) (by omega))
                          have t4 := HV2.out
                          have t5 := HP2.out
                          have t6 := ten_pos (k - r)
                          refine ⟨?_, ?_, ?_, ?_⟩ <;> omega
                        clear hm
                        go_wp2
                        go_round
                        case rel => exact ⟨r, _, _, rfl, rfl, rfl, by omega, by omega, HQ.out.1, HQ.out.2.1, HQ.out.2.2.1, HQ.out.2.2.2, HP2, HV2⟩
                        case measure => simp [intOf]
                      · have hqs : q = s := by omega
                        subst hqs
                        go_wp2
                        go_ret2
                        have hV := HV.out
                        rw [HVV.out] at hV
                        subst hV
                        exact ⟨Res.yes hn1 H13.out HD.out HF.out rfl, HBq.out⟩
            · have hsk : s = k := by omega
              subst hsk
              have HV0 : Hid (V f 0 s = 0) := V_zeros (k := 0) HZ.out
              go_wp2
              go_ret2
              exact ⟨Res.yes hn1 H13.out HD.out (by rw [HV0.out]; exact hpos) (by rw [HV0.out]; rfl), Below.refl _ _⟩
  · have h13' : (f n != 13) = true := by simpa using h13
    go_enter Try.func7, Try.ntmps7
    go_wp2
    go_ret2
    exact ⟨Res.no (fun _ h => absurd h h13) rfl, Below.refl _ _⟩

end Go.Proofs.Qxb6604491a
