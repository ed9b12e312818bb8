/-
  zzScanObject (20), out of zzScanValue's contract at later places; zzScanValue (22); both at every place.
-/
import Derived.Test.Qxb6603802aArr
namespace Go.Proofs.Qxb6603802a
open Go.RowKit

/-- From i to j an object of m members: counted outside all braces alone. -/
def Obj (f : Nat → Int) (i j m : Nat) : Prop := ∀ n d, 0 ≤ d → Plain.Q f i n d → Plain.Q f j (n + if d = 0 then (m : Int) else 0) d
/-- The same, the object still open. -/
def In (f : Nat → Int) (i j m : Nat) : Prop := ∀ n d, 0 ≤ d → Plain.Q f i n d → Plain.Q f j (n + if d = 0 then (m : Int) else 0) (d + 1)

theorem In.start {f : Nat → Int} {i : Nat} (h : f i = 123) : In f i (i + 1) 0 := fun n d _ q => by
  have := q.opens h
  simpa using this
theorem In.dull {f : Nat → Int} {i j k m : Nat} (h : In f i j m) (hjk : j ≤ k) (hD : Plain.DullTo f j k) : In f i k m := fun n d hd q => (h n d hd q).dullTo hjk hD
theorem In.one {f : Nat → Int} {i j m : Nat} (h : In f i j m) (hD : Plain.Dull (f j)) : In f i (j + 1) m := fun n d hd q => (h n d hd q).dull hD
theorem In.flat {f : Nat → Int} {i j k m : Nat} (h : In f i j m) (hF : Flat f j k) : In f i k m := fun n d hd q => hF _ _ (h n d hd q)
theorem In.deep {f : Nat → Int} {i j k m : Nat} (h : In f i j m) (hF : Deep1 f j k) : In f i k m := fun n d hd q => hF _ _ (by omega) (h n d hd q)
theorem In.colon {f : Nat → Int} {i j m : Nat} (h : In f i j m) (hc : f j = 58) : In f i (j + 1) (m + 1) := fun n d hd q => by
  have h1 := h n d hd q
  by_cases e : d = 0
  · subst e
    have h2 := h1.colon_in hc (by omega)
    simp at h2 ⊢
    have e2 : n + ((m : Int) + 1) = n + m + 1 := by omega
    rw [e2]
    exact h2
  · have h2 := h1.colon_out hc (by omega)
    simpa [e] using h2
theorem In.shut {f : Nat → Int} {i j m : Nat} (h : In f i j m) (hc : f j = 125) : Obj f i (j + 1) m := fun n d hd q => by
  have := (h n d hd q).shuts hc
  have e : d + 1 - 1 = d := by omega
  rw [e] at this
  exact this

/-- How zzScanObject ends. -/
def Ends3 (e : Ending) (len i : Nat) (R : Nat → Nat → Prop) : Prop :=
  (∃ j m : Int, e = .returned (.tuple #[.int .i64 j, .int .i64 m, .bool false])) ∨ ∃ j m : Nat, e = .returned (.tuple #[.int .i64 j, .int .i64 m, .bool true]) ∧ i ≤ j ∧ j ≤ len ∧ R j m
theorem Ends3.no {len i : Nat} {R : Nat → Nat → Prop} {e : Ending} (j m : Int) (h : e = .returned (.tuple #[.int .i64 j, .int .i64 m, .bool false])) : Ends3 e len i R := .inl ⟨j, m, h⟩
theorem Ends3.yes {len i : Nat} {R : Nat → Nat → Prop} {e : Ending} (j m : Nat) (h : e = .returned (.tuple #[.int .i64 j, .int .i64 m, .bool true])) (h1 : i ≤ j) (h2 : j ≤ len) (h3 : R j m) : Ends3 e len i R := .inr ⟨j, m, h, h1, h2, h3⟩

set_option maxRecDepth 100000 in
set_option maxHeartbeats 3200000 in
theorem scanObject_of (f : Nat → Int) (b off len cap : Nat) (hlen : len ≤ 1048576) (i : Nat) (hi : i < len) (hfi : f i = 123) (hV : ∀ k, i < k → k ≤ len → VC f b off len cap k) (w : World) (hl : Lies w b off len f) :
    Calls Try.prog 20 #[.slice (some ⟨b, off, none⟩) len cap, .int .i64 i] w fun e w' => Ends3 e len i (Obj f i) ∧ ∃ n, w' = w.drewN n := by
  have HV : Hid (∀ k, i < k → k ≤ len → VC f b off len cap k) := hV
  have HI : Hid (In f i (i + 1) 0) := In.start hfi
  clear hV hfi
  go_enter Try.func20, Try.ntmps20
  go_upto_region 2 with (go_at_call 19; refine (skipSpace_at f b off len cap hlen (i + 1) (by omega) w hl).mono ?_; rintro e w' ⟨⟨k, rfl, hk1, hk2, hk3⟩, rfl⟩)
  have HK : Hid (In f i k 0) := HI.out.dull hk1 hk3
  have hkl : k ≤ len := by omega
  clear hk3 HI hk2
  by_cases h125 : k < len ∧ f k = 125
  · obtain ⟨hlt, h125⟩ := h125
    have hc := hl k hlt
    have HN : Hid (Obj f i (k + 1) 0) := HK.out.shut h125
    go_wp2
    go_ret3
    exact ⟨Ends3.yes (k + 1) 0 (by go_num) (by omega) (by omega) HN.out, 0, rfl⟩
  go_upto_region 2 with (fail)
  go_cut [24] (fun t w' => w = w' ∧ t = .bool false)
  case first =>
    by_cases hlt : k < len
    · have hc := hl k hlt
      have h125' : (f k == 125) = false := by simp at h125 ⊢; exact h125 hlt
      clear h125
      go_wp2
      go_meet
      case rel => exact ⟨rfl, rfl⟩
    · clear h125
      go_wp2
      go_meet
      case rel => exact ⟨rfl, rfl⟩
  case rest =>
    clear h125
    obtain ⟨rfl, rfl⟩ := hcut
    go_wp2
    go_loopw [1, 7] (fun t u wr => ∃ k m : Nat, t = .int .i64 k ∧ u = .int .i64 m ∧ i < k ∧ k ≤ len ∧ m ≤ k ∧ Hid (In f i k m) ∧ ∃ n, wr = w.drewN n) (fun t _ _ => len - (intOf t).toNat)
    case atStart => exact ⟨k, 0, rfl, rfl, by omega, hkl, by omega, HK, 0, rfl⟩
    case round =>
      clear HK hk1 hkl
      obtain ⟨k, m, rfl, rfl, hik, hkl, hmk, HK, n, rfl⟩ := hrel
      by_cases hlt : k < len
      · go_wp2_with fail
        refine (scanString_any f b off len cap hlen k (by omega) _ (hl.drewN n)).mono ?_
        rintro e w' ⟨hE, rfl⟩
        rcases hE with ⟨q, rfl⟩ | ⟨q, rfl, hq1, hq2, hq3⟩
        · go_wp2
          go_ret3
          exact ⟨Ends3.no q m rfl, _, rfl⟩
        · have HQ : Hid (In f i q m) := HK.out.flat hq3
          clear hq3 HK
          go_upto_region 10 with (go_at_call 19; refine (skipSpace_at f b off len cap hlen q (by omega) _ (hl.drewN _)).mono ?_; rintro e w' ⟨⟨p, rfl, hp1, hp2, hp3⟩, rfl⟩)
          have HP : Hid (In f i p m) := HQ.out.dull hp1 hp3
          have hpl : p ≤ len := by omega
          clear hp3 HQ hp2
          by_cases hpt : p < len
          · have hc := hl p hpt
            by_cases h58 : f p = 58
            · have HN : Hid (In f i (p + 1) (m + 1)) := HP.out.colon h58
              clear HP
              go_upto_region 12 with (fail)
              clear hc h58
              go_wp2_with fail
              refine (skipSpace_at f b off len cap hlen (p + 1) (by omega) _ (hl.drewN _)).mono ?_
              rintro e w' ⟨⟨t, rfl, ht1, ht2, ht3⟩, rfl⟩
              have HT : Hid (In f i t (m + 1)) := HN.out.dull ht1 ht3
              have htl : t ≤ len := by omega
              clear ht3 HN ht2
              go_wp2_with fail
              refine (HV.out t (by omega) htl _ (hl.drewN n)).mono ?_
              rintro e w' ⟨hE, o, rfl⟩
              rw [World.drewN_drewN]
              rcases hE with ⟨x, rfl⟩ | ⟨x, rfl, hx1, hx2, hx3⟩
              · go_wp2
                go_ret3
                exact ⟨Ends3.no x m rfl, _, rfl⟩
              · have HX : Hid (In f i x (m + 1)) := HT.out.deep hx3
                clear hx3 HT
                go_upto_region 17 with (go_at_call 19; refine (skipSpace_at f b off len cap hlen x (by omega) _ (hl.drewN _)).mono ?_; rintro e w' ⟨⟨y, rfl, hy1, hy2, hy3⟩, rfl⟩)
                have HY : Hid (In f i y (m + 1)) := HX.out.dull hy1 hy3
                have hyl : y ≤ len := by omega
                clear hy3 HX hy2
                by_cases hyt : y < len
                · have hc := hl y hyt
                  by_cases h125 : f y = 125
                  · have HN : Hid (Obj f i (y + 1) (m + 1)) := HY.out.shut h125
                    clear HY
                    go_wp2
                    go_ret3
                    exact ⟨Ends3.yes (y + 1) (m + 1) (by go_num) (by omega) (by omega) HN.out, _, rfl⟩
                  · have h125' : (f y == 125) = false := by simpa using h125
                    by_cases h44 : f y = 44
                    · have HN : Hid (In f i (y + 1) (m + 1)) := HY.out.one (dull_c h44 (by simp [Plain.Dull]))
                      clear h125 HY h125'
                      go_wp2_with (go_at_call 19; refine (skipSpace_at f b off len cap hlen (y + 1) (by omega) _ (hl.drewN _)).mono ?_; rintro e w' ⟨⟨z, rfl, hz1, hz2, hz3⟩, rfl⟩)
                      go_roundw
                      case rel => exact ⟨z, m + 1, rfl, by go_num, by omega, by omega, by omega, HN.out.dull hz1 hz3, _, rfl⟩
                      case measure => simp [intOf]; omega
                    · have h44' : (f y != 44) = true := by simpa using h44
                      go_wp2
                      go_ret3
                      exact ⟨Ends3.no y (m + 1) rfl, _, rfl⟩
                · go_wp2
                  go_ret3
                  exact ⟨Ends3.no y (m + 1) rfl, _, rfl⟩
            · have h58' : (f p != 58) = true := by simpa using h58
              go_wp2
              go_ret3
              exact ⟨Ends3.no p m rfl, _, rfl⟩
          · go_wp2
            go_ret3
            exact ⟨Ends3.no p m rfl, _, rfl⟩
      · go_wp2
        go_ret3
        exact ⟨Ends3.no k m rfl, _, rfl⟩

end Go.Proofs.Qxb6603802a
