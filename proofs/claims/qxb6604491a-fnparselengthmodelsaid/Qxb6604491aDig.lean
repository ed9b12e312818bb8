/-
  plDigits (8).
-/
import Derived.Test.Qxb6604491aLen
import Derived.Laws.CopyOwn
namespace Go.Proofs.Qxb6604491a
open Go.RowKit Plain

theorem digits_zero (w : World) :
    Calls Try.prog 8 #[.int .i64 0] w fun e w' => (∃ (g n : Nat) (h : Nat → Int), e = .returned (.slice (some ⟨g, 0, none⟩) n n) ∧ Lim h n 0 ∧ Lies w' g 0 n h) ∧ Below w.heap.size w w' := by
  go_enter Try.func8, Try.ntmps8
  go_wp2
  go_ret
  refine ⟨⟨w.heap.size, 1, fun _ => 48, rfl, ⟨fun k _ _ => by omega, by omega, by omega, rfl, .inl rfl⟩, ⟨fun k hk => ?_, fun k _ => by omega⟩⟩, (Below.refl _ _).alloc (Nat.le_refl _) _⟩
  obtain rfl : k = 0 := by omega
  simp

theorem Try.info5 : (Try.prog.info? 5).map (fun i => (i.zero, i.size, i.bytes)) = some (some (.int .u8 0), 1, 1) := by kernel_rfl
theorem Try.size5 : (Try.prog.info? 5).map (·.size) = some 1 := by kernel_rfl

/-- The block of a row that is owned. -/
theorem own_block {w : World} {base e g n : Nat} {xs : List Value} (h : w.ownsRow base e 1 (.slice (some ⟨g, 0, none⟩) n n) n xs) :
    ∃ cur : List Value, w.heap[g]? = some (.cells cur.toArray e (0, 0)) ∧ cur.length = n := by
  rcases h.2 with ⟨h', _⟩ | ⟨g', cap', cur, h', _, hg, _, _, hcs, _⟩
  · simp at h'
  · simp only [Value.slice.injEq, Option.some.injEq, Addr.mk.injEq, and_true, true_and] at h'
    obtain ⟨rfl, rfl⟩ := h'
    exact ⟨cur.toList, hg, by simpa using hcs⟩

/-- 'buf[i:]' of an array of twenty bytes. -/
theorem slice_buf (b i m : Nat) (h : i + m = 20) (hm : 1 ≤ m) (W : World) : (Instr.sliceAt 28 (.pointer (some ⟨b, 0, none⟩)) (some (.int .i64 (i : Int))) none none).run Try.prog W = .ok (.slice (some ⟨b, i, none⟩) m m) W := by
  have hal : Try.prog.arrayLen 28 = 20 := by simp [Program.arrayLen, Try.underlying28]
  have hel : Try.prog.elem 28 = 5 := by simp [Program.elem, Try.underlying28]
  have hs : (sizeOf 5).run Try.prog W = .ok 1 W := by kernel_rfl
  have e1 : ¬ 20 = i := by omega
  have e2 : 20 - i = m := by omega
  rw [run_sliceAt_array_l W 28 ⟨b, 0, none⟩ (by rw [hal, hel]; exact Try.underlying28) .i64 (i : Int) (by omega) (by rw [hal]; omega), hel, hs]
  simp [Result.andThen, slicedAt, hal, e1, e2, Addr.add]
  omega

theorem splice_all {α : Type} (L cs : List α) (h : L.length = cs.length) : splice L 0 cs = cs := by
  simp [splice, h, List.drop_eq_nil_of_le]

/-- The bytes that a copy hands over. -/
def bytes (f : Nat → Int) (n : Nat) : List Value := (List.range n).map fun k => .int .u8 (f k)
theorem bytes_length (f : Nat → Int) (n : Nat) : (bytes f n).length = n := by simp [bytes]
theorem bytes_get (f : Nat → Int) (n k : Nat) (hk : k < n) : (bytes f n)[k]? = some (.int .u8 (f k)) := by simp [bytes, hk]
theorem bytes_one (f : Nat → Int) (n : Nat) : ∀ v ∈ bytes f n, v.oneCell' = true := by
  intro v hv
  simp only [bytes, List.mem_map] at hv
  obtain ⟨k, _, rfl⟩ := hv
  rfl

/-- What a copy asks of its source. -/
theorem bytes_src {w : World} {b off n : Nat} {f : Nat → Int} (h : ∀ k, k < n → w.cell? ⟨b, off + k, none⟩ = some (.int .u8 (f k))) : ∀ (j : Nat) (v : Value), (bytes f n)[j]? = some v → w.cell? ⟨b, off + j, none⟩ = some v := by
  intro j v hj
  by_cases e : j < n
  · rw [bytes_get f n j e] at hj
    rw [h j e]
    exact hj
  · rw [List.getElem?_eq_none (by rw [bytes_length]; omega)] at hj
    cases hj

theorem lies_block {w : World} {g n : Nat} {f : Nat → Int} (hg : w.heap[g]? = some (.cells (bytes f n).toArray 5 (0, 0))) (hb : ∀ k, k < n → 0 ≤ f k ∧ f k ≤ 255) : Lies w g 0 n f :=
  ⟨fun k hk => by rw [cell_of_row w g _ _ 5 (0, 0) hg, Nat.zero_add]; simpa using bytes_get f n k hk, hb⟩

set_option maxRecDepth 100000 in
set_option maxHeartbeats 1600000 in
theorem digits_pos (x : Int) (h0 : 0 < x) (hx : x ≤ 214748363) (w : World) :
    Calls Try.prog 8 #[.int .i64 x] w fun e w' => (∃ (g n : Nat) (h : Nat → Int), e = .returned (.slice (some ⟨g, 0, none⟩) n n) ∧ Lim h n x ∧ Lies w' g 0 n h) ∧ Below w.heap.size w w' := by
  have hz : decide (x ≤ 0) = false := by simp; omega
  go_enter Try.func8, Try.ntmps8
  go_wp2
  have ho := World.ownsRow_lit (base := w.heap.size) (e := 28) (size := 1) w (Array.replicate 20 (.int .u8 0)) 20 (Nat.le_refl _) (by unfold maxLen; omega) (by simp)
  have hB : Below w.heap.size w (w.alloc (.cells (Array.replicate 20 (.int .u8 0)) 28)) := (Below.refl _ _).alloc (Nat.le_refl _) _
  go_loopw [0, 4] (fun t c wr => ∃ (i m : Nat) (y : Int) (h : Nat → Int) (xs : List Value), t = .int .i64 y ∧ c = .int .i64 i ∧ i + m = 20 ∧ m ≤ 9 ∧ 0 ≤ y ∧ y ≤ 214748363 ∧ Hid (x = y * ten m + V h i m) ∧ Hid (Dig h i (i + m)) ∧ Hid (m = 0 ∨ ten (m - 1) ≤ x) ∧
      Hid (wr.ownsRow w.heap.size 28 1 (.slice (some ⟨w.heap.size, 0, none⟩) 20 20) 20 xs) ∧ Hid (∀ k, i ≤ k → k < 20 → xs[k]? = some (.int .u8 (h k))) ∧ Hid (Below w.heap.size w wr)) (fun t _ _ => (intOf t).toNat)
  case atStart => exact ⟨20, 0, x, fun _ => 0, _, rfl, rfl, rfl, by omega, by omega, hx, (show x = x * 1 + 0 by omega), fun k h1 h2 => by omega, .inl rfl, ho, fun k h1 h2 => by omega, hB⟩
  case round =>
    clear ho hB
    obtain ⟨i, m, y, h, xs, rfl, rfl, him, hm, hy0, hy1, HX, HD, HT, HO, HC, HB⟩ := hrel
    by_cases hy : 0 < y
    · obtain ⟨r1, r2⟩ := digit_room HX.out HD.out hy hx
      obtain ⟨j, rfl⟩ : ∃ j, i = j + 1 := ⟨i - 1, by omega⟩
      have hxl : xs.length = 20 := by have := HO.out.1; omega
      obtain ⟨u, hu⟩ : ∃ u, wr.cell? ⟨w.heap.size, j, none⟩ = some u := ⟨xs[j]'(by omega), by rw [HO.out.cellAt j (by omega)]; exact List.getElem?_eq_getElem (by omega)⟩
      have hf := HO.out.frozenAt j
      have HO' : Hid ((wr.setCell ⟨w.heap.size, j, none⟩ (.int .u8 (48 + y % 10))).ownsRow w.heap.size 28 1 (.slice (some ⟨w.heap.size, 0, none⟩) 20 20) 20 (xs.set j (.int .u8 (48 + y % 10)))) := (HO.out.stored j (.int .u8 (48 + y % 10))).1
      have HB' : Hid (Below w.heap.size w (wr.setCell ⟨w.heap.size, j, none⟩ (.int .u8 (48 + y % 10)))) := HB.out.setCell (by exact Nat.le_refl _) _
      have HX' : Hid (x = (y / 10) * ten (m + 1) + V (put h j (48 + y % 10)) j (m + 1)) := digit_step HX.out
      have HT' : Hid (m + 1 = 0 ∨ ten (m + 1 - 1) ≤ x) := .inr r1
      have HD' : Hid (Dig (put h j (48 + y % 10)) j (j + (m + 1))) := fun k h1 h2 => by
        by_cases e : k = j
        · rw [e, put_same]; omega
        · rw [put_other h _ e]; exact HD.out k (by omega) (by omega)
      have HC' : Hid (∀ k, j ≤ k → k < 20 → (xs.set j (.int .u8 (48 + y % 10)))[k]? = some (.int .u8 (put h j (48 + y % 10) k))) := fun k h1 h2 => by
        by_cases e : k = j
        · subst e
          rw [List.getElem?_set_self (by omega), put_same]
        · rw [List.getElem?_set_ne (by omega), put_other h _ e]
          exact HC.out k (by omega) h2
      clear HO HB HX HT HD HC hxl r1
      have hj : j ≤ 19 := by omega
      go_wp2
      go_roundw
      case rel => exact ⟨j, m + 1, y / 10, put h j (48 + y % 10), _, rfl, rfl, by omega, by omega, by omega, by omega, HX', HD', HT', HO', HC', HB'⟩
      case measure => simp [intOf]; omega
    · have hy : y = 0 := by omega
      subst hy
      have hV : x = V h i m := by have := HX.out; rw [Int.zero_mul, Int.zero_add] at this; exact this
      have hm1 : 1 ≤ m := by
        by_cases e : m = 0
        · subst e; simp only [V] at hV; omega
        · omega
      have HL : Hid (Lim (fun k => h (i + k)) m x) :=
        ⟨fun k _ h2 => HD.out (i + k) (by omega) (by omega), hm1, hm, by rw [V_shift, ← hV], by have := HT.out; omega⟩
      have HS : Hid (∀ k, k < m → wr.cell? ⟨w.heap.size, i + k, none⟩ = some (.int .u8 (h (i + k)))) := fun k hk => by
        rw [HO.out.cellAt (i + k) (by omega)]
        exact HC.out (i + k) (by omega) (by omega)
      have HY : Hid (∀ k, k < m → 0 ≤ h (i + k) ∧ h (i + k) ≤ 255) := fun k hk => by have := HD.out (i + k) (by omega) (by omega); omega
      clear HX HD HT HO HC hV
      obtain ⟨i0, hi, hz0, hz1, hz2⟩ := info_parts Try.info5
      go_wp2_with (at_make; refine wpList_make_full _ rfl _ _ 22 rfl w.heap.size 5 i0 (.int .u8 0) 1 Try.underlying22 hi hz0 hz1 .i64 .i64 _ _ m rfl rfl ?c0 ?c4 ?c1 ?c2 ?c3 ?_)
      case c0 => omega
      case c4 => omega
      case c1 => first | omega | (rw [hz2]; omega)
      case c2 => unfold maxLen; omega
      case c3 => exact HB.out.size
      intro w1 hown hgrow
      obtain ⟨cur, hcur, hlen⟩ := own_block hown
      have HB1 : Hid (Below w.heap.size w w1) := HB.out.grown hgrow HB.out.size (fun k h => by cases h)
      have HS1 : Hid (∀ k, k < m → w1.cell? ⟨w.heap.size, i + k, none⟩ = some (.int .u8 (h (i + k)))) := fun k hk => hgrow.cell (HS.out k hk) (by simp)
      have HC1 : Hid (w1.heap[wr.heap.size]? = some (.cells cur.toArray 5 (0, 0))) := hcur
      have hwr := HB.out.size
      clear hown hgrow hcur hi hz0 hz1 hz2 i0 HS HB
      have hsl := slice_buf w.heap.size i m him hm1
      go_upto_region 10 with (fail)
      go_wp2_with (refine wpList_copy_splice rfl _ _ 22 22 rfl 5 Try.underlying22 Try.size5 _ _ _ _ _ _ rfl rfl wr.heap.size 0 cur 5 HC1.out (bytes (fun k => h (i + k)) m) ?d1 ?d2 ?d3 (bytes_one _ _) w.heap.size w HB1.out hwr ?_)
      case d1 => rw [bytes_length]; simp
      case d2 => exact fun _ => bytes_src HS1.out
      case d3 => rw [bytes_length, hlen]; omega
      intro w2 hg2 hB2
      have HG2 : Hid (w2.heap[wr.heap.size]? = some (.cells (bytes (fun k => h (i + k)) m).toArray 5 (0, 0))) := by
        have := hg2.out
        rw [splice_all _ _ (by rw [bytes_length, hlen])] at this
        exact this
      have HB2 : Hid (Below w.heap.size w w2) := hB2
      clear hg2 hB2 HC1 HS1 HB1 hsl
      go_wp2
      go_ret
      exact ⟨⟨wr.heap.size, m, fun k => h (i + k), rfl, HL.out, lies_block HG2.out HY.out⟩, HB2.out⟩

end Go.Proofs.Qxb6604491a
