/-
  THE LAW (3), over look-ups that are taken as equations.
-/
import Derived.Test.Qxb6604380aMaps
namespace Go.Proofs.Qxb6604380a
open Go.RowKit Go.Maps

/-- What the law is told of the map that came in: how many entries, and what it answers at the two keys, now and later. -/
structure Env (w : World) (m : Option Nat) (N : Nat) (sM sD : ByteArray) : Prop where
  len : (Builtin.len_ #[22] 3 #[.map m]).run Try.prog w = .ok (.int .i64 N) w
  hM : Looks w (.map m) keyM sM
  hD : Looks w (.map m) keyD sD
  bM : sM.size ≤ 9223372036854775807
  bD : sD.size ≤ 9223372036854775807

set_option maxHeartbeats 400000 in
theorem law_many (m : Option Nat) (N : Nat) (sM sD : ByteArray) (w : World) (E : Env w m N sM sD) (h : 4096 < N) :
    Calls Try.prog 3 #[.map m] w fun e w' => e = .returned (.bool true) ∧ Below w.heap.size w w' := by
  have h1 := E.len
  clear E
  go_enter Try.func3, Try.ntmps3
  go_wp2
  go_ret
  exact ⟨rfl, Below.refl _ _⟩

set_option maxHeartbeats 800000 in
theorem law_wide (m : Option Nat) (N : Nat) (sM sD : ByteArray) (w : World) (E : Env w m N sM sD) (h : N ≤ 4096) (hw : 1048576 < sM.size ∨ 1048576 < sD.size ∨ 1048576 < sM.size + sD.size) :
    Calls Try.prog 3 #[.map m] w fun e w' => e = .returned (.bool true) ∧ Below w.heap.size w w' := by
  have h1 := E.len
  have h2 := E.hM w (Below.refl _ _)
  have h3 := E.hD w (Below.refl _ _)
  have b1 := E.bM
  have b2 := E.bD
  unfold keyM at h2
  unfold keyD at h3
  clear E
  by_cases g1 : 1048576 < sM.size
  · clear hw
    go_enter Try.func3, Try.ntmps3
    go_wp2
    go_ret
    exact ⟨rfl, Below.refl _ _⟩
  by_cases g2 : 1048576 < sD.size
  · clear hw
    go_enter Try.func3, Try.ntmps3
    go_wp2
    go_ret
    exact ⟨rfl, Below.refl _ _⟩
  have g3 : 1048576 < sM.size + sD.size := by omega
  clear hw
  go_enter Try.func3, Try.ntmps3
  go_wp2
  go_ret
  exact ⟨rfl, Below.refl _ _⟩

theorem keyM_size : keyM.size ≤ maxLen := by decide
theorem keyD_size : keyD.size ≤ maxLen := by decide

set_option maxHeartbeats 800000 in
theorem law_none (m : Option Nat) (N : Nat) (sM sD : ByteArray) (w : World) (E : Env w m N sM sD) (h : N ≤ 4096) (hw : sM.size + sD.size ≤ 1048576) (eM : sM.toList.isEmpty = true) (eD : sD.toList.isEmpty = true) :
    Calls Try.prog 3 #[.map m] w fun e w' => e = .returned (.bool true) ∧ Below w.heap.size w w' := by
  have h1 := E.len
  have h2 := E.hM w (Below.refl _ _)
  have h3 := E.hD w (Below.refl _ _)
  unfold keyM at h2
  unfold keyD at h3
  go_enter Try.func3, Try.ntmps3
  go_wp2_with fail
  refine (mig_none m sM sD w eM eD E.hM E.hD).mono ?_
  rintro e w1 ⟨⟨k, v, rfl⟩, hB⟩
  have h4 := E.hM w1 hB
  have h5 := E.hD w1 hB
  unfold keyM at h4
  unfold keyD at h5
  clear h1 h2 h3
  go_wp2
  go_ret
  exact ⟨rfl, hB⟩

theorem keys_differ : (Lit.string keyM.data.toList) ≠ Lit.string keyD.data.toList := by
  intro h
  have := congrArg List.length (Lit.string.inj h)
  revert this
  decide

theorem empty_text : (⟨#[]⟩ : ByteArray).toList.isEmpty = true := by decide +kernel

theorem alone_M (u : DataW Unit) : ((DataW.map []).put (.string keyD.data.toList) u).atKey (.string keyM.data.toList) (.lit (.string [])) = .lit (.string (⟨#[]⟩ : ByteArray).data.toList) := by
  rw [atKey_put_other keys_differ]
  rfl
theorem alone_D (u : DataW Unit) : ((DataW.map []).put (.string keyD.data.toList) u).atKey (.string keyD.data.toList) (.lit (.string [])) = u :=
  atKey_put_same isMap_empty (show WideAt.IsKeyLit (Lit.string _) from trivial) _ _
theorem over_M (u v : DataW Unit) : (((DataW.map []).put (.string keyM.data.toList) u).put (.string keyD.data.toList) v).atKey (.string keyM.data.toList) (.lit (.string [])) = u := by
  rw [atKey_put_other keys_differ]
  exact atKey_put_same isMap_empty (show WideAt.IsKeyLit (Lit.string _) from trivial) _ _

set_option maxHeartbeats 1600000 in
theorem law_set (m : Option Nat) (N : Nat) (sM sD u : ByteArray) (w : World) (E : Env w m N sM sD) (h : N ≤ 4096) (hw : sM.size + sD.size ≤ 1048576) (hu : u.toList.isEmpty = false) (bu : u.size ≤ 1048576)
    (hset : sM.toList.isEmpty = false ∨ sM.toList.isEmpty = true ∧ sD.toList.isEmpty = false)
    (hcall : Calls Try.prog 4 #[.map m] w fun e w' => e = .returned (.tuple #[.string u, .nilIface]) ∧ Below w.heap.size w w') :
    Calls Try.prog 3 #[.map m] w fun e w' => e = .returned (.bool true) ∧ Below w.heap.size w w' := by
  have h1 := E.len
  have h2 := E.hM w (Below.refl _ _)
  have h3 := E.hD w (Below.refl _ _)
  unfold keyM at h2
  unfold keyD at h3
  have hmm := @run_makeMap Try.prog
  go_enter Try.func3, Try.ntmps3
  go_wp2_with fail
  refine hcall.mono ?_
  rintro e w1 ⟨rfl, hB⟩
  clear hcall
  have h4 := E.hM w1 hB
  have h5 := E.hD w1 hB
  unfold keyM at h4
  unfold keyD at h5
  clear h1 h2 h3
  obtain ⟨w2, hr2, ho2, hB2⟩ := make_one w1 keyD u keyD_size (by unfold maxLen; omega)
  unfold keyD at hr2
  have l1 : Looks w2 (.map (some w1.heap.size)) keyM ⟨#[]⟩ := looks_of ho2 keyM_size (alone_M _)
  have l2 : Looks w2 (.map (some w1.heap.size)) keyD u := looks_of ho2 keyD_size (alone_D _)
  have c2 := mig_second (some w1.heap.size) ⟨#[]⟩ u w2 empty_text hu l1 l2
  clear l1 l2 ho2
  rcases hset with e1 | ⟨e1, e2⟩
  all_goals
    go_wp2_with fail
    refine c2.mono ?_
    rintro e w3 ⟨rfl, hB3⟩
    clear c2 hr2 h4 h5
    obtain ⟨w4, hr4, ho4, hB4⟩ := make_one w3 keyM u keyM_size (by unfold maxLen; omega)
    have z23 := hB2.size
    have z34 := hB3.size
    have z1 := hB.size
    have B4 : Below w.heap.size w w4 := ((hB.trans (hB2.mono z1)).trans (hB3.mono (by omega))).trans (hB4.mono (by omega))
    obtain ⟨w5, hr5, ho5, hB5⟩ := make_more ho4 (by decide) keyD sD keyD_size (by unfold maxLen; omega)
    have h6 := E.hD w4 B4
    have B5 : Below w.heap.size w w5 := B4.trans (hB5.mono (by omega))
    have l3 : Looks w5 (.map (some w3.heap.size)) keyM u := looks_of ho5 keyM_size (over_M _ _)
    have c3 := mig_first (some w3.heap.size) u w5 hu l3
    clear l3 ho5 ho4 B4 hB5 hB4 hB3 hB2 hB z23 z34 z1
    unfold keyM at hr4
    unfold keyD at hr5 h6
    go_wp2_with fail
    refine c3.mono ?_
    rintro e w6 ⟨rfl, hB6⟩
    clear c3 hr4 hr5 h6
    go_wp2
    go_ret
    exact ⟨by simp, B5.trans (hB6.mono B5.size)⟩

end Go.Proofs.Qxb6604380a
