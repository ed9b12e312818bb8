/-
  'Rows.FnMigrationURLRoundTripSaid' PROVED. The frame is the guide's shell for a law (proof-skeleton.mjs), turned by hand to a map that came in.
-/
import Derived.Test.Qxb6604380aRows
import Derived.Test.Qxb6604380aLaw
import Derived.WalkKit
import Derived.ProofKit
import Derived.OpenShut
import Derived.ShutString
import Derived.ChangeOld
import Derived.Below
namespace Go.Proofs.Qxb6604380a.fnMigrationURLRoundTrip
open Go.ChangeShapes Go.WideShapes Go.ChangeAt Go.RowKit
open Go.WideElems Go.Maps
set_option linter.unusedVariables false

theorem own : ownKnob Try.prog.godebug = none := by kernel_rfl
theorem laidOut : laidOutB Try.prog = true := by kernel_rfl

theorem look_any {H : Type} {w : World} {b n : Nat} {D : DataW H} (h : w.ownsMap Try.prog 9 (plainElem (H := H) Try.prog 9) b n D) (key : ByteArray) (hk : key.size ≤ maxLen) :
    ∃ s : ByteArray, Looks w (.map (some b)) key s ∧ s.size ≤ maxLen := by
  obtain ⟨v, ps, _, hv⟩ := h.lookup law9 Try.underlying22 (zero9 w) (zd := .lit (.string [])) (zp := []) (plainElem_string Try.underlying9 (by decide)) (Go.WideMaps.keyOf_string_mk Try.underlying9 hk)
  obtain ⟨s, rfl, hz, hs⟩ := plainElem_string_inv Try.underlying9 hv
  simp only [Prod.mk.injEq] at hz
  exact ⟨s, looks_of h hk hz.1, hs⟩

theorem env_owns {H : Type} {w : World} {b n : Nat} {D : DataW H} (h : w.ownsMap Try.prog 9 (plainElem (H := H) Try.prog 9) b n D) : ∃ N sM sD, Env w (some b) N sM sD := by
  obtain ⟨sM, hM, bM⟩ := look_any h keyM keyM_size
  obtain ⟨sD, hD, bD⟩ := look_any h keyD keyD_size
  exact ⟨_, sM, sD, h.len Try.underlying22 3, hM, hD, bM, bD⟩

theorem env_nil (w : World) : Env w none 0 ⟨#[]⟩ ⟨#[]⟩ :=
  ⟨Maps.len_nil Try.underlying22 3, fun wx _ => by simpa using Maps.look_nil (w := wx) false law9 Try.underlying22 (zero9 wx) (Go.WideMaps.keyOf_string_mk Try.underlying9 keyM_size),
    fun wx _ => by simpa using Maps.look_nil (w := wx) false law9 Try.underlying22 (zero9 wx) (Go.WideMaps.keyOf_string_mk Try.underlying9 keyD_size), by decide, by decide⟩

/-! ### STEP 1: THE WALK: the Go text returns true, and writes nothing that was there -/
theorem walk (m : Option Nat) (N : Nat) (sM sD : ByteArray) (w : World) (E : Env w m N sM sD) :
    Calls Try.prog 3 #[.map m] w fun e w' => e = .returned (.bool true) ∧ Below w.heap.size w w' := by
  by_cases h : N ≤ 4096
  · by_cases hw : sM.size + sD.size ≤ 1048576
    · cases eM : sM.toList.isEmpty with
      | true =>
        cases eD : sD.toList.isEmpty with
        | true => exact law_none m N sM sD w E h hw eM eD
        | false => exact law_set m N sM sD sD w E h hw eD (by omega) (.inr ⟨eM, eD⟩) (mig_second m sM sD w eM eD E.hM E.hD)
      | false => exact law_set m N sM sD sM w E h hw eM (by omega) (.inl eM) (mig_first m sM w eM E.hM)
    · exact law_wide m N sM sD w E h (by omega)
  · exact law_many m N sM sD w E (by omega)

/-! ### THE ROW's STEP: WRITTEN OUT: LEAVE IT -/
set_option maxRecDepth 100000 in
theorem lifted (os : Os) (started : os.Started) (H : Type) (enc : TypeId × Value → H) :
    ReturnsInHanded {} Try.checked os 3 .any (Rows.fnMigrationURLRoundTripSpec.pre6 enc Try.prog Try.f3 Rows.fnMigrationURLRoundTripRow.domain false) (Rows.fnMigrationURLRoundTripSpec.post enc Try.prog Try.f3 false true false false) := by
  refine returnsInHanded_of_change (C := Try.checked) own started (by kernel_rfl) Try.func3
    (ChangeSpec.witness6 (enc := enc) (C := Try.checked) false ⟨#[], #[.map none], []⟩ 8 (by kernel_rfl) (by kernel_rfl) (by kernel_rfl) (by kernel_rfl)) ?_
  intro W base args ds gs before hval0 hW hcnd _
  have hval : ∀ (j : Nat) t v, Try.f3.params[j]? = some t → args[j]? = some v → Value.okWide Try.prog W .any base t v := hval0
  have hW' := hW
  obtain ⟨p, q, hA0, hV, rfl, hfz, hnd⟩ := hW
  have hA : DataW.TrodAll enc Try.prog W 0 (fun _ => true) true Try.f3.params.toList args.toList ds p := hA0
  rw [Try.params3] at hA hval
  obtain ⟨v0, vs0, d0, ds0, p0, q0, hargs, rfl, rfl, h0, r0⟩ := trodAll_cons hA
  obtain ⟨rfl, rfl, rfl⟩ := trodAll_nil r0
  obtain rfl : args = #[v0] := by cases args; simp_all
  obtain ⟨rfl, rfl⟩ := trodVars_none hV
  obtain ⟨a0, rfl⟩ := okWide_map Try.underlying22 (hval 0 22 v0 rfl rfl)
  have k0 := h0
  have lt0 : ∀ x ∈ p0, x.block < W.heap.size := by obtain ⟨m, hm⟩ := k0; exact DataW.trod_lt m _ _ _ hm
  obtain ⟨N, sM, sD, E⟩ : ∃ N sM sD, Env W a0 N sM sD := by
    obtain ⟨fuel, hf⟩ := h0
    rcases open_map Try.underlying22 hf with ⟨hcs, _⟩ | ⟨bm, es, clock, n, rfl, hcs, hb, _, F, _⟩
    · simp [Value.cells] at hcs
      subst hcs
      exact ⟨_, _, _, env_nil W⟩
    · simp [Value.cells] at hcs
      subst hcs
      exact env_owns (World.ownsMap_of_fit (R := plainElem Try.prog 9) hb F (fun x _ z hz => elemAt_plainElem_string Try.underlying9 hz))
  clear hA0 hval0
  refine (walk a0 N sM sD W E).mono fun e W' ⟨he, bel⟩ => ?_
  subst he
  exact ⟨_, rfl, _, _, _, [], _, [], hW', trodAll_mk1 (shut_bool Try.underlying4 _), (trodAll_cons_mk (Below.trod laidOut (by kernel_rfl) (of_decide_eq_true (by kernel_rfl)) k0 bel lt0) trodAll_mk0), rfl, bel.frame _, fun h => by cases h⟩

theorem over : Rows.fnMigrationURLRoundTripRow.holds Try.pinned (OpenSpec.ofChange Rows.fnMigrationURLRoundTripSpec) :=
  OpenClaim.holds_of_wide 3 Try.f3 rfl rfl rfl rfl rfl rfl rfl ⟨rfl, rfl, rfl, rfl, rfl⟩ rfl rfl rfl rfl rfl (by kernel_rfl) Try.func3 (by kernel_rfl)
    (of_decide_eq_true (by kernel_rfl)) (by unfold Func.isWrapper; first | (rw [if_pos (by decide +kernel)]; kernel_rfl) | (rw [if_neg (by decide +kernel)]; exact ⟨rfl, rfl⟩))
    (fun os started H enc _ => lifted os started H enc)

/-- ████ THE STATEMENT ████ -/
theorem proved : Rows.FnMigrationURLRoundTripSaid := over
#print axioms proved
end Go.Proofs.Qxb6604380a.fnMigrationURLRoundTrip
