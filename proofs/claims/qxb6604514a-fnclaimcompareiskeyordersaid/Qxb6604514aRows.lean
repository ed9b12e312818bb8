/-
  No cell of these rows narrows 'for every input' (looked for: loops, veiled, ifaces, maps, wideKeys, modest, calm, conditions, laid).
  DERIVED. THE GIVEN ROWS OF THIS SEAT. 7 by the template 'for every input the law returns true; each argument reads behind the call as it read before'; 0 by the template 'total and deterministic' (their statements: Qxb6604514aTotals.lean).
  GIVEN WITH THE SEED: the statements are not yours to turn. If you find one false, say at which input.
  Laid BY PROGRAM, IN A SANDBOX (cutbox-rows.mjs): the forced cells as the released guide's own fill.sh prints them over the translation 415789176b49f014… (all of the seat's roots in one cut). By AI agents, Wed Nov 11 2026. No macro, syntax, notation, axiom, sorry.
-/
import Derived.Test.Qxb6604514aChecked
import GoSem.Claim
import GoSem.ClaimJoined
import GoSem.ClaimMapViews
import Derived.JoinedTies
import Derived.KernelRfl
namespace Go.Proofs.Qxb6604514a
/- THE CELL 'sum', in the pinned program and in every row, IS THE sha256 OF THE DUMP (.gsa) THAT Qxb6604514aProg.lean LOADS. Nothing in Lean hashes anything: it is a label: what it is worth is what the hold of that sum in a sandbox is worth. -/
noncomputable def Try.pinned : Pinned := { name := "qxb6604514a", sum := "415789176b49f0142e8605fb9e8593f1f13ba91ba196b988d1b19b2af31fdc07", checked := Try.checked }
namespace Rows
def none {H : Type} : Left H := { results := [], args := [] }

/-- 'zzlaws_root_b1.FnSupersededSymmetricBetweenTwoRuns': WHATEVER THE INPUT: true; the input reads as it did. -/
def fnSupersededSymmetricBetweenTwoRunsSpec : ChangeSpec := { name := "fnSupersededSymmetricBetweenTwoRuns", fn := fun _ => fun
  | [d1, d2, d3] => { results := [.lit (.bool true)], args := [d1, d2, d3] }
  | _ => none }
def fnSupersededSymmetricBetweenTwoRunsRow : OpenClaim := { program := "qxb6604514a", sum := "415789176b49f0142e8605fb9e8593f1f13ba91ba196b988d1b19b2af31fdc07", func := "example.com/stentor/stentor/zzlaws_root_b1.FnSupersededSymmetricBetweenTwoRuns", spec := "fnSupersededSymmetricBetweenTwoRuns", plainKeys := false, apart := false }
def FnSupersededSymmetricBetweenTwoRunsSaid : Prop := fnSupersededSymmetricBetweenTwoRunsRow.holds Try.pinned (OpenSpec.ofChange fnSupersededSymmetricBetweenTwoRunsSpec)

/-- ITS FALSE NEIGHBOUR: 'it returns false'. Refute it at one input. -/
def fnSupersededSymmetricBetweenTwoRunsWrong : ChangeSpec := { name := "fnSupersededSymmetricBetweenTwoRuns", fn := fun _ => fun
  | [d1, d2, d3] => { results := [.lit (.bool false)], args := [d1, d2, d3] }
  | _ => none }
def FnSupersededSymmetricBetweenTwoRunsWrongFalsely : Prop := fnSupersededSymmetricBetweenTwoRunsRow.holds Try.pinned (OpenSpec.ofChange fnSupersededSymmetricBetweenTwoRunsWrong)

/-- 'zzlaws_root_b1.FnClaimCompareIsKeyOrder': WHATEVER THE INPUT: true; the input reads as it did. -/
def fnClaimCompareIsKeyOrderSpec : ChangeSpec := { name := "fnClaimCompareIsKeyOrder", fn := fun _ => fun
  | [d1, d2, d3, d4] => { results := [.lit (.bool true)], args := [d1, d2, d3, d4] }
  | _ => none }
def fnClaimCompareIsKeyOrderRow : OpenClaim := { program := "qxb6604514a", sum := "415789176b49f0142e8605fb9e8593f1f13ba91ba196b988d1b19b2af31fdc07", func := "example.com/stentor/stentor/zzlaws_root_b1.FnClaimCompareIsKeyOrder", spec := "fnClaimCompareIsKeyOrder", plainKeys := false, apart := false }
def FnClaimCompareIsKeyOrderSaid : Prop := fnClaimCompareIsKeyOrderRow.holds Try.pinned (OpenSpec.ofChange fnClaimCompareIsKeyOrderSpec)

/-- ITS FALSE NEIGHBOUR: 'it returns false'. Refute it at one input. -/
def fnClaimCompareIsKeyOrderWrong : ChangeSpec := { name := "fnClaimCompareIsKeyOrder", fn := fun _ => fun
  | [d1, d2, d3, d4] => { results := [.lit (.bool false)], args := [d1, d2, d3, d4] }
  | _ => none }
def FnClaimCompareIsKeyOrderWrongFalsely : Prop := fnClaimCompareIsKeyOrderRow.holds Try.pinned (OpenSpec.ofChange fnClaimCompareIsKeyOrderWrong)

/-- 'zzlaws_root_b1.FnClaimCompareAntisymmetricAndExact': WHATEVER THE INPUT: true; the input reads as it did. -/
def fnClaimCompareAntisymmetricAndExactSpec : ChangeSpec := { name := "fnClaimCompareAntisymmetricAndExact", fn := fun _ => fun
  | [d1, d2, d3, d4] => { results := [.lit (.bool true)], args := [d1, d2, d3, d4] }
  | _ => none }
def fnClaimCompareAntisymmetricAndExactRow : OpenClaim := { program := "qxb6604514a", sum := "415789176b49f0142e8605fb9e8593f1f13ba91ba196b988d1b19b2af31fdc07", func := "example.com/stentor/stentor/zzlaws_root_b1.FnClaimCompareAntisymmetricAndExact", spec := "fnClaimCompareAntisymmetricAndExact", plainKeys := false, apart := false }
def FnClaimCompareAntisymmetricAndExactSaid : Prop := fnClaimCompareAntisymmetricAndExactRow.holds Try.pinned (OpenSpec.ofChange fnClaimCompareAntisymmetricAndExactSpec)

/-- ITS FALSE NEIGHBOUR: 'it returns false'. Refute it at one input. -/
def fnClaimCompareAntisymmetricAndExactWrong : ChangeSpec := { name := "fnClaimCompareAntisymmetricAndExact", fn := fun _ => fun
  | [d1, d2, d3, d4] => { results := [.lit (.bool false)], args := [d1, d2, d3, d4] }
  | _ => none }
def FnClaimCompareAntisymmetricAndExactWrongFalsely : Prop := fnClaimCompareAntisymmetricAndExactRow.holds Try.pinned (OpenSpec.ofChange fnClaimCompareAntisymmetricAndExactWrong)

/-- 'zzlaws_root_b1.FnEncodeMessageDecodesToItsFields': WHATEVER THE INPUT: true; the input reads as it did. -/
def fnEncodeMessageDecodesToItsFieldsSpec : ChangeSpec := { name := "fnEncodeMessageDecodesToItsFields", fn := fun _ => fun
  | [d1, d2, d3, d4] => { results := [.lit (.bool true)], args := [d1, d2, d3, d4] }
  | _ => none }
def fnEncodeMessageDecodesToItsFieldsRow : OpenClaim := { program := "qxb6604514a", sum := "415789176b49f0142e8605fb9e8593f1f13ba91ba196b988d1b19b2af31fdc07", func := "example.com/stentor/stentor/zzlaws_root_b1.FnEncodeMessageDecodesToItsFields", spec := "fnEncodeMessageDecodesToItsFields", plainKeys := false, apart := false }
def FnEncodeMessageDecodesToItsFieldsSaid : Prop := fnEncodeMessageDecodesToItsFieldsRow.holds Try.pinned (OpenSpec.ofChange fnEncodeMessageDecodesToItsFieldsSpec)

/-- ITS FALSE NEIGHBOUR: 'it returns false'. Refute it at one input. -/
def fnEncodeMessageDecodesToItsFieldsWrong : ChangeSpec := { name := "fnEncodeMessageDecodesToItsFields", fn := fun _ => fun
  | [d1, d2, d3, d4] => { results := [.lit (.bool false)], args := [d1, d2, d3, d4] }
  | _ => none }
def FnEncodeMessageDecodesToItsFieldsWrongFalsely : Prop := fnEncodeMessageDecodesToItsFieldsRow.holds Try.pinned (OpenSpec.ofChange fnEncodeMessageDecodesToItsFieldsWrong)

/-- 'zzlaws_root_b1.FnEncodeMessageIsHeaderThenData': WHATEVER THE INPUT: true; the input reads as it did. -/
def fnEncodeMessageIsHeaderThenDataSpec : ChangeSpec := { name := "fnEncodeMessageIsHeaderThenData", fn := fun _ => fun
  | [d1, d2, d3, d4] => { results := [.lit (.bool true)], args := [d1, d2, d3, d4] }
  | _ => none }
def fnEncodeMessageIsHeaderThenDataRow : OpenClaim := { program := "qxb6604514a", sum := "415789176b49f0142e8605fb9e8593f1f13ba91ba196b988d1b19b2af31fdc07", func := "example.com/stentor/stentor/zzlaws_root_b1.FnEncodeMessageIsHeaderThenData", spec := "fnEncodeMessageIsHeaderThenData", plainKeys := false, apart := false }
def FnEncodeMessageIsHeaderThenDataSaid : Prop := fnEncodeMessageIsHeaderThenDataRow.holds Try.pinned (OpenSpec.ofChange fnEncodeMessageIsHeaderThenDataSpec)

/-- ITS FALSE NEIGHBOUR: 'it returns false'. Refute it at one input. -/
def fnEncodeMessageIsHeaderThenDataWrong : ChangeSpec := { name := "fnEncodeMessageIsHeaderThenData", fn := fun _ => fun
  | [d1, d2, d3, d4] => { results := [.lit (.bool false)], args := [d1, d2, d3, d4] }
  | _ => none }
def FnEncodeMessageIsHeaderThenDataWrongFalsely : Prop := fnEncodeMessageIsHeaderThenDataRow.holds Try.pinned (OpenSpec.ofChange fnEncodeMessageIsHeaderThenDataWrong)

/-- 'zzlaws_root_b1.FnRunWordDecodesToKindRunAndStanding': WHATEVER THE INPUT: true; the input reads as it did. -/
def fnRunWordDecodesToKindRunAndStandingSpec : ChangeSpec := { name := "fnRunWordDecodesToKindRunAndStanding", fn := fun _ => fun
  | [d1, d2, d3, d4, d5, d6] => { results := [.lit (.bool true)], args := [d1, d2, d3, d4, d5, d6] }
  | _ => none }
def fnRunWordDecodesToKindRunAndStandingRow : OpenClaim := { program := "qxb6604514a", sum := "415789176b49f0142e8605fb9e8593f1f13ba91ba196b988d1b19b2af31fdc07", func := "example.com/stentor/stentor/zzlaws_root_b1.FnRunWordDecodesToKindRunAndStanding", spec := "fnRunWordDecodesToKindRunAndStanding", plainKeys := false, apart := false }
def FnRunWordDecodesToKindRunAndStandingSaid : Prop := fnRunWordDecodesToKindRunAndStandingRow.holds Try.pinned (OpenSpec.ofChange fnRunWordDecodesToKindRunAndStandingSpec)

/-- ITS FALSE NEIGHBOUR: 'it returns false'. Refute it at one input. -/
def fnRunWordDecodesToKindRunAndStandingWrong : ChangeSpec := { name := "fnRunWordDecodesToKindRunAndStanding", fn := fun _ => fun
  | [d1, d2, d3, d4, d5, d6] => { results := [.lit (.bool false)], args := [d1, d2, d3, d4, d5, d6] }
  | _ => none }
def FnRunWordDecodesToKindRunAndStandingWrongFalsely : Prop := fnRunWordDecodesToKindRunAndStandingRow.holds Try.pinned (OpenSpec.ofChange fnRunWordDecodesToKindRunAndStandingWrong)

/-- 'zzlaws_root_b1.FnRunWordIsInjective': WHATEVER THE INPUT: true; the input reads as it did. -/
def fnRunWordIsInjectiveSpec : ChangeSpec := { name := "fnRunWordIsInjective", fn := fun _ => fun
  | [d1, d2, d3, d4, d5, d6, d7, d8, d9, d10, d11, d12] => { results := [.lit (.bool true)], args := [d1, d2, d3, d4, d5, d6, d7, d8, d9, d10, d11, d12] }
  | _ => none }
def fnRunWordIsInjectiveRow : OpenClaim := { program := "qxb6604514a", sum := "415789176b49f0142e8605fb9e8593f1f13ba91ba196b988d1b19b2af31fdc07", func := "example.com/stentor/stentor/zzlaws_root_b1.FnRunWordIsInjective", spec := "fnRunWordIsInjective", plainKeys := false, apart := false }
def FnRunWordIsInjectiveSaid : Prop := fnRunWordIsInjectiveRow.holds Try.pinned (OpenSpec.ofChange fnRunWordIsInjectiveSpec)

/-- ITS FALSE NEIGHBOUR: 'it returns false'. Refute it at one input. -/
def fnRunWordIsInjectiveWrong : ChangeSpec := { name := "fnRunWordIsInjective", fn := fun _ => fun
  | [d1, d2, d3, d4, d5, d6, d7, d8, d9, d10, d11, d12] => { results := [.lit (.bool false)], args := [d1, d2, d3, d4, d5, d6, d7, d8, d9, d10, d11, d12] }
  | _ => none }
def FnRunWordIsInjectiveWrongFalsely : Prop := fnRunWordIsInjectiveRow.holds Try.pinned (OpenSpec.ofChange fnRunWordIsInjectiveWrong)

end Rows
end Go.Proofs.Qxb6604514a
