/-
  No cell of these rows narrows 'for every input' (looked for: loops, veiled, ifaces, maps, wideKeys, modest, calm, conditions, laid).
  DERIVED. THE GIVEN ROWS OF THIS SEAT. 4 by the template 'for every input the law returns true; each argument reads behind the call as it read before'; 0 by the template 'total and deterministic' (their statements: Qxb6603802aTotals.lean).
  GIVEN WITH THE SEED: the statements are not yours to turn. If you find one false, say at which input.
  Laid BY PROGRAM, IN A SANDBOX (cutbox-rows.mjs): the forced cells as the released guide's own fill.sh prints them over the translation a2c375a2dbffe7be… (all of the seat's roots in one cut). By AI agents, Wed Nov 11 2026. No macro, syntax, notation, axiom, sorry.
-/
import Derived.Test.Qxb6603802aChecked
import GoSem.Claim
import GoSem.ClaimJoined
import GoSem.ClaimMapViews
import Derived.JoinedTies
import Derived.KernelRfl
namespace Go.Proofs.Qxb6603802a
/- THE CELL 'sum', in the pinned program and in every row, IS THE sha256 OF THE DUMP (.gsa) THAT Qxb6603802aProg.lean LOADS. Nothing in Lean hashes anything: it is a label: what it is worth is what the hold of that sum in a sandbox is worth. -/
noncomputable def Try.pinned : Pinned := { name := "qxb6603802a", sum := "a2c375a2dbffe7bed13a632cceb391e758b2d4b0c8a7316f284984ccf349a429", checked := Try.checked }
namespace Rows
def none {H : Type} : Left H := { results := [], args := [] }

/-- 'zzlaws_internal_jsonobject_b1.FnMemberCountMatchesParser': WHATEVER THE INPUT: true; the input reads as it did. -/
def fnMemberCountMatchesParserSpec : ChangeSpec := { name := "fnMemberCountMatchesParser", fn := fun _ => fun
  | [d] => { results := [.lit (.bool true)], args := [d] }
  | _ => none }
def fnMemberCountMatchesParserRow : OpenClaim := { program := "qxb6603802a", sum := "a2c375a2dbffe7bed13a632cceb391e758b2d4b0c8a7316f284984ccf349a429", func := "example.com/nearfield/nearfield/zzlaws_internal_jsonobject_b1.FnMemberCountMatchesParser", spec := "fnMemberCountMatchesParser", recurses := true, apart := false }
def FnMemberCountMatchesParserSaid : Prop := fnMemberCountMatchesParserRow.holds Try.pinned (OpenSpec.ofChange fnMemberCountMatchesParserSpec)

/-- ITS FALSE NEIGHBOUR: 'it returns false'. Refute it at one input. -/
def fnMemberCountMatchesParserWrong : ChangeSpec := { name := "fnMemberCountMatchesParser", fn := fun _ => fun
  | [d] => { results := [.lit (.bool false)], args := [d] }
  | _ => none }
def FnMemberCountMatchesParserWrongFalsely : Prop := fnMemberCountMatchesParserRow.holds Try.pinned (OpenSpec.ofChange fnMemberCountMatchesParserWrong)

/-- 'zzlaws_internal_jsonobject_b1.FnMemberCountIgnoresNestedMembers': WHATEVER THE INPUT: true; the input reads as it did. -/
def fnMemberCountIgnoresNestedMembersSpec : ChangeSpec := { name := "fnMemberCountIgnoresNestedMembers", fn := fun _ => fun
  | [d] => { results := [.lit (.bool true)], args := [d] }
  | _ => none }
def fnMemberCountIgnoresNestedMembersRow : OpenClaim := { program := "qxb6603802a", sum := "a2c375a2dbffe7bed13a632cceb391e758b2d4b0c8a7316f284984ccf349a429", func := "example.com/nearfield/nearfield/zzlaws_internal_jsonobject_b1.FnMemberCountIgnoresNestedMembers", spec := "fnMemberCountIgnoresNestedMembers", recurses := true, apart := false }
def FnMemberCountIgnoresNestedMembersSaid : Prop := fnMemberCountIgnoresNestedMembersRow.holds Try.pinned (OpenSpec.ofChange fnMemberCountIgnoresNestedMembersSpec)

/-- ITS FALSE NEIGHBOUR: 'it returns false'. Refute it at one input. -/
def fnMemberCountIgnoresNestedMembersWrong : ChangeSpec := { name := "fnMemberCountIgnoresNestedMembers", fn := fun _ => fun
  | [d] => { results := [.lit (.bool false)], args := [d] }
  | _ => none }
def FnMemberCountIgnoresNestedMembersWrongFalsely : Prop := fnMemberCountIgnoresNestedMembersRow.holds Try.pinned (OpenSpec.ofChange fnMemberCountIgnoresNestedMembersWrong)

/-- 'zzlaws_internal_jsonobject_b1.FnGivenKindsStayApart': WHATEVER THE INPUT: true; the input reads as it did. -/
def fnGivenKindsStayApartSpec : ChangeSpec := { name := "fnGivenKindsStayApart", fn := fun _ => fun
  | [d1, d2] => { results := [.lit (.bool true)], args := [d1, d2] }
  | _ => none }
def fnGivenKindsStayApartRow : OpenClaim := { program := "qxb6603802a", sum := "a2c375a2dbffe7bed13a632cceb391e758b2d4b0c8a7316f284984ccf349a429", func := "example.com/nearfield/nearfield/zzlaws_internal_jsonobject_b1.FnGivenKindsStayApart", spec := "fnGivenKindsStayApart", apart := false }
def FnGivenKindsStayApartSaid : Prop := fnGivenKindsStayApartRow.holds Try.pinned (OpenSpec.ofChange fnGivenKindsStayApartSpec)

/-- ITS FALSE NEIGHBOUR: 'it returns false'. Refute it at one input. -/
def fnGivenKindsStayApartWrong : ChangeSpec := { name := "fnGivenKindsStayApart", fn := fun _ => fun
  | [d1, d2] => { results := [.lit (.bool false)], args := [d1, d2] }
  | _ => none }
def FnGivenKindsStayApartWrongFalsely : Prop := fnGivenKindsStayApartRow.holds Try.pinned (OpenSpec.ofChange fnGivenKindsStayApartWrong)

/-- 'zzlaws_internal_jsonobject_b1.FnGivenKindPhraseLonger': WHATEVER THE INPUT: true; the input reads as it did. -/
def fnGivenKindPhraseLongerSpec : ChangeSpec := { name := "fnGivenKindPhraseLonger", fn := fun _ => fun
  | [d] => { results := [.lit (.bool true)], args := [d] }
  | _ => none }
def fnGivenKindPhraseLongerRow : OpenClaim := { program := "qxb6603802a", sum := "a2c375a2dbffe7bed13a632cceb391e758b2d4b0c8a7316f284984ccf349a429", func := "example.com/nearfield/nearfield/zzlaws_internal_jsonobject_b1.FnGivenKindPhraseLonger", spec := "fnGivenKindPhraseLonger", apart := false }
def FnGivenKindPhraseLongerSaid : Prop := fnGivenKindPhraseLongerRow.holds Try.pinned (OpenSpec.ofChange fnGivenKindPhraseLongerSpec)

/-- ITS FALSE NEIGHBOUR: 'it returns false'. Refute it at one input. -/
def fnGivenKindPhraseLongerWrong : ChangeSpec := { name := "fnGivenKindPhraseLonger", fn := fun _ => fun
  | [d] => { results := [.lit (.bool false)], args := [d] }
  | _ => none }
def FnGivenKindPhraseLongerWrongFalsely : Prop := fnGivenKindPhraseLongerRow.holds Try.pinned (OpenSpec.ofChange fnGivenKindPhraseLongerWrong)

end Rows
end Go.Proofs.Qxb6603802a
