/-
  NARROWER THAN 'FOR EVERY INPUT', by the rows' own cells (each row's printed sentence says how): FnMigrationURLRoundTrip: maps.
  DERIVED. THE GIVEN ROWS OF THIS SEAT. 1 by the template 'for every input the law returns true; each argument reads behind the call as it read before'; 0 by the template 'total and deterministic' (their statements: Qxb6604380aTotals.lean).
  GIVEN WITH THE SEED: the statements are not yours to turn. If you find one false, say at which input.
  Laid BY PROGRAM, IN A SANDBOX (cutbox-rows.mjs): the forced cells as the released guide's own fill.sh prints them over the translation c0d9cc27d28ac143… (all of the seat's roots in one cut). By AI agents, Wed Nov 11 2026. No macro, syntax, notation, axiom, sorry.
-/
import Derived.Test.Qxb6604380aChecked
import GoSem.Claim
import GoSem.ClaimJoined
import GoSem.ClaimMapViews
import Derived.JoinedTies
import Derived.KernelRfl
namespace Go.Proofs.Qxb6604380a
/- THE CELL 'sum', in the pinned program and in every row, IS THE sha256 OF THE DUMP (.gsa) THAT Qxb6604380aProg.lean LOADS. Nothing in Lean hashes anything: it is a label: what it is worth is what the hold of that sum in a sandbox is worth. -/
noncomputable def Try.pinned : Pinned := { name := "qxb6604380a", sum := "c0d9cc27d28ac143745203147def3db1c859fe4a3a0d624af783d5929692eabb", checked := Try.checked }
namespace Rows
def none {H : Type} : Left H := { results := [], args := [] }

/-- 'zzlaws_pkg_database_b1.FnMigrationURLRoundTrip': WHATEVER THE INPUT: true; the input reads as it did. -/
def fnMigrationURLRoundTripSpec : ChangeSpec := { name := "fnMigrationURLRoundTrip", fn := fun _ => fun
  | [d] => { results := [.lit (.bool true)], args := [d] }
  | _ => none }
def fnMigrationURLRoundTripRow : OpenClaim := { program := "qxb6604380a", sum := "c0d9cc27d28ac143745203147def3db1c859fe4a3a0d624af783d5929692eabb", func := "example.com/tenancy/tenancy/zzlaws_pkg_database_b1.FnMigrationURLRoundTrip", spec := "fnMigrationURLRoundTrip", unfollowed := true, recurses := true, maps := true, apart := false }
def FnMigrationURLRoundTripSaid : Prop := fnMigrationURLRoundTripRow.holds Try.pinned (OpenSpec.ofChange fnMigrationURLRoundTripSpec)

/-- ITS FALSE NEIGHBOUR: 'it returns false'. Refute it at one input. -/
def fnMigrationURLRoundTripWrong : ChangeSpec := { name := "fnMigrationURLRoundTrip", fn := fun _ => fun
  | [d] => { results := [.lit (.bool false)], args := [d] }
  | _ => none }
def FnMigrationURLRoundTripWrongFalsely : Prop := fnMigrationURLRoundTripRow.holds Try.pinned (OpenSpec.ofChange fnMigrationURLRoundTripWrong)

end Rows
end Go.Proofs.Qxb6604380a
