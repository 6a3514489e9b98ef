/-
  No cell of these rows narrows 'for every input' (looked for: loops, veiled, ifaces, maps, wideKeys, modest, calm, conditions, laid).
  DERIVED. THE GIVEN ROWS OF THIS SEAT. 2 by the template 'for every input the law returns true; each argument reads behind the call as it read before'; 0 by the template 'total and deterministic' (their statements: Qxb6616397aTotals.lean).
  GIVEN WITH THE SEED: the statements are not yours to turn. If you find one false, say at which input.
  Laid BY PROGRAM, IN A SANDBOX (cutbox-rows.mjs): the forced cells as the released guide's own fill.sh prints them over the translation db94b18bdf40c452… (all of the seat's roots in one cut). By AI agents, Wed Nov 11 2026. No macro, syntax, notation, axiom, sorry.
-/
import Derived.Test.Qxb6616397aChecked
import GoSem.Claim
import GoSem.ClaimJoined
import GoSem.ClaimMapViews
import Derived.JoinedTies
import Derived.KernelRfl
namespace Go.Proofs.Qxb6616397a
/- THE CELL 'sum', in the pinned program and in every row, IS THE sha256 OF THE DUMP (.gsa) THAT Qxb6616397aProg.lean LOADS. Nothing in Lean hashes anything: it is a label: what it is worth is what the hold of that sum in a sandbox is worth. -/
noncomputable def Try.pinned : Pinned := { name := "qxb6616397a", sum := "db94b18bdf40c45252cda715791ab5101fd138965aa3cf037a25cb843a016ec7", checked := Try.checked }
namespace Rows
def none {H : Type} : Left H := { results := [], args := [] }

/-- 'zzlaws_internal_pkgdb_b1.FnPkginfoPathAgreesWithMarkPath': WHATEVER THE INPUT: true; the input reads as it did. -/
def fnPkginfoPathAgreesWithMarkPathSpec : ChangeSpec := { name := "fnPkginfoPathAgreesWithMarkPath", fn := fun _ => fun
  | [d] => { results := [.lit (.bool true)], args := [d] }
  | _ => none }
def fnPkginfoPathAgreesWithMarkPathRow : OpenClaim := { program := "qxb6616397a", sum := "db94b18bdf40c45252cda715791ab5101fd138965aa3cf037a25cb843a016ec7", func := "example.com/protopack/protopack/zzlaws_internal_pkgdb_b1.FnPkginfoPathAgreesWithMarkPath", spec := "fnPkginfoPathAgreesWithMarkPath", apart := false }
def FnPkginfoPathAgreesWithMarkPathSaid : Prop := fnPkginfoPathAgreesWithMarkPathRow.holds Try.pinned (OpenSpec.ofChange fnPkginfoPathAgreesWithMarkPathSpec)

/-- ITS FALSE NEIGHBOUR: 'it returns false'. Refute it at one input. -/
def fnPkginfoPathAgreesWithMarkPathWrong : ChangeSpec := { name := "fnPkginfoPathAgreesWithMarkPath", fn := fun _ => fun
  | [d] => { results := [.lit (.bool false)], args := [d] }
  | _ => none }
def FnPkginfoPathAgreesWithMarkPathWrongFalsely : Prop := fnPkginfoPathAgreesWithMarkPathRow.holds Try.pinned (OpenSpec.ofChange fnPkginfoPathAgreesWithMarkPathWrong)

/-- 'zzlaws_internal_pkgdb_b1.FnPkginfoPathCleanRoundTrip': WHATEVER THE INPUT: true; the input reads as it did. -/
def fnPkginfoPathCleanRoundTripSpec : ChangeSpec := { name := "fnPkginfoPathCleanRoundTrip", fn := fun _ => fun
  | [d] => { results := [.lit (.bool true)], args := [d] }
  | _ => none }
def fnPkginfoPathCleanRoundTripRow : OpenClaim := { program := "qxb6616397a", sum := "db94b18bdf40c45252cda715791ab5101fd138965aa3cf037a25cb843a016ec7", func := "example.com/protopack/protopack/zzlaws_internal_pkgdb_b1.FnPkginfoPathCleanRoundTrip", spec := "fnPkginfoPathCleanRoundTrip", apart := false }
def FnPkginfoPathCleanRoundTripSaid : Prop := fnPkginfoPathCleanRoundTripRow.holds Try.pinned (OpenSpec.ofChange fnPkginfoPathCleanRoundTripSpec)

/-- ITS FALSE NEIGHBOUR: 'it returns false'. Refute it at one input. -/
def fnPkginfoPathCleanRoundTripWrong : ChangeSpec := { name := "fnPkginfoPathCleanRoundTrip", fn := fun _ => fun
  | [d] => { results := [.lit (.bool false)], args := [d] }
  | _ => none }
def FnPkginfoPathCleanRoundTripWrongFalsely : Prop := fnPkginfoPathCleanRoundTripRow.holds Try.pinned (OpenSpec.ofChange fnPkginfoPathCleanRoundTripWrong)

end Rows
end Go.Proofs.Qxb6616397a
