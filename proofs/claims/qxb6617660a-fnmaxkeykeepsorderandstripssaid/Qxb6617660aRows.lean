/-
  No cell of these rows narrows 'for every input' (looked for: loops, veiled, ifaces, maps, wideKeys, modest, calm, conditions, laid).
  DERIVED. THE GIVEN ROWS OF THIS SEAT. 1 by the template 'for every input the law returns true; each argument reads behind the call as it read before'; 0 by the template 'total and deterministic' (their statements: Qxb6617660aTotals.lean).
  GIVEN WITH THE SEED: the statements are not yours to turn. If you find one false, say at which input.
  Laid BY PROGRAM, IN A SANDBOX (cutbox-rows.mjs): the forced cells as the released guide's own fill.sh prints them over the translation f9e414ccf257e29b… (all of the seat's roots in one cut). By AI agents, Wed Nov 11 2026. No macro, syntax, notation, axiom, sorry.
-/
import Derived.Test.Qxb6617660aChecked
import GoSem.Claim
import GoSem.ClaimJoined
import GoSem.ClaimMapViews
import Derived.JoinedTies
import Derived.KernelRfl
namespace Go.Proofs.Qxb6617660a
/- THE CELL 'sum', in the pinned program and in every row, IS THE sha256 OF THE DUMP (.gsa) THAT Qxb6617660aProg.lean LOADS. Nothing in Lean hashes anything: it is a label: what it is worth is what the hold of that sum in a sandbox is worth. -/
noncomputable def Try.pinned : Pinned := { name := "qxb6617660a", sum := "f9e414ccf257e29b87d4582bd2e4ef570a2501a7b61c8d81fe5a0852d5fd1fd7", checked := Try.checked }
namespace Rows
def none {H : Type} : Left H := { results := [], args := [] }

/-- 'zzlaws_root_b1.FnMaxKeyKeepsOrderAndStrips': WHATEVER THE INPUT: true; the input reads as it did. -/
def fnMaxKeyKeepsOrderAndStripsSpec : ChangeSpec := { name := "fnMaxKeyKeepsOrderAndStrips", fn := fun _ => fun
  | [d1, d2] => { results := [.lit (.bool true)], args := [d1, d2] }
  | _ => none }
def fnMaxKeyKeepsOrderAndStripsRow : OpenClaim := { program := "qxb6617660a", sum := "f9e414ccf257e29b87d4582bd2e4ef570a2501a7b61c8d81fe5a0852d5fd1fd7", func := "example.com/sequence-allocator/sequence-allocator/zzlaws_root_b1.FnMaxKeyKeepsOrderAndStrips", spec := "fnMaxKeyKeepsOrderAndStrips", apart := false }
def FnMaxKeyKeepsOrderAndStripsSaid : Prop := fnMaxKeyKeepsOrderAndStripsRow.holds Try.pinned (OpenSpec.ofChange fnMaxKeyKeepsOrderAndStripsSpec)

/-- ITS FALSE NEIGHBOUR: 'it returns false'. Refute it at one input. -/
def fnMaxKeyKeepsOrderAndStripsWrong : ChangeSpec := { name := "fnMaxKeyKeepsOrderAndStrips", fn := fun _ => fun
  | [d1, d2] => { results := [.lit (.bool false)], args := [d1, d2] }
  | _ => none }
def FnMaxKeyKeepsOrderAndStripsWrongFalsely : Prop := fnMaxKeyKeepsOrderAndStripsRow.holds Try.pinned (OpenSpec.ofChange fnMaxKeyKeepsOrderAndStripsWrong)

end Rows
end Go.Proofs.Qxb6617660a
