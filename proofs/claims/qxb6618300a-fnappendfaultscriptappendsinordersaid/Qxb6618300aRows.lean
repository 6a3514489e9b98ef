/-
  No cell of these rows narrows 'for every input' (looked for: loops, veiled, ifaces, maps, wideKeys, modest, calm, conditions, laid).
  DERIVED. THE GIVEN ROWS OF THIS SEAT. 1 by the template 'for every input the law returns true; each argument reads behind the call as it read before'; 0 by the template 'total and deterministic' (their statements: Qxb6618300aTotals.lean).
  GIVEN WITH THE SEED: the statements are not yours to turn. If you find one false, say at which input.
  Laid BY PROGRAM, IN A SANDBOX (cutbox-rows.mjs): the forced cells as the released guide's own fill.sh prints them over the translation f5606bb8ace7f02e… (all of the seat's roots in one cut). By AI agents, Wed Nov 11 2026. No macro, syntax, notation, axiom, sorry.
-/
import Derived.Test.Qxb6618300aChecked
import GoSem.Claim
import GoSem.ClaimJoined
import GoSem.ClaimMapViews
import Derived.JoinedTies
import Derived.KernelRfl
namespace Go.Proofs.Qxb6618300a
/- THE CELL 'sum', in the pinned program and in every row, IS THE sha256 OF THE DUMP (.gsa) THAT Qxb6618300aProg.lean LOADS. Nothing in Lean hashes anything: it is a label: what it is worth is what the hold of that sum in a sandbox is worth. -/
noncomputable def Try.pinned : Pinned := { name := "qxb6618300a", sum := "f5606bb8ace7f02e2dd67789c447310bcfc5e0ce68e6fafdb5350bc1d958f6d0", checked := Try.checked }
namespace Rows
def none {H : Type} : Left H := { results := [], args := [] }

/-- 'zzlaws_internal_act_b1.FnAppendFaultScriptAppendsInOrder': WHATEVER THE INPUT: true; the input reads as it did. -/
def fnAppendFaultScriptAppendsInOrderSpec : ChangeSpec := { name := "fnAppendFaultScriptAppendsInOrder", fn := fun _ => fun
  | [d1, d2, d3, d4, d5] => { results := [.lit (.bool true)], args := [d1, d2, d3, d4, d5] }
  | _ => none }
def fnAppendFaultScriptAppendsInOrderRow : OpenClaim := { program := "qxb6618300a", sum := "f5606bb8ace7f02e2dd67789c447310bcfc5e0ce68e6fafdb5350bc1d958f6d0", func := "example.com/tagwright/tagwright/zzlaws_internal_act_b1.FnAppendFaultScriptAppendsInOrder", spec := "fnAppendFaultScriptAppendsInOrder", apart := false }
def FnAppendFaultScriptAppendsInOrderSaid : Prop := fnAppendFaultScriptAppendsInOrderRow.holds Try.pinned (OpenSpec.ofChange fnAppendFaultScriptAppendsInOrderSpec)

/-- ITS FALSE NEIGHBOUR: 'it returns false'. Refute it at one input. -/
def fnAppendFaultScriptAppendsInOrderWrong : ChangeSpec := { name := "fnAppendFaultScriptAppendsInOrder", fn := fun _ => fun
  | [d1, d2, d3, d4, d5] => { results := [.lit (.bool false)], args := [d1, d2, d3, d4, d5] }
  | _ => none }
def FnAppendFaultScriptAppendsInOrderWrongFalsely : Prop := fnAppendFaultScriptAppendsInOrderRow.holds Try.pinned (OpenSpec.ofChange fnAppendFaultScriptAppendsInOrderWrong)

end Rows
end Go.Proofs.Qxb6618300a
