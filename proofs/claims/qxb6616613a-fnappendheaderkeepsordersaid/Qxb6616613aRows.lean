/-
  No cell of these rows narrows 'for every input' (looked for: loops, veiled, ifaces, maps, wideKeys, modest, calm, conditions, laid).
  DERIVED. THE GIVEN ROWS OF THIS SEAT. 1 by the template 'for every input the law returns true; each argument reads behind the call as it read before'; 0 by the template 'total and deterministic' (their statements: Qxb6616613aTotals.lean).
  GIVEN WITH THE SEED: the statements are not yours to turn. If you find one false, say at which input.
  Laid BY PROGRAM, IN A SANDBOX (cutbox-rows.mjs): the forced cells as the released guide's own fill.sh prints them over the translation bc1a079a61fb6896… (all of the seat's roots in one cut). By AI agents, Wed Nov 11 2026. No macro, syntax, notation, axiom, sorry.
-/
import Derived.Test.Qxb6616613aChecked
import GoSem.Claim
import GoSem.ClaimJoined
import GoSem.ClaimMapViews
import Derived.JoinedTies
import Derived.KernelRfl
namespace Go.Proofs.Qxb6616613a
/- THE CELL 'sum', in the pinned program and in every row, IS THE sha256 OF THE DUMP (.gsa) THAT Qxb6616613aProg.lean LOADS. Nothing in Lean hashes anything: it is a label: what it is worth is what the hold of that sum in a sandbox is worth. -/
noncomputable def Try.pinned : Pinned := { name := "qxb6616613a", sum := "bc1a079a61fb6896441a77b302f7ce47bdafd31eb0abf02200eb0c1074ae06e3", checked := Try.checked }
namespace Rows
def none {H : Type} : Left H := { results := [], args := [] }

/-- 'zzlaws_internal_tlv_b1.FnAppendHeaderKeepsOrder': WHATEVER THE INPUT: true; the input reads as it did. -/
def fnAppendHeaderKeepsOrderSpec : ChangeSpec := { name := "fnAppendHeaderKeepsOrder", fn := fun _ => fun
  | [d1, d2, d3, d4] => { results := [.lit (.bool true)], args := [d1, d2, d3, d4] }
  | _ => none }
def fnAppendHeaderKeepsOrderRow : OpenClaim := { program := "qxb6616613a", sum := "bc1a079a61fb6896441a77b302f7ce47bdafd31eb0abf02200eb0c1074ae06e3", func := "example.com/tallymesh/tallymesh/zzlaws_internal_tlv_b1.FnAppendHeaderKeepsOrder", spec := "fnAppendHeaderKeepsOrder", named := ["encoding/binary.BigEndian"], apart := false }
def FnAppendHeaderKeepsOrderSaid : Prop := fnAppendHeaderKeepsOrderRow.holds Try.pinned (OpenSpec.ofChange fnAppendHeaderKeepsOrderSpec)

/-- ITS FALSE NEIGHBOUR: 'it returns false'. Refute it at one input. -/
def fnAppendHeaderKeepsOrderWrong : ChangeSpec := { name := "fnAppendHeaderKeepsOrder", fn := fun _ => fun
  | [d1, d2, d3, d4] => { results := [.lit (.bool false)], args := [d1, d2, d3, d4] }
  | _ => none }
def FnAppendHeaderKeepsOrderWrongFalsely : Prop := fnAppendHeaderKeepsOrderRow.holds Try.pinned (OpenSpec.ofChange fnAppendHeaderKeepsOrderWrong)

end Rows
end Go.Proofs.Qxb6616613a
