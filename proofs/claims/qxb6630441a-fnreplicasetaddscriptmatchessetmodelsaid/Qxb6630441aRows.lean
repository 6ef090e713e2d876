/-
  No cell of these rows narrows 'for every input' (looked for: loops, veiled, ifaces, maps, wideKeys, modest, calm, conditions, laid).
  DERIVED. THE GIVEN ROWS OF THIS SEAT. 2 by the template 'for every input the law returns true; each argument reads behind the call as it read before'; 0 by the template 'total and deterministic' (their statements: Qxb6630441aTotals.lean).
  GIVEN WITH THE SEED: the statements are not yours to turn. If you find one false, say at which input.
  Laid BY PROGRAM, IN A SANDBOX (cutbox-rows.mjs): the forced cells as the released guide's own fill.sh prints them over the translation bfccc14e5c57246c… (all of the seat's roots in one cut). By AI agents, Wed Nov 11 2026. No macro, syntax, notation, axiom, sorry.
-/
import Derived.Test.Qxb6630441aChecked
import GoSem.Claim
import GoSem.ClaimJoined
import GoSem.ClaimMapViews
import Derived.JoinedTies
import Derived.KernelRfl
namespace Go.Proofs.Qxb6630441a
/- THE CELL 'sum', in the pinned program and in every row, IS THE sha256 OF THE DUMP (.gsa) THAT Qxb6630441aProg.lean LOADS. Nothing in Lean hashes anything: it is a label: what it is worth is what the hold of that sum in a sandbox is worth. -/
noncomputable def Try.pinned : Pinned := { name := "qxb6630441a", sum := "bfccc14e5c57246ce28f903c93447326f3143dd1789b18e365a056f7f1ffcd6b", checked := Try.checked }
namespace Rows
def none {H : Type} : Left H := { results := [], args := [] }

/-- 'zzlaws_internal_register_b1.FnReplicaSetAddScriptMatchesSetModel': WHATEVER THE INPUT: true; the input reads as it did. -/
def fnReplicaSetAddScriptMatchesSetModelSpec : ChangeSpec := { name := "fnReplicaSetAddScriptMatchesSetModel", fn := fun _ => fun
  | [d1, d2, d3] => { results := [.lit (.bool true)], args := [d1, d2, d3] }
  | _ => none }
def fnReplicaSetAddScriptMatchesSetModelRow : OpenClaim := { program := "qxb6630441a", sum := "bfccc14e5c57246ce28f903c93447326f3143dd1789b18e365a056f7f1ffcd6b", func := "example.com/quorant/quorant/zzlaws_internal_register_b1.FnReplicaSetAddScriptMatchesSetModel", spec := "fnReplicaSetAddScriptMatchesSetModel", apart := false }
def FnReplicaSetAddScriptMatchesSetModelSaid : Prop := fnReplicaSetAddScriptMatchesSetModelRow.holds Try.pinned (OpenSpec.ofChange fnReplicaSetAddScriptMatchesSetModelSpec)

/-- ITS FALSE NEIGHBOUR: 'it returns false'. Refute it at one input. -/
def fnReplicaSetAddScriptMatchesSetModelWrong : ChangeSpec := { name := "fnReplicaSetAddScriptMatchesSetModel", fn := fun _ => fun
  | [d1, d2, d3] => { results := [.lit (.bool false)], args := [d1, d2, d3] }
  | _ => none }
def FnReplicaSetAddScriptMatchesSetModelWrongFalsely : Prop := fnReplicaSetAddScriptMatchesSetModelRow.holds Try.pinned (OpenSpec.ofChange fnReplicaSetAddScriptMatchesSetModelWrong)

/-- 'zzlaws_internal_register_b1.FnReplicaSetAddTwoOrderFree': WHATEVER THE INPUT: true; the input reads as it did. -/
def fnReplicaSetAddTwoOrderFreeSpec : ChangeSpec := { name := "fnReplicaSetAddTwoOrderFree", fn := fun _ => fun
  | [d1, d2, d3, d4] => { results := [.lit (.bool true)], args := [d1, d2, d3, d4] }
  | _ => none }
def fnReplicaSetAddTwoOrderFreeRow : OpenClaim := { program := "qxb6630441a", sum := "bfccc14e5c57246ce28f903c93447326f3143dd1789b18e365a056f7f1ffcd6b", func := "example.com/quorant/quorant/zzlaws_internal_register_b1.FnReplicaSetAddTwoOrderFree", spec := "fnReplicaSetAddTwoOrderFree", apart := false }
def FnReplicaSetAddTwoOrderFreeSaid : Prop := fnReplicaSetAddTwoOrderFreeRow.holds Try.pinned (OpenSpec.ofChange fnReplicaSetAddTwoOrderFreeSpec)

/-- ITS FALSE NEIGHBOUR: 'it returns false'. Refute it at one input. -/
def fnReplicaSetAddTwoOrderFreeWrong : ChangeSpec := { name := "fnReplicaSetAddTwoOrderFree", fn := fun _ => fun
  | [d1, d2, d3, d4] => { results := [.lit (.bool false)], args := [d1, d2, d3, d4] }
  | _ => none }
def FnReplicaSetAddTwoOrderFreeWrongFalsely : Prop := fnReplicaSetAddTwoOrderFreeRow.holds Try.pinned (OpenSpec.ofChange fnReplicaSetAddTwoOrderFreeWrong)

end Rows
end Go.Proofs.Qxb6630441a
