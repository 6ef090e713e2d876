/-
  No cell of these rows narrows 'for every input' (looked for: loops, veiled, ifaces, maps, wideKeys, modest, calm, conditions, laid).
  DERIVED. THE GIVEN ROWS OF THIS SEAT. 2 by the template 'for every input the law returns true; each argument reads behind the call as it read before'; 0 by the template 'total and deterministic' (their statements: Qxb6630475aTotals.lean).
  GIVEN WITH THE SEED: the statements are not yours to turn. If you find one false, say at which input.
  Laid BY PROGRAM, IN A SANDBOX (cutbox-rows.mjs): the forced cells as the released guide's own fill.sh prints them over the translation bfc25ab22fb1701a… (all of the seat's roots in one cut). By AI agents, Wed Nov 11 2026. No macro, syntax, notation, axiom, sorry.
-/
import Derived.Test.Qxb6630475aChecked
import GoSem.Claim
import GoSem.ClaimJoined
import GoSem.ClaimMapViews
import Derived.JoinedTies
import Derived.KernelRfl
namespace Go.Proofs.Qxb6630475a
/- THE CELL 'sum', in the pinned program and in every row, IS THE sha256 OF THE DUMP (.gsa) THAT Qxb6630475aProg.lean LOADS. Nothing in Lean hashes anything: it is a label: what it is worth is what the hold of that sum in a sandbox is worth. -/
noncomputable def Try.pinned : Pinned := { name := "qxb6630475a", sum := "bfc25ab22fb1701ab1891c0f180124c146bcf4ee89cc87cdf4fe985012b72877", checked := Try.checked }
namespace Rows
def none {H : Type} : Left H := { results := [], args := [] }

/-- 'zzlaws_internal_configfile_b1.FnIsEnvNameSplitsAtAnyCut': WHATEVER THE INPUT: true; the input reads as it did. -/
def fnIsEnvNameSplitsAtAnyCutSpec : ChangeSpec := { name := "fnIsEnvNameSplitsAtAnyCut", fn := fun _ => fun
  | [d1, d2] => { results := [.lit (.bool true)], args := [d1, d2] }
  | _ => none }
def fnIsEnvNameSplitsAtAnyCutRow : OpenClaim := { program := "qxb6630475a", sum := "bfc25ab22fb1701ab1891c0f180124c146bcf4ee89cc87cdf4fe985012b72877", func := "example.com/brisk-relay/brisk-relay/zzlaws_internal_configfile_b1.FnIsEnvNameSplitsAtAnyCut", spec := "fnIsEnvNameSplitsAtAnyCut", apart := false }
def FnIsEnvNameSplitsAtAnyCutSaid : Prop := fnIsEnvNameSplitsAtAnyCutRow.holds Try.pinned (OpenSpec.ofChange fnIsEnvNameSplitsAtAnyCutSpec)

/-- ITS FALSE NEIGHBOUR: 'it returns false'. Refute it at one input. -/
def fnIsEnvNameSplitsAtAnyCutWrong : ChangeSpec := { name := "fnIsEnvNameSplitsAtAnyCut", fn := fun _ => fun
  | [d1, d2] => { results := [.lit (.bool false)], args := [d1, d2] }
  | _ => none }
def FnIsEnvNameSplitsAtAnyCutWrongFalsely : Prop := fnIsEnvNameSplitsAtAnyCutRow.holds Try.pinned (OpenSpec.ofChange fnIsEnvNameSplitsAtAnyCutWrong)

/-- 'zzlaws_internal_configfile_b1.FnIsEnvNameOneByteExtensionsCounted': WHATEVER THE INPUT: true; the input reads as it did. -/
def fnIsEnvNameOneByteExtensionsCountedSpec : ChangeSpec := { name := "fnIsEnvNameOneByteExtensionsCounted", fn := fun _ => fun
  | [d] => { results := [.lit (.bool true)], args := [d] }
  | _ => none }
def fnIsEnvNameOneByteExtensionsCountedRow : OpenClaim := { program := "qxb6630475a", sum := "bfc25ab22fb1701ab1891c0f180124c146bcf4ee89cc87cdf4fe985012b72877", func := "example.com/brisk-relay/brisk-relay/zzlaws_internal_configfile_b1.FnIsEnvNameOneByteExtensionsCounted", spec := "fnIsEnvNameOneByteExtensionsCounted", apart := false }
def FnIsEnvNameOneByteExtensionsCountedSaid : Prop := fnIsEnvNameOneByteExtensionsCountedRow.holds Try.pinned (OpenSpec.ofChange fnIsEnvNameOneByteExtensionsCountedSpec)

/-- ITS FALSE NEIGHBOUR: 'it returns false'. Refute it at one input. -/
def fnIsEnvNameOneByteExtensionsCountedWrong : ChangeSpec := { name := "fnIsEnvNameOneByteExtensionsCounted", fn := fun _ => fun
  | [d] => { results := [.lit (.bool false)], args := [d] }
  | _ => none }
def FnIsEnvNameOneByteExtensionsCountedWrongFalsely : Prop := fnIsEnvNameOneByteExtensionsCountedRow.holds Try.pinned (OpenSpec.ofChange fnIsEnvNameOneByteExtensionsCountedWrong)

end Rows
end Go.Proofs.Qxb6630475a
