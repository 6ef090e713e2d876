/-
  No cell of these rows narrows 'for every input' (looked for: loops, veiled, ifaces, maps, wideKeys, modest, calm, conditions, laid).
  DERIVED. THE GIVEN ROWS OF THIS SEAT. 2 by the template 'for every input the law returns true; each argument reads behind the call as it read before'; 0 by the template 'total and deterministic' (their statements: Qxb6630362aTotals.lean).
  GIVEN WITH THE SEED: the statements are not yours to turn. If you find one false, say at which input.
  Laid BY PROGRAM, IN A SANDBOX (cutbox-rows.mjs): the forced cells as the released guide's own fill.sh prints them over the translation b9dda41924e6362b… (all of the seat's roots in one cut). By AI agents, Wed Nov 11 2026. No macro, syntax, notation, axiom, sorry.
-/
import Derived.Test.Qxb6630362aChecked
import GoSem.Claim
import GoSem.ClaimJoined
import GoSem.ClaimMapViews
import Derived.JoinedTies
import Derived.KernelRfl
namespace Go.Proofs.Qxb6630362a
/- THE CELL 'sum', in the pinned program and in every row, IS THE sha256 OF THE DUMP (.gsa) THAT Qxb6630362aProg.lean LOADS. Nothing in Lean hashes anything: it is a label: what it is worth is what the hold of that sum in a sandbox is worth. -/
noncomputable def Try.pinned : Pinned := { name := "qxb6630362a", sum := "b9dda41924e6362bbc78fc6268ac75e8be449f943d07bc4cddccc4d163c3fb59", checked := Try.checked }
namespace Rows
def none {H : Type} : Left H := { results := [], args := [] }

/-- 'zzlaws_internal_httpsyntax_b1.FnIsFieldValueSplitsAndMatchesAllowedBytes': WHATEVER THE INPUT: true; the input reads as it did. -/
def fnIsFieldValueSplitsAndMatchesAllowedBytesSpec : ChangeSpec := { name := "fnIsFieldValueSplitsAndMatchesAllowedBytes", fn := fun _ => fun
  | [d1, d2] => { results := [.lit (.bool true)], args := [d1, d2] }
  | _ => none }
def fnIsFieldValueSplitsAndMatchesAllowedBytesRow : OpenClaim := { program := "qxb6630362a", sum := "b9dda41924e6362bbc78fc6268ac75e8be449f943d07bc4cddccc4d163c3fb59", func := "example.com/edgesluice/edgesluice/zzlaws_internal_httpsyntax_b1.FnIsFieldValueSplitsAndMatchesAllowedBytes", spec := "fnIsFieldValueSplitsAndMatchesAllowedBytes", apart := false }
def FnIsFieldValueSplitsAndMatchesAllowedBytesSaid : Prop := fnIsFieldValueSplitsAndMatchesAllowedBytesRow.holds Try.pinned (OpenSpec.ofChange fnIsFieldValueSplitsAndMatchesAllowedBytesSpec)

/-- ITS FALSE NEIGHBOUR: 'it returns false'. Refute it at one input. -/
def fnIsFieldValueSplitsAndMatchesAllowedBytesWrong : ChangeSpec := { name := "fnIsFieldValueSplitsAndMatchesAllowedBytes", fn := fun _ => fun
  | [d1, d2] => { results := [.lit (.bool false)], args := [d1, d2] }
  | _ => none }
def FnIsFieldValueSplitsAndMatchesAllowedBytesWrongFalsely : Prop := fnIsFieldValueSplitsAndMatchesAllowedBytesRow.holds Try.pinned (OpenSpec.ofChange fnIsFieldValueSplitsAndMatchesAllowedBytesWrong)

/-- 'zzlaws_internal_httpsyntax_b1.FnIsFieldValueInsertedByteAndRefusedCount': WHATEVER THE INPUT: true; the input reads as it did. -/
def fnIsFieldValueInsertedByteAndRefusedCountSpec : ChangeSpec := { name := "fnIsFieldValueInsertedByteAndRefusedCount", fn := fun _ => fun
  | [d1, d2, d3] => { results := [.lit (.bool true)], args := [d1, d2, d3] }
  | _ => none }
def fnIsFieldValueInsertedByteAndRefusedCountRow : OpenClaim := { program := "qxb6630362a", sum := "b9dda41924e6362bbc78fc6268ac75e8be449f943d07bc4cddccc4d163c3fb59", func := "example.com/edgesluice/edgesluice/zzlaws_internal_httpsyntax_b1.FnIsFieldValueInsertedByteAndRefusedCount", spec := "fnIsFieldValueInsertedByteAndRefusedCount", apart := false }
def FnIsFieldValueInsertedByteAndRefusedCountSaid : Prop := fnIsFieldValueInsertedByteAndRefusedCountRow.holds Try.pinned (OpenSpec.ofChange fnIsFieldValueInsertedByteAndRefusedCountSpec)

/-- ITS FALSE NEIGHBOUR: 'it returns false'. Refute it at one input. -/
def fnIsFieldValueInsertedByteAndRefusedCountWrong : ChangeSpec := { name := "fnIsFieldValueInsertedByteAndRefusedCount", fn := fun _ => fun
  | [d1, d2, d3] => { results := [.lit (.bool false)], args := [d1, d2, d3] }
  | _ => none }
def FnIsFieldValueInsertedByteAndRefusedCountWrongFalsely : Prop := fnIsFieldValueInsertedByteAndRefusedCountRow.holds Try.pinned (OpenSpec.ofChange fnIsFieldValueInsertedByteAndRefusedCountWrong)

end Rows
end Go.Proofs.Qxb6630362a
