/-
  No cell of these rows narrows 'for every input' (looked for: loops, veiled, ifaces, maps, wideKeys, modest, calm, conditions, laid).
  DERIVED. THE GIVEN ROWS OF THIS SEAT. 2 by the template 'for every input the law returns true; each argument reads behind the call as it read before'; 0 by the template 'total and deterministic' (their statements: Qxb6630396aTotals.lean).
  GIVEN WITH THE SEED: the statements are not yours to turn. If you find one false, say at which input.
  Laid BY PROGRAM, IN A SANDBOX (cutbox-rows.mjs): the forced cells as the released guide's own fill.sh prints them over the translation d9793ba9575c89b5… (all of the seat's roots in one cut). By AI agents, Wed Nov 11 2026. No macro, syntax, notation, axiom, sorry.
-/
import Derived.Test.Qxb6630396aChecked
import GoSem.Claim
import GoSem.ClaimJoined
import GoSem.ClaimMapViews
import Derived.JoinedTies
import Derived.KernelRfl
namespace Go.Proofs.Qxb6630396a
/- THE CELL 'sum', in the pinned program and in every row, IS THE sha256 OF THE DUMP (.gsa) THAT Qxb6630396aProg.lean LOADS. Nothing in Lean hashes anything: it is a label: what it is worth is what the hold of that sum in a sandbox is worth. -/
noncomputable def Try.pinned : Pinned := { name := "qxb6630396a", sum := "d9793ba9575c89b5b004211a1fe0fad6c2380e949879ae32beea6af983f3f513", checked := Try.checked }
namespace Rows
def none {H : Type} : Left H := { results := [], args := [] }

/-- 'zzlaws_internal_rlp_b1.FnAppendUintIsCanonicalBigEndian': WHATEVER THE INPUT: true; the input reads as it did. -/
def fnAppendUintIsCanonicalBigEndianSpec : ChangeSpec := { name := "fnAppendUintIsCanonicalBigEndian", fn := fun _ => fun
  | [d1, d2] => { results := [.lit (.bool true)], args := [d1, d2] }
  | _ => none }
def fnAppendUintIsCanonicalBigEndianRow : OpenClaim := { program := "qxb6630396a", sum := "d9793ba9575c89b5b004211a1fe0fad6c2380e949879ae32beea6af983f3f513", func := "example.com/lockstep/lockstep/zzlaws_internal_rlp_b1.FnAppendUintIsCanonicalBigEndian", spec := "fnAppendUintIsCanonicalBigEndian", apart := false }
def FnAppendUintIsCanonicalBigEndianSaid : Prop := fnAppendUintIsCanonicalBigEndianRow.holds Try.pinned (OpenSpec.ofChange fnAppendUintIsCanonicalBigEndianSpec)

/-- ITS FALSE NEIGHBOUR: 'it returns false'. Refute it at one input. -/
def fnAppendUintIsCanonicalBigEndianWrong : ChangeSpec := { name := "fnAppendUintIsCanonicalBigEndian", fn := fun _ => fun
  | [d1, d2] => { results := [.lit (.bool false)], args := [d1, d2] }
  | _ => none }
def FnAppendUintIsCanonicalBigEndianWrongFalsely : Prop := fnAppendUintIsCanonicalBigEndianRow.holds Try.pinned (OpenSpec.ofChange fnAppendUintIsCanonicalBigEndianWrong)

/-- 'zzlaws_internal_rlp_b1.FnAppendUintEncodingOrder': WHATEVER THE INPUT: true; the input reads as it did. -/
def fnAppendUintEncodingOrderSpec : ChangeSpec := { name := "fnAppendUintEncodingOrder", fn := fun _ => fun
  | [d1, d2, d3] => { results := [.lit (.bool true)], args := [d1, d2, d3] }
  | _ => none }
def fnAppendUintEncodingOrderRow : OpenClaim := { program := "qxb6630396a", sum := "d9793ba9575c89b5b004211a1fe0fad6c2380e949879ae32beea6af983f3f513", func := "example.com/lockstep/lockstep/zzlaws_internal_rlp_b1.FnAppendUintEncodingOrder", spec := "fnAppendUintEncodingOrder", apart := false }
def FnAppendUintEncodingOrderSaid : Prop := fnAppendUintEncodingOrderRow.holds Try.pinned (OpenSpec.ofChange fnAppendUintEncodingOrderSpec)

/-- ITS FALSE NEIGHBOUR: 'it returns false'. Refute it at one input. -/
def fnAppendUintEncodingOrderWrong : ChangeSpec := { name := "fnAppendUintEncodingOrder", fn := fun _ => fun
  | [d1, d2, d3] => { results := [.lit (.bool false)], args := [d1, d2, d3] }
  | _ => none }
def FnAppendUintEncodingOrderWrongFalsely : Prop := fnAppendUintEncodingOrderRow.holds Try.pinned (OpenSpec.ofChange fnAppendUintEncodingOrderWrong)

end Rows
end Go.Proofs.Qxb6630396a
