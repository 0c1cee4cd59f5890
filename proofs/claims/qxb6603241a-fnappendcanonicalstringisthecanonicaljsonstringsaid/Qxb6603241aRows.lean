/-
  No cell of these rows narrows 'for every input' (looked for: loops, veiled, ifaces, maps, wideKeys, modest, calm, conditions, laid).
  DERIVED. THE GIVEN ROWS OF THIS SEAT. 2 by the template 'for every input the law returns true; each argument reads behind the call as it read before'; 0 by the template 'total and deterministic' (their statements: Qxb6603241aTotals.lean).
  GIVEN WITH THE SEED: the statements are not yours to turn. If you find one false, say at which input.
  Laid BY PROGRAM, IN A SANDBOX (cutbox-rows.mjs): the forced cells as the released guide's own fill.sh prints them over the translation d56cf5439534a142… (all of the seat's roots in one cut). By AI agents, Wed Nov 11 2026. No macro, syntax, notation, axiom, sorry.
-/
import Derived.Test.Qxb6603241aChecked
import GoSem.Claim
import GoSem.ClaimJoined
import GoSem.ClaimMapViews
import Derived.JoinedTies
import Derived.KernelRfl
namespace Go.Proofs.Qxb6603241a
/- THE CELL 'sum', in the pinned program and in every row, IS THE sha256 OF THE DUMP (.gsa) THAT Qxb6603241aProg.lean LOADS. Nothing in Lean hashes anything: it is a label: what it is worth is what the hold of that sum in a sandbox is worth. -/
noncomputable def Try.pinned : Pinned := { name := "qxb6603241a", sum := "d56cf5439534a1428b3408cdd91d9e216070e25ed6874f4328f347b4b047dec4", checked := Try.checked }
namespace Rows
def none {H : Type} : Left H := { results := [], args := [] }

/-- 'zzlaws_adcp_b1.FnAppendCanonicalStringIsTheCanonicalJSONString': WHATEVER THE INPUT: true; the input reads as it did. -/
def fnAppendCanonicalStringIsTheCanonicalJSONStringSpec : ChangeSpec := { name := "fnAppendCanonicalStringIsTheCanonicalJSONString", fn := fun _ => fun
  | [d1, d2] => { results := [.lit (.bool true)], args := [d1, d2] }
  | _ => none }
def fnAppendCanonicalStringIsTheCanonicalJSONStringRow : OpenClaim := { program := "qxb6603241a", sum := "d56cf5439534a1428b3408cdd91d9e216070e25ed6874f4328f347b4b047dec4", func := "example.com/slateroom/slateroom/zzlaws_adcp_b1.FnAppendCanonicalStringIsTheCanonicalJSONString", spec := "fnAppendCanonicalStringIsTheCanonicalJSONString", apart := false }
def FnAppendCanonicalStringIsTheCanonicalJSONStringSaid : Prop := fnAppendCanonicalStringIsTheCanonicalJSONStringRow.holds Try.pinned (OpenSpec.ofChange fnAppendCanonicalStringIsTheCanonicalJSONStringSpec)

/-- ITS FALSE NEIGHBOUR: 'it returns false'. Refute it at one input. -/
def fnAppendCanonicalStringIsTheCanonicalJSONStringWrong : ChangeSpec := { name := "fnAppendCanonicalStringIsTheCanonicalJSONString", fn := fun _ => fun
  | [d1, d2] => { results := [.lit (.bool false)], args := [d1, d2] }
  | _ => none }
def FnAppendCanonicalStringIsTheCanonicalJSONStringWrongFalsely : Prop := fnAppendCanonicalStringIsTheCanonicalJSONStringRow.holds Try.pinned (OpenSpec.ofChange fnAppendCanonicalStringIsTheCanonicalJSONStringWrong)

/-- 'zzlaws_adcp_b1.FnAppendCanonicalStringSplitsAtEveryByte': WHATEVER THE INPUT: true; the input reads as it did. -/
def fnAppendCanonicalStringSplitsAtEveryByteSpec : ChangeSpec := { name := "fnAppendCanonicalStringSplitsAtEveryByte", fn := fun _ => fun
  | [d1, d2, d3] => { results := [.lit (.bool true)], args := [d1, d2, d3] }
  | _ => none }
def fnAppendCanonicalStringSplitsAtEveryByteRow : OpenClaim := { program := "qxb6603241a", sum := "d56cf5439534a1428b3408cdd91d9e216070e25ed6874f4328f347b4b047dec4", func := "example.com/slateroom/slateroom/zzlaws_adcp_b1.FnAppendCanonicalStringSplitsAtEveryByte", spec := "fnAppendCanonicalStringSplitsAtEveryByte", apart := false }
def FnAppendCanonicalStringSplitsAtEveryByteSaid : Prop := fnAppendCanonicalStringSplitsAtEveryByteRow.holds Try.pinned (OpenSpec.ofChange fnAppendCanonicalStringSplitsAtEveryByteSpec)

/-- ITS FALSE NEIGHBOUR: 'it returns false'. Refute it at one input. -/
def fnAppendCanonicalStringSplitsAtEveryByteWrong : ChangeSpec := { name := "fnAppendCanonicalStringSplitsAtEveryByte", fn := fun _ => fun
  | [d1, d2, d3] => { results := [.lit (.bool false)], args := [d1, d2, d3] }
  | _ => none }
def FnAppendCanonicalStringSplitsAtEveryByteWrongFalsely : Prop := fnAppendCanonicalStringSplitsAtEveryByteRow.holds Try.pinned (OpenSpec.ofChange fnAppendCanonicalStringSplitsAtEveryByteWrong)

end Rows
end Go.Proofs.Qxb6603241a
