/-
  No cell of these rows narrows 'for every input' (looked for: loops, veiled, ifaces, maps, wideKeys, modest, calm, conditions, laid).
  DERIVED. THE GIVEN ROWS OF THIS SEAT. 2 by the template 'for every input the law returns true; each argument reads behind the call as it read before'; 0 by the template 'total and deterministic' (their statements: Qxb6630914aTotals.lean).
  GIVEN WITH THE SEED: the statements are not yours to turn. If you find one false, say at which input.
  Laid BY PROGRAM, IN A SANDBOX (cutbox-rows.mjs): the forced cells as the released guide's own fill.sh prints them over the translation 815d62a99f6f3678… (all of the seat's roots in one cut). By AI agents, Wed Nov 11 2026. No macro, syntax, notation, axiom, sorry.
-/
import Derived.Test.Qxb6630914aChecked
import GoSem.Claim
import GoSem.ClaimJoined
import GoSem.ClaimMapViews
import Derived.JoinedTies
import Derived.KernelRfl
namespace Go.Proofs.Qxb6630914a
/- THE CELL 'sum', in the pinned program and in every row, IS THE sha256 OF THE DUMP (.gsa) THAT Qxb6630914aProg.lean LOADS. Nothing in Lean hashes anything: it is a label: what it is worth is what the hold of that sum in a sandbox is worth. -/
noncomputable def Try.pinned : Pinned := { name := "qxb6630914a", sum := "815d62a99f6f3678f329efb5e6cee52ac36ff88777f52f6a40195e0228c3f2f1", checked := Try.checked }
namespace Rows
def none {H : Type} : Left H := { results := [], args := [] }

/-- 'zzlaws_internal_smtpclient_b1.FnPositiveCutAndJoin': WHATEVER THE INPUT: true; the input reads as it did. -/
def fnPositiveCutAndJoinSpec : ChangeSpec := { name := "fnPositiveCutAndJoin", fn := fun _ => fun
  | [d1, d2, d3] => { results := [.lit (.bool true)], args := [d1, d2, d3] }
  | _ => none }
def fnPositiveCutAndJoinRow : OpenClaim := { program := "qxb6630914a", sum := "815d62a99f6f3678f329efb5e6cee52ac36ff88777f52f6a40195e0228c3f2f1", func := "example.com/vestibule/vestibule/zzlaws_internal_smtpclient_b1.FnPositiveCutAndJoin", spec := "fnPositiveCutAndJoin", apart := false }
def FnPositiveCutAndJoinSaid : Prop := fnPositiveCutAndJoinRow.holds Try.pinned (OpenSpec.ofChange fnPositiveCutAndJoinSpec)

/-- ITS FALSE NEIGHBOUR: 'it returns false'. Refute it at one input. -/
def fnPositiveCutAndJoinWrong : ChangeSpec := { name := "fnPositiveCutAndJoin", fn := fun _ => fun
  | [d1, d2, d3] => { results := [.lit (.bool false)], args := [d1, d2, d3] }
  | _ => none }
def FnPositiveCutAndJoinWrongFalsely : Prop := fnPositiveCutAndJoinRow.holds Try.pinned (OpenSpec.ofChange fnPositiveCutAndJoinWrong)

/-- 'zzlaws_internal_smtpclient_b1.FnPositiveExactlyOneLeadingByte': WHATEVER THE INPUT: true; the input reads as it did. -/
def fnPositiveExactlyOneLeadingByteSpec : ChangeSpec := { name := "fnPositiveExactlyOneLeadingByte", fn := fun _ => fun
  | [d] => { results := [.lit (.bool true)], args := [d] }
  | _ => none }
def fnPositiveExactlyOneLeadingByteRow : OpenClaim := { program := "qxb6630914a", sum := "815d62a99f6f3678f329efb5e6cee52ac36ff88777f52f6a40195e0228c3f2f1", func := "example.com/vestibule/vestibule/zzlaws_internal_smtpclient_b1.FnPositiveExactlyOneLeadingByte", spec := "fnPositiveExactlyOneLeadingByte", apart := false }
def FnPositiveExactlyOneLeadingByteSaid : Prop := fnPositiveExactlyOneLeadingByteRow.holds Try.pinned (OpenSpec.ofChange fnPositiveExactlyOneLeadingByteSpec)

/-- ITS FALSE NEIGHBOUR: 'it returns false'. Refute it at one input. -/
def fnPositiveExactlyOneLeadingByteWrong : ChangeSpec := { name := "fnPositiveExactlyOneLeadingByte", fn := fun _ => fun
  | [d] => { results := [.lit (.bool false)], args := [d] }
  | _ => none }
def FnPositiveExactlyOneLeadingByteWrongFalsely : Prop := fnPositiveExactlyOneLeadingByteRow.holds Try.pinned (OpenSpec.ofChange fnPositiveExactlyOneLeadingByteWrong)

end Rows
end Go.Proofs.Qxb6630914a
