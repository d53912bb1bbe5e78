/-
  No cell of these rows narrows 'for every input' (looked for: loops, veiled, ifaces, maps, wideKeys, modest, calm, conditions, laid).
  DERIVED. THE GIVEN ROWS OF THIS SEAT. 2 by the template 'for every input the law returns true; each argument reads behind the call as it read before'; 0 by the template 'total and deterministic' (their statements: Qxb6630829aTotals.lean).
  GIVEN WITH THE SEED: the statements are not yours to turn. If you find one false, say at which input.
  Laid BY PROGRAM, IN A SANDBOX (cutbox-rows.mjs): the forced cells as the released guide's own fill.sh prints them over the translation 5776f664e93177dc… (all of the seat's roots in one cut). By AI agents, Wed Nov 11 2026. No macro, syntax, notation, axiom, sorry.
-/
import Derived.Test.Qxb6630829aChecked
import GoSem.Claim
import GoSem.ClaimJoined
import GoSem.ClaimMapViews
import Derived.JoinedTies
import Derived.KernelRfl
namespace Go.Proofs.Qxb6630829a
/- THE CELL 'sum', in the pinned program and in every row, IS THE sha256 OF THE DUMP (.gsa) THAT Qxb6630829aProg.lean LOADS. Nothing in Lean hashes anything: it is a label: what it is worth is what the hold of that sum in a sandbox is worth. -/
noncomputable def Try.pinned : Pinned := { name := "qxb6630829a", sum := "5776f664e93177dcc023a53aaf452f245ef808d544ea34e8fea1e3943f194739", checked := Try.checked }
namespace Rows
def none {H : Type} : Left H := { results := [], args := [] }

/-- 'zzlaws_internal_project_b1.FnHolderIsLongestHoldingRootAndSplits': WHATEVER THE INPUT: true; the input reads as it did. -/
def fnHolderIsLongestHoldingRootAndSplitsSpec : ChangeSpec := { name := "fnHolderIsLongestHoldingRootAndSplits", fn := fun _ => fun
  | [d1, d2, d3] => { results := [.lit (.bool true)], args := [d1, d2, d3] }
  | _ => none }
def fnHolderIsLongestHoldingRootAndSplitsRow : OpenClaim := { program := "qxb6630829a", sum := "5776f664e93177dcc023a53aaf452f245ef808d544ea34e8fea1e3943f194739", func := "example.com/underpin/underpin/zzlaws_internal_project_b1.FnHolderIsLongestHoldingRootAndSplits", spec := "fnHolderIsLongestHoldingRootAndSplits", apart := false }
def FnHolderIsLongestHoldingRootAndSplitsSaid : Prop := fnHolderIsLongestHoldingRootAndSplitsRow.holds Try.pinned (OpenSpec.ofChange fnHolderIsLongestHoldingRootAndSplitsSpec)

/-- ITS FALSE NEIGHBOUR: 'it returns false'. Refute it at one input. -/
def fnHolderIsLongestHoldingRootAndSplitsWrong : ChangeSpec := { name := "fnHolderIsLongestHoldingRootAndSplits", fn := fun _ => fun
  | [d1, d2, d3] => { results := [.lit (.bool false)], args := [d1, d2, d3] }
  | _ => none }
def FnHolderIsLongestHoldingRootAndSplitsWrongFalsely : Prop := fnHolderIsLongestHoldingRootAndSplitsRow.holds Try.pinned (OpenSpec.ofChange fnHolderIsLongestHoldingRootAndSplitsWrong)

/-- 'zzlaws_internal_project_b1.FnHolderAfterInsertingOneRoot': WHATEVER THE INPUT: true; the input reads as it did. -/
def fnHolderAfterInsertingOneRootSpec : ChangeSpec := { name := "fnHolderAfterInsertingOneRoot", fn := fun _ => fun
  | [d1, d2, d3, d4] => { results := [.lit (.bool true)], args := [d1, d2, d3, d4] }
  | _ => none }
def fnHolderAfterInsertingOneRootRow : OpenClaim := { program := "qxb6630829a", sum := "5776f664e93177dcc023a53aaf452f245ef808d544ea34e8fea1e3943f194739", func := "example.com/underpin/underpin/zzlaws_internal_project_b1.FnHolderAfterInsertingOneRoot", spec := "fnHolderAfterInsertingOneRoot", apart := false }
def FnHolderAfterInsertingOneRootSaid : Prop := fnHolderAfterInsertingOneRootRow.holds Try.pinned (OpenSpec.ofChange fnHolderAfterInsertingOneRootSpec)

/-- ITS FALSE NEIGHBOUR: 'it returns false'. Refute it at one input. -/
def fnHolderAfterInsertingOneRootWrong : ChangeSpec := { name := "fnHolderAfterInsertingOneRoot", fn := fun _ => fun
  | [d1, d2, d3, d4] => { results := [.lit (.bool false)], args := [d1, d2, d3, d4] }
  | _ => none }
def FnHolderAfterInsertingOneRootWrongFalsely : Prop := fnHolderAfterInsertingOneRootRow.holds Try.pinned (OpenSpec.ofChange fnHolderAfterInsertingOneRootWrong)

end Rows
end Go.Proofs.Qxb6630829a
