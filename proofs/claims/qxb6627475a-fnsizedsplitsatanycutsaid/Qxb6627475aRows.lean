/-
  No cell of these rows narrows 'for every input' (looked for: loops, veiled, ifaces, maps, wideKeys, modest, calm, conditions, laid).
  DERIVED. THE GIVEN ROWS OF THIS SEAT. 2 by the template 'for every input the law returns true; each argument reads behind the call as it read before'; 0 by the template 'total and deterministic' (their statements: Qxb6627475aTotals.lean).
  GIVEN WITH THE SEED: the statements are not yours to turn. If you find one false, say at which input.
  Laid BY PROGRAM, IN A SANDBOX (cutbox-rows.mjs): the forced cells as the released guide's own fill.sh prints them over the translation bdaca4ed4fe13172… (all of the seat's roots in one cut). By AI agents, Wed Nov 11 2026. No macro, syntax, notation, axiom, sorry.
-/
import Derived.Test.Qxb6627475aChecked
import GoSem.Claim
import GoSem.ClaimJoined
import GoSem.ClaimMapViews
import Derived.JoinedTies
import Derived.KernelRfl
namespace Go.Proofs.Qxb6627475a
/- THE CELL 'sum', in the pinned program and in every row, IS THE sha256 OF THE DUMP (.gsa) THAT Qxb6627475aProg.lean LOADS. Nothing in Lean hashes anything: it is a label: what it is worth is what the hold of that sum in a sandbox is worth. -/
noncomputable def Try.pinned : Pinned := { name := "qxb6627475a", sum := "bdaca4ed4fe13172bfd6ffdc939e66eacad623cd9131c0d2de18b83541c1b660", checked := Try.checked }
namespace Rows
def none {H : Type} : Left H := { results := [], args := [] }

/-- 'zzlaws_decide_b1.FnSizedIffRepairFixes': WHATEVER THE INPUT: true; the input reads as it did. -/
def fnSizedIffRepairFixesSpec : ChangeSpec := { name := "fnSizedIffRepairFixes", fn := fun _ => fun
  | [d1, d2, d3, d4] => { results := [.lit (.bool true)], args := [d1, d2, d3, d4] }
  | _ => none }
def fnSizedIffRepairFixesRow : OpenClaim := { program := "qxb6627475a", sum := "bdaca4ed4fe13172bfd6ffdc939e66eacad623cd9131c0d2de18b83541c1b660", func := "example.com/quorumkeep/quorumkeep/zzlaws_decide_b1.FnSizedIffRepairFixes", spec := "fnSizedIffRepairFixes", apart := false }
def FnSizedIffRepairFixesSaid : Prop := fnSizedIffRepairFixesRow.holds Try.pinned (OpenSpec.ofChange fnSizedIffRepairFixesSpec)

/-- ITS FALSE NEIGHBOUR: 'it returns false'. Refute it at one input. -/
def fnSizedIffRepairFixesWrong : ChangeSpec := { name := "fnSizedIffRepairFixes", fn := fun _ => fun
  | [d1, d2, d3, d4] => { results := [.lit (.bool false)], args := [d1, d2, d3, d4] }
  | _ => none }
def FnSizedIffRepairFixesWrongFalsely : Prop := fnSizedIffRepairFixesRow.holds Try.pinned (OpenSpec.ofChange fnSizedIffRepairFixesWrong)

/-- 'zzlaws_decide_b1.FnSizedSplitsAtAnyCut': WHATEVER THE INPUT: true; the input reads as it did. -/
def fnSizedSplitsAtAnyCutSpec : ChangeSpec := { name := "fnSizedSplitsAtAnyCut", fn := fun _ => fun
  | [d1, d2, d3, d4] => { results := [.lit (.bool true)], args := [d1, d2, d3, d4] }
  | _ => none }
def fnSizedSplitsAtAnyCutRow : OpenClaim := { program := "qxb6627475a", sum := "bdaca4ed4fe13172bfd6ffdc939e66eacad623cd9131c0d2de18b83541c1b660", func := "example.com/quorumkeep/quorumkeep/zzlaws_decide_b1.FnSizedSplitsAtAnyCut", spec := "fnSizedSplitsAtAnyCut", apart := false }
def FnSizedSplitsAtAnyCutSaid : Prop := fnSizedSplitsAtAnyCutRow.holds Try.pinned (OpenSpec.ofChange fnSizedSplitsAtAnyCutSpec)

/-- ITS FALSE NEIGHBOUR: 'it returns false'. Refute it at one input. -/
def fnSizedSplitsAtAnyCutWrong : ChangeSpec := { name := "fnSizedSplitsAtAnyCut", fn := fun _ => fun
  | [d1, d2, d3, d4] => { results := [.lit (.bool false)], args := [d1, d2, d3, d4] }
  | _ => none }
def FnSizedSplitsAtAnyCutWrongFalsely : Prop := fnSizedSplitsAtAnyCutRow.holds Try.pinned (OpenSpec.ofChange fnSizedSplitsAtAnyCutWrong)

end Rows
end Go.Proofs.Qxb6627475a
