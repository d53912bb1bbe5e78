/-
  No cell of these rows narrows 'for every input' (looked for: loops, veiled, ifaces, maps, wideKeys, modest, calm, conditions, laid).
  DERIVED. THE GIVEN ROWS OF THIS SEAT. 2 by the template 'for every input the law returns true; each argument reads behind the call as it read before'; 0 by the template 'total and deterministic' (their statements: Qxb6627432aTotals.lean).
  GIVEN WITH THE SEED: the statements are not yours to turn. If you find one false, say at which input.
  Laid BY PROGRAM, IN A SANDBOX (cutbox-rows.mjs): the forced cells as the released guide's own fill.sh prints them over the translation 7140f7f20f1e8c75… (all of the seat's roots in one cut). By AI agents, Wed Nov 11 2026. No macro, syntax, notation, axiom, sorry.
-/
import Derived.Test.Qxb6627432aChecked
import GoSem.Claim
import GoSem.ClaimJoined
import GoSem.ClaimMapViews
import Derived.JoinedTies
import Derived.KernelRfl
namespace Go.Proofs.Qxb6627432a
/- THE CELL 'sum', in the pinned program and in every row, IS THE sha256 OF THE DUMP (.gsa) THAT Qxb6627432aProg.lean LOADS. Nothing in Lean hashes anything: it is a label: what it is worth is what the hold of that sum in a sandbox is worth. -/
noncomputable def Try.pinned : Pinned := { name := "qxb6627432a", sum := "7140f7f20f1e8c75b4f6dc4da00bcbcf73b3b5cf4d735071fe8245608c9e3ac3", checked := Try.checked }
namespace Rows
def none {H : Type} : Left H := { results := [], args := [] }

/-- 'zzlaws_internal_policy_b1.FnEffectiveIsCatalogueOrderedClosure': WHATEVER THE INPUT: true; the input reads as it did. -/
def fnEffectiveIsCatalogueOrderedClosureSpec : ChangeSpec := { name := "fnEffectiveIsCatalogueOrderedClosure", fn := fun _ => fun
  | [d1, d2] => { results := [.lit (.bool true)], args := [d1, d2] }
  | _ => none }
def fnEffectiveIsCatalogueOrderedClosureRow : OpenClaim := { program := "qxb6627432a", sum := "7140f7f20f1e8c75b4f6dc4da00bcbcf73b3b5cf4d735071fe8245608c9e3ac3", func := "example.com/rolebook/rolebook/zzlaws_internal_policy_b1.FnEffectiveIsCatalogueOrderedClosure", spec := "fnEffectiveIsCatalogueOrderedClosure", plainKeys := false, apart := false }
def FnEffectiveIsCatalogueOrderedClosureSaid : Prop := fnEffectiveIsCatalogueOrderedClosureRow.holds Try.pinned (OpenSpec.ofChange fnEffectiveIsCatalogueOrderedClosureSpec)

/-- ITS FALSE NEIGHBOUR: 'it returns false'. Refute it at one input. -/
def fnEffectiveIsCatalogueOrderedClosureWrong : ChangeSpec := { name := "fnEffectiveIsCatalogueOrderedClosure", fn := fun _ => fun
  | [d1, d2] => { results := [.lit (.bool false)], args := [d1, d2] }
  | _ => none }
def FnEffectiveIsCatalogueOrderedClosureWrongFalsely : Prop := fnEffectiveIsCatalogueOrderedClosureRow.holds Try.pinned (OpenSpec.ofChange fnEffectiveIsCatalogueOrderedClosureWrong)

/-- 'zzlaws_internal_policy_b1.FnEffectiveUnionOverCutAndIdempotent': WHATEVER THE INPUT: true; the input reads as it did. -/
def fnEffectiveUnionOverCutAndIdempotentSpec : ChangeSpec := { name := "fnEffectiveUnionOverCutAndIdempotent", fn := fun _ => fun
  | [d1, d2, d3] => { results := [.lit (.bool true)], args := [d1, d2, d3] }
  | _ => none }
def fnEffectiveUnionOverCutAndIdempotentRow : OpenClaim := { program := "qxb6627432a", sum := "7140f7f20f1e8c75b4f6dc4da00bcbcf73b3b5cf4d735071fe8245608c9e3ac3", func := "example.com/rolebook/rolebook/zzlaws_internal_policy_b1.FnEffectiveUnionOverCutAndIdempotent", spec := "fnEffectiveUnionOverCutAndIdempotent", plainKeys := false, apart := false }
def FnEffectiveUnionOverCutAndIdempotentSaid : Prop := fnEffectiveUnionOverCutAndIdempotentRow.holds Try.pinned (OpenSpec.ofChange fnEffectiveUnionOverCutAndIdempotentSpec)

/-- ITS FALSE NEIGHBOUR: 'it returns false'. Refute it at one input. -/
def fnEffectiveUnionOverCutAndIdempotentWrong : ChangeSpec := { name := "fnEffectiveUnionOverCutAndIdempotent", fn := fun _ => fun
  | [d1, d2, d3] => { results := [.lit (.bool false)], args := [d1, d2, d3] }
  | _ => none }
def FnEffectiveUnionOverCutAndIdempotentWrongFalsely : Prop := fnEffectiveUnionOverCutAndIdempotentRow.holds Try.pinned (OpenSpec.ofChange fnEffectiveUnionOverCutAndIdempotentWrong)

end Rows
end Go.Proofs.Qxb6627432a
