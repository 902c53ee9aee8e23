/-
  No cell of these rows narrows 'for every input' (looked for: loops, veiled, ifaces, maps, wideKeys, modest, calm, conditions, laid).
  DERIVED. THE GIVEN ROWS OF THIS SEAT. 3 by the template 'for every input the law returns true; each argument reads behind the call as it read before'; 0 by the template 'total and deterministic' (their statements: Qxb6601266aTotals.lean).
  GIVEN WITH THE SEED: the statements are not yours to turn. If you find one false, say at which input.
  Laid BY PROGRAM, IN A SANDBOX (cutbox-rows.mjs): the forced cells as the released guide's own fill.sh prints them over the translation 741c5b8ff5c28d10… (all of the seat's roots in one cut). By AI agents, Wed Nov 11 2026. No macro, syntax, notation, axiom, sorry.
-/
import Derived.Test.Qxb6601266aChecked
import GoSem.Claim
import GoSem.ClaimJoined
import GoSem.ClaimMapViews
import Derived.JoinedTies
import Derived.KernelRfl
namespace Go.Proofs.Qxb6601266a
/- THE CELL 'sum', in the pinned program and in every row, IS THE sha256 OF THE DUMP (.gsa) THAT Qxb6601266aProg.lean LOADS. Nothing in Lean hashes anything: it is a label: what it is worth is what the hold of that sum in a sandbox is worth. -/
noncomputable def Try.pinned : Pinned := { name := "qxb6601266a", sum := "741c5b8ff5c28d1077e024e5a1e564dfc1f5e8669b010cd3cd55cc6d4c676b0a", checked := Try.checked }
namespace Rows
def none {H : Type} : Left H := { results := [], args := [] }

/-- 'zzlaws_entitlement_b1.FnSubscriptionChangeUndoSwapsActivation': WHATEVER THE INPUT: true; the input reads as it did. -/
def fnSubscriptionChangeUndoSwapsActivationSpec : ChangeSpec := { name := "fnSubscriptionChangeUndoSwapsActivation", fn := fun _ => fun
  | [d1, d2, d3] => { results := [.lit (.bool true)], args := [d1, d2, d3] }
  | _ => none }
def fnSubscriptionChangeUndoSwapsActivationRow : OpenClaim := { program := "qxb6601266a", sum := "741c5b8ff5c28d1077e024e5a1e564dfc1f5e8669b010cd3cd55cc6d4c676b0a", func := "example.com/entd/entd/zzlaws_entitlement_b1.FnSubscriptionChangeUndoSwapsActivation", spec := "fnSubscriptionChangeUndoSwapsActivation", apart := false }
def FnSubscriptionChangeUndoSwapsActivationSaid : Prop := fnSubscriptionChangeUndoSwapsActivationRow.holds Try.pinned (OpenSpec.ofChange fnSubscriptionChangeUndoSwapsActivationSpec)

/-- ITS FALSE NEIGHBOUR: 'it returns false'. Refute it at one input. -/
def fnSubscriptionChangeUndoSwapsActivationWrong : ChangeSpec := { name := "fnSubscriptionChangeUndoSwapsActivation", fn := fun _ => fun
  | [d1, d2, d3] => { results := [.lit (.bool false)], args := [d1, d2, d3] }
  | _ => none }
def FnSubscriptionChangeUndoSwapsActivationWrongFalsely : Prop := fnSubscriptionChangeUndoSwapsActivationRow.holds Try.pinned (OpenSpec.ofChange fnSubscriptionChangeUndoSwapsActivationWrong)

/-- 'zzlaws_entitlement_b1.FnLabelIdempotent': WHATEVER THE INPUT: true; the input reads as it did. -/
def fnLabelIdempotentSpec : ChangeSpec := { name := "fnLabelIdempotent", fn := fun _ => fun
  | [d] => { results := [.lit (.bool true)], args := [d] }
  | _ => none }
def fnLabelIdempotentRow : OpenClaim := { program := "qxb6601266a", sum := "741c5b8ff5c28d1077e024e5a1e564dfc1f5e8669b010cd3cd55cc6d4c676b0a", func := "example.com/entd/entd/zzlaws_entitlement_b1.FnLabelIdempotent", spec := "fnLabelIdempotent", apart := false }
def FnLabelIdempotentSaid : Prop := fnLabelIdempotentRow.holds Try.pinned (OpenSpec.ofChange fnLabelIdempotentSpec)

/-- ITS FALSE NEIGHBOUR: 'it returns false'. Refute it at one input. -/
def fnLabelIdempotentWrong : ChangeSpec := { name := "fnLabelIdempotent", fn := fun _ => fun
  | [d] => { results := [.lit (.bool false)], args := [d] }
  | _ => none }
def FnLabelIdempotentWrongFalsely : Prop := fnLabelIdempotentRow.holds Try.pinned (OpenSpec.ofChange fnLabelIdempotentWrong)

/-- 'zzlaws_entitlement_b1.FnLabelCollisionsExactly': WHATEVER THE INPUT: true; the input reads as it did. -/
def fnLabelCollisionsExactlySpec : ChangeSpec := { name := "fnLabelCollisionsExactly", fn := fun _ => fun
  | [d1, d2] => { results := [.lit (.bool true)], args := [d1, d2] }
  | _ => none }
def fnLabelCollisionsExactlyRow : OpenClaim := { program := "qxb6601266a", sum := "741c5b8ff5c28d1077e024e5a1e564dfc1f5e8669b010cd3cd55cc6d4c676b0a", func := "example.com/entd/entd/zzlaws_entitlement_b1.FnLabelCollisionsExactly", spec := "fnLabelCollisionsExactly", apart := false }
def FnLabelCollisionsExactlySaid : Prop := fnLabelCollisionsExactlyRow.holds Try.pinned (OpenSpec.ofChange fnLabelCollisionsExactlySpec)

/-- ITS FALSE NEIGHBOUR: 'it returns false'. Refute it at one input. -/
def fnLabelCollisionsExactlyWrong : ChangeSpec := { name := "fnLabelCollisionsExactly", fn := fun _ => fun
  | [d1, d2] => { results := [.lit (.bool false)], args := [d1, d2] }
  | _ => none }
def FnLabelCollisionsExactlyWrongFalsely : Prop := fnLabelCollisionsExactlyRow.holds Try.pinned (OpenSpec.ofChange fnLabelCollisionsExactlyWrong)

end Rows
end Go.Proofs.Qxb6601266a
