/-
  No cell of these rows narrows 'for every input' (looked for: loops, veiled, ifaces, maps, wideKeys, modest, calm, conditions, laid).
  DERIVED. THE GIVEN ROWS OF THIS SEAT. 2 by the template 'for every input the law returns true; each argument reads behind the call as it read before'; 0 by the template 'total and deterministic' (their statements: Qxb6627675aTotals.lean).
  GIVEN WITH THE SEED: the statements are not yours to turn. If you find one false, say at which input.
  Laid BY PROGRAM, IN A SANDBOX (cutbox-rows.mjs): the forced cells as the released guide's own fill.sh prints them over the translation 53689e7885c954c1… (all of the seat's roots in one cut). By AI agents, Wed Nov 11 2026. No macro, syntax, notation, axiom, sorry.
-/
import Derived.Test.Qxb6627675aChecked
import GoSem.Claim
import GoSem.ClaimJoined
import GoSem.ClaimMapViews
import Derived.JoinedTies
import Derived.KernelRfl
namespace Go.Proofs.Qxb6627675a
/- THE CELL 'sum', in the pinned program and in every row, IS THE sha256 OF THE DUMP (.gsa) THAT Qxb6627675aProg.lean LOADS. Nothing in Lean hashes anything: it is a label: what it is worth is what the hold of that sum in a sandbox is worth. -/
noncomputable def Try.pinned : Pinned := { name := "qxb6627675a", sum := "53689e7885c954c1e25052c5b50b6d0561a71b29e9f48af947b8639cacc12d7b", checked := Try.checked }
namespace Rows
def none {H : Type} : Left H := { results := [], args := [] }

/-- 'zzlaws_internal_store_b1.FnMissingFromKeepsUnheldInOrder': WHATEVER THE INPUT: true; the input reads as it did. -/
def fnMissingFromKeepsUnheldInOrderSpec : ChangeSpec := { name := "fnMissingFromKeepsUnheldInOrder", fn := fun _ => fun
  | [d1, d2] => { results := [.lit (.bool true)], args := [d1, d2] }
  | _ => none }
def fnMissingFromKeepsUnheldInOrderRow : OpenClaim := { program := "qxb6627675a", sum := "53689e7885c954c1e25052c5b50b6d0561a71b29e9f48af947b8639cacc12d7b", func := "example.com/mutuary/mutuary/zzlaws_internal_store_b1.FnMissingFromKeepsUnheldInOrder", spec := "fnMissingFromKeepsUnheldInOrder", apart := false }
def FnMissingFromKeepsUnheldInOrderSaid : Prop := fnMissingFromKeepsUnheldInOrderRow.holds Try.pinned (OpenSpec.ofChange fnMissingFromKeepsUnheldInOrderSpec)

/-- ITS FALSE NEIGHBOUR: 'it returns false'. Refute it at one input. -/
def fnMissingFromKeepsUnheldInOrderWrong : ChangeSpec := { name := "fnMissingFromKeepsUnheldInOrder", fn := fun _ => fun
  | [d1, d2] => { results := [.lit (.bool false)], args := [d1, d2] }
  | _ => none }
def FnMissingFromKeepsUnheldInOrderWrongFalsely : Prop := fnMissingFromKeepsUnheldInOrderRow.holds Try.pinned (OpenSpec.ofChange fnMissingFromKeepsUnheldInOrderWrong)

/-- 'zzlaws_internal_store_b1.FnMissingFromStagesOverSplitHas': WHATEVER THE INPUT: true; the input reads as it did. -/
def fnMissingFromStagesOverSplitHasSpec : ChangeSpec := { name := "fnMissingFromStagesOverSplitHas", fn := fun _ => fun
  | [d1, d2, d3] => { results := [.lit (.bool true)], args := [d1, d2, d3] }
  | _ => none }
def fnMissingFromStagesOverSplitHasRow : OpenClaim := { program := "qxb6627675a", sum := "53689e7885c954c1e25052c5b50b6d0561a71b29e9f48af947b8639cacc12d7b", func := "example.com/mutuary/mutuary/zzlaws_internal_store_b1.FnMissingFromStagesOverSplitHas", spec := "fnMissingFromStagesOverSplitHas", apart := false }
def FnMissingFromStagesOverSplitHasSaid : Prop := fnMissingFromStagesOverSplitHasRow.holds Try.pinned (OpenSpec.ofChange fnMissingFromStagesOverSplitHasSpec)

/-- ITS FALSE NEIGHBOUR: 'it returns false'. Refute it at one input. -/
def fnMissingFromStagesOverSplitHasWrong : ChangeSpec := { name := "fnMissingFromStagesOverSplitHas", fn := fun _ => fun
  | [d1, d2, d3] => { results := [.lit (.bool false)], args := [d1, d2, d3] }
  | _ => none }
def FnMissingFromStagesOverSplitHasWrongFalsely : Prop := fnMissingFromStagesOverSplitHasRow.holds Try.pinned (OpenSpec.ofChange fnMissingFromStagesOverSplitHasWrong)

end Rows
end Go.Proofs.Qxb6627675a
