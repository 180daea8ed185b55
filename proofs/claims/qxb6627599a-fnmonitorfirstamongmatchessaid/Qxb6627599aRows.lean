/-
  No cell of these rows narrows 'for every input' (looked for: loops, veiled, ifaces, maps, wideKeys, modest, calm, conditions, laid).
  DERIVED. THE GIVEN ROWS OF THIS SEAT. 2 by the template 'for every input the law returns true; each argument reads behind the call as it read before'; 0 by the template 'total and deterministic' (their statements: Qxb6627599aTotals.lean).
  GIVEN WITH THE SEED: the statements are not yours to turn. If you find one false, say at which input.
  Laid BY PROGRAM, IN A SANDBOX (cutbox-rows.mjs): the forced cells as the released guide's own fill.sh prints them over the translation df4bbc14547436bd… (all of the seat's roots in one cut). By AI agents, Wed Nov 11 2026. No macro, syntax, notation, axiom, sorry.
-/
import Derived.Test.Qxb6627599aChecked
import GoSem.Claim
import GoSem.ClaimJoined
import GoSem.ClaimMapViews
import Derived.JoinedTies
import Derived.KernelRfl
namespace Go.Proofs.Qxb6627599a
/- THE CELL 'sum', in the pinned program and in every row, IS THE sha256 OF THE DUMP (.gsa) THAT Qxb6627599aProg.lean LOADS. Nothing in Lean hashes anything: it is a label: what it is worth is what the hold of that sum in a sandbox is worth. -/
noncomputable def Try.pinned : Pinned := { name := "qxb6627599a", sum := "df4bbc14547436bd0ba8773fad962bb513b74be2f7e6d019dcabdd65ef740112", checked := Try.checked }
namespace Rows
def none {H : Type} : Left H := { results := [], args := [] }

/-- 'zzlaws_internal_config_b1.FnMonitorCutAtAnyIndex': WHATEVER THE INPUT: true; the input reads as it did. -/
def fnMonitorCutAtAnyIndexSpec : ChangeSpec := { name := "fnMonitorCutAtAnyIndex", fn := fun _ => fun
  | [d1, d2, d3, d4, d5] => { results := [.lit (.bool true)], args := [d1, d2, d3, d4, d5] }
  | _ => none }
def fnMonitorCutAtAnyIndexRow : OpenClaim := { program := "qxb6627599a", sum := "df4bbc14547436bd0ba8773fad962bb513b74be2f7e6d019dcabdd65ef740112", func := "example.com/quorumshift/quorumshift/zzlaws_internal_config_b1.FnMonitorCutAtAnyIndex", spec := "fnMonitorCutAtAnyIndex", apart := false }
def FnMonitorCutAtAnyIndexSaid : Prop := fnMonitorCutAtAnyIndexRow.holds Try.pinned (OpenSpec.ofChange fnMonitorCutAtAnyIndexSpec)

/-- ITS FALSE NEIGHBOUR: 'it returns false'. Refute it at one input. -/
def fnMonitorCutAtAnyIndexWrong : ChangeSpec := { name := "fnMonitorCutAtAnyIndex", fn := fun _ => fun
  | [d1, d2, d3, d4, d5] => { results := [.lit (.bool false)], args := [d1, d2, d3, d4, d5] }
  | _ => none }
def FnMonitorCutAtAnyIndexWrongFalsely : Prop := fnMonitorCutAtAnyIndexRow.holds Try.pinned (OpenSpec.ofChange fnMonitorCutAtAnyIndexWrong)

/-- 'zzlaws_internal_config_b1.FnMonitorFirstAmongMatches': WHATEVER THE INPUT: true; the input reads as it did. -/
def fnMonitorFirstAmongMatchesSpec : ChangeSpec := { name := "fnMonitorFirstAmongMatches", fn := fun _ => fun
  | [d1, d2, d3, d4] => { results := [.lit (.bool true)], args := [d1, d2, d3, d4] }
  | _ => none }
def fnMonitorFirstAmongMatchesRow : OpenClaim := { program := "qxb6627599a", sum := "df4bbc14547436bd0ba8773fad962bb513b74be2f7e6d019dcabdd65ef740112", func := "example.com/quorumshift/quorumshift/zzlaws_internal_config_b1.FnMonitorFirstAmongMatches", spec := "fnMonitorFirstAmongMatches", apart := false }
def FnMonitorFirstAmongMatchesSaid : Prop := fnMonitorFirstAmongMatchesRow.holds Try.pinned (OpenSpec.ofChange fnMonitorFirstAmongMatchesSpec)

/-- ITS FALSE NEIGHBOUR: 'it returns false'. Refute it at one input. -/
def fnMonitorFirstAmongMatchesWrong : ChangeSpec := { name := "fnMonitorFirstAmongMatches", fn := fun _ => fun
  | [d1, d2, d3, d4] => { results := [.lit (.bool false)], args := [d1, d2, d3, d4] }
  | _ => none }
def FnMonitorFirstAmongMatchesWrongFalsely : Prop := fnMonitorFirstAmongMatchesRow.holds Try.pinned (OpenSpec.ofChange fnMonitorFirstAmongMatchesWrong)

end Rows
end Go.Proofs.Qxb6627599a
