/-
  NARROWER THAN 'FOR EVERY INPUT', by the rows' own cells (each row's printed sentence says how): FnAddHoldsExactlyTheUnion: maps.
  DERIVED. THE GIVEN ROWS OF THIS SEAT. 1 by the template 'for every input the law returns true; each argument reads behind the call as it read before'; 0 by the template 'total and deterministic' (their statements: Qxb6627703aTotals.lean).
  GIVEN WITH THE SEED: the statements are not yours to turn. If you find one false, say at which input.
  Laid BY PROGRAM, IN A SANDBOX (cutbox-rows.mjs): the forced cells as the released guide's own fill.sh prints them over the translation ad6a8fd8a0ff7bbe… (all of the seat's roots in one cut). By AI agents, Wed Nov 11 2026. No macro, syntax, notation, axiom, sorry.
-/
import Derived.Test.Qxb6627703aChecked
import GoSem.Claim
import GoSem.ClaimJoined
import GoSem.ClaimMapViews
import Derived.JoinedTies
import Derived.KernelRfl
namespace Go.Proofs.Qxb6627703a
/- THE CELL 'sum', in the pinned program and in every row, IS THE sha256 OF THE DUMP (.gsa) THAT Qxb6627703aProg.lean LOADS. Nothing in Lean hashes anything: it is a label: what it is worth is what the hold of that sum in a sandbox is worth. -/
noncomputable def Try.pinned : Pinned := { name := "qxb6627703a", sum := "ad6a8fd8a0ff7bbe8ed114b3846190bce238fa7b52bfc6e10bb4fb4dd1531b0a", checked := Try.checked }
namespace Rows
def none {H : Type} : Left H := { results := [], args := [] }

/-- 'zzlaws_csn_b1.FnAddHoldsExactlyTheUnion': WHATEVER THE INPUT: true; the input reads as it did. -/
def fnAddHoldsExactlyTheUnionSpec : ChangeSpec := { name := "fnAddHoldsExactlyTheUnion", fn := fun _ => fun
  | [d1, d2, d3] => { results := [.lit (.bool true)], args := [d1, d2, d3] }
  | _ => none }
def fnAddHoldsExactlyTheUnionRow : OpenClaim := { program := "qxb6627703a", sum := "ad6a8fd8a0ff7bbe8ed114b3846190bce238fa7b52bfc6e10bb4fb4dd1531b0a", func := "example.com/tideline/tideline/zzlaws_csn_b1.FnAddHoldsExactlyTheUnion", spec := "fnAddHoldsExactlyTheUnion", unfollowed := true, recurses := true, maps := true, apart := false }
def FnAddHoldsExactlyTheUnionSaid : Prop := fnAddHoldsExactlyTheUnionRow.holds Try.pinned (OpenSpec.ofChange fnAddHoldsExactlyTheUnionSpec)

/-- ITS FALSE NEIGHBOUR: 'it returns false'. Refute it at one input. -/
def fnAddHoldsExactlyTheUnionWrong : ChangeSpec := { name := "fnAddHoldsExactlyTheUnion", fn := fun _ => fun
  | [d1, d2, d3] => { results := [.lit (.bool false)], args := [d1, d2, d3] }
  | _ => none }
def FnAddHoldsExactlyTheUnionWrongFalsely : Prop := fnAddHoldsExactlyTheUnionRow.holds Try.pinned (OpenSpec.ofChange fnAddHoldsExactlyTheUnionWrong)

end Rows
end Go.Proofs.Qxb6627703a
