/-
  No cell of these rows narrows 'for every input' (looked for: loops, veiled, ifaces, maps, wideKeys, modest, calm, conditions, laid).
  DERIVED. THE GIVEN ROWS OF THIS SEAT. 2 by the template 'for every input the law returns true; each argument reads behind the call as it read before'; 0 by the template 'total and deterministic' (their statements: Qxb6627640aTotals.lean).
  GIVEN WITH THE SEED: the statements are not yours to turn. If you find one false, say at which input.
  Laid BY PROGRAM, IN A SANDBOX (cutbox-rows.mjs): the forced cells as the released guide's own fill.sh prints them over the translation e3b898022dcfad77… (all of the seat's roots in one cut). By AI agents, Wed Nov 11 2026. No macro, syntax, notation, axiom, sorry.
-/
import Derived.Test.Qxb6627640aChecked
import GoSem.Claim
import GoSem.ClaimJoined
import GoSem.ClaimMapViews
import Derived.JoinedTies
import Derived.KernelRfl
namespace Go.Proofs.Qxb6627640a
/- THE CELL 'sum', in the pinned program and in every row, IS THE sha256 OF THE DUMP (.gsa) THAT Qxb6627640aProg.lean LOADS. Nothing in Lean hashes anything: it is a label: what it is worth is what the hold of that sum in a sandbox is worth. -/
noncomputable def Try.pinned : Pinned := { name := "qxb6627640a", sum := "e3b898022dcfad77a5189e0cc64723f48108a83c02c769d62adef6e7792e91f0", checked := Try.checked }
namespace Rows
def none {H : Type} : Left H := { results := [], args := [] }

/-- 'zzlaws_internal_oidc_oidctest_b1.FnPublishScriptKeepsLastWordPerKeyID': WHATEVER THE INPUT: true; the input reads as it did. -/
def fnPublishScriptKeepsLastWordPerKeyIDSpec : ChangeSpec := { name := "fnPublishScriptKeepsLastWordPerKeyID", fn := fun _ => fun
  | [d1, d2] => { results := [.lit (.bool true)], args := [d1, d2] }
  | _ => none }
def fnPublishScriptKeepsLastWordPerKeyIDRow : OpenClaim := { program := "qxb6627640a", sum := "e3b898022dcfad77a5189e0cc64723f48108a83c02c769d62adef6e7792e91f0", func := "example.com/switchyard/switchyard/zzlaws_internal_oidc_oidctest_b1.FnPublishScriptKeepsLastWordPerKeyID", spec := "fnPublishScriptKeepsLastWordPerKeyID", inPlace := ["(*internal/sync.Mutex).Lock", "internal/race.Disable", "sync/atomic.CompareAndSwapInt32", "internal/race.Enable", "internal/race.Acquire", "(*internal/sync.Mutex).lockSlow", "internal/sync.runtime_canSpin", "internal/sync.runtime_doSpin", "internal/sync.throw", "internal/sync.runtime_nanotime", "internal/sync.runtime_SemacquireMutex", "sync/atomic.AddInt32", "(*internal/sync.Mutex).Unlock", "internal/race.ReleaseMerge", "(*internal/sync.Mutex).unlockSlow", "internal/sync.fatal", "internal/sync.runtime_Semrelease"], apart := false }
def FnPublishScriptKeepsLastWordPerKeyIDSaid : Prop := fnPublishScriptKeepsLastWordPerKeyIDRow.holds Try.pinned (OpenSpec.ofChange fnPublishScriptKeepsLastWordPerKeyIDSpec)

/-- ITS FALSE NEIGHBOUR: 'it returns false'. Refute it at one input. -/
def fnPublishScriptKeepsLastWordPerKeyIDWrong : ChangeSpec := { name := "fnPublishScriptKeepsLastWordPerKeyID", fn := fun _ => fun
  | [d1, d2] => { results := [.lit (.bool false)], args := [d1, d2] }
  | _ => none }
def FnPublishScriptKeepsLastWordPerKeyIDWrongFalsely : Prop := fnPublishScriptKeepsLastWordPerKeyIDRow.holds Try.pinned (OpenSpec.ofChange fnPublishScriptKeepsLastWordPerKeyIDWrong)

/-- 'zzlaws_internal_oidc_oidctest_b1.FnPublishThenWithdrawTouchesOnlyThatKeyID': WHATEVER THE INPUT: true; the input reads as it did. -/
def fnPublishThenWithdrawTouchesOnlyThatKeyIDSpec : ChangeSpec := { name := "fnPublishThenWithdrawTouchesOnlyThatKeyID", fn := fun _ => fun
  | [d1, d2] => { results := [.lit (.bool true)], args := [d1, d2] }
  | _ => none }
def fnPublishThenWithdrawTouchesOnlyThatKeyIDRow : OpenClaim := { program := "qxb6627640a", sum := "e3b898022dcfad77a5189e0cc64723f48108a83c02c769d62adef6e7792e91f0", func := "example.com/switchyard/switchyard/zzlaws_internal_oidc_oidctest_b1.FnPublishThenWithdrawTouchesOnlyThatKeyID", spec := "fnPublishThenWithdrawTouchesOnlyThatKeyID", inPlace := ["(*internal/sync.Mutex).Lock", "internal/race.Disable", "sync/atomic.CompareAndSwapInt32", "internal/race.Enable", "internal/race.Acquire", "(*internal/sync.Mutex).lockSlow", "internal/sync.runtime_canSpin", "internal/sync.runtime_doSpin", "internal/sync.throw", "internal/sync.runtime_nanotime", "internal/sync.runtime_SemacquireMutex", "sync/atomic.AddInt32", "(*internal/sync.Mutex).Unlock", "internal/race.ReleaseMerge", "(*internal/sync.Mutex).unlockSlow", "internal/sync.fatal", "internal/sync.runtime_Semrelease"], apart := false }
def FnPublishThenWithdrawTouchesOnlyThatKeyIDSaid : Prop := fnPublishThenWithdrawTouchesOnlyThatKeyIDRow.holds Try.pinned (OpenSpec.ofChange fnPublishThenWithdrawTouchesOnlyThatKeyIDSpec)

/-- ITS FALSE NEIGHBOUR: 'it returns false'. Refute it at one input. -/
def fnPublishThenWithdrawTouchesOnlyThatKeyIDWrong : ChangeSpec := { name := "fnPublishThenWithdrawTouchesOnlyThatKeyID", fn := fun _ => fun
  | [d1, d2] => { results := [.lit (.bool false)], args := [d1, d2] }
  | _ => none }
def FnPublishThenWithdrawTouchesOnlyThatKeyIDWrongFalsely : Prop := fnPublishThenWithdrawTouchesOnlyThatKeyIDRow.holds Try.pinned (OpenSpec.ofChange fnPublishThenWithdrawTouchesOnlyThatKeyIDWrong)

end Rows
end Go.Proofs.Qxb6627640a
