/-
  No cell of these rows narrows 'for every input' (looked for: loops, veiled, ifaces, maps, wideKeys, modest, calm, conditions, laid).
  DERIVED. THE GIVEN ROWS OF THIS SEAT. 2 by the template 'for every input the law returns true; each argument reads behind the call as it read before'; 0 by the template 'total and deterministic' (their statements: Qxb6615600aTotals.lean).
  GIVEN WITH THE SEED: the statements are not yours to turn. If you find one false, say at which input.
  Laid BY PROGRAM, IN A SANDBOX (cutbox-rows.mjs): the forced cells as the released guide's own fill.sh prints them over the translation 222cb579365cd08e… (all of the seat's roots in one cut). By AI agents, Wed Nov 11 2026. No macro, syntax, notation, axiom, sorry.
-/
import Derived.Test.Qxb6615600aChecked
import GoSem.Claim
import GoSem.ClaimJoined
import GoSem.ClaimMapViews
import Derived.JoinedTies
import Derived.KernelRfl
namespace Go.Proofs.Qxb6615600a
/- THE CELL 'sum', in the pinned program and in every row, IS THE sha256 OF THE DUMP (.gsa) THAT Qxb6615600aProg.lean LOADS. Nothing in Lean hashes anything: it is a label: what it is worth is what the hold of that sum in a sandbox is worth. -/
noncomputable def Try.pinned : Pinned := { name := "qxb6615600a", sum := "222cb579365cd08e83ffee307ff178fe8323ec122c697919b2f19cf8e7d90aee", checked := Try.checked }
namespace Rows
def none {H : Type} : Left H := { results := [], args := [] }

/-- 'zzlaws_root_b1.FnAckScriptKeepsGreatest': WHATEVER THE INPUT: true; the input reads as it did. -/
def fnAckScriptKeepsGreatestSpec : ChangeSpec := { name := "fnAckScriptKeepsGreatest", fn := fun _ => fun
  | [d1, d2, d3, d4] => { results := [.lit (.bool true)], args := [d1, d2, d3, d4] }
  | _ => none }
def fnAckScriptKeepsGreatestRow : OpenClaim := { program := "qxb6615600a", sum := "222cb579365cd08e83ffee307ff178fe8323ec122c697919b2f19cf8e7d90aee", func := "example.com/chute/zzlaws_root_b1.FnAckScriptKeepsGreatest", spec := "fnAckScriptKeepsGreatest", inPlace := ["(*internal/sync.Mutex).Lock", "internal/race.Disable", "sync/atomic.CompareAndSwapInt32", "internal/race.Enable", "internal/race.Acquire", "(*internal/sync.Mutex).lockSlow", "internal/sync.runtime_canSpin", "internal/sync.runtime_doSpin", "internal/sync.throw", "internal/sync.runtime_nanotime", "internal/sync.runtime_SemacquireMutex", "sync/atomic.AddInt32", "(*internal/sync.Mutex).Unlock", "internal/race.ReleaseMerge", "(*internal/sync.Mutex).unlockSlow", "internal/sync.fatal", "internal/sync.runtime_Semrelease"], apart := false }
def FnAckScriptKeepsGreatestSaid : Prop := fnAckScriptKeepsGreatestRow.holds Try.pinned (OpenSpec.ofChange fnAckScriptKeepsGreatestSpec)

/-- ITS FALSE NEIGHBOUR: 'it returns false'. Refute it at one input. -/
def fnAckScriptKeepsGreatestWrong : ChangeSpec := { name := "fnAckScriptKeepsGreatest", fn := fun _ => fun
  | [d1, d2, d3, d4] => { results := [.lit (.bool false)], args := [d1, d2, d3, d4] }
  | _ => none }
def FnAckScriptKeepsGreatestWrongFalsely : Prop := fnAckScriptKeepsGreatestRow.holds Try.pinned (OpenSpec.ofChange fnAckScriptKeepsGreatestWrong)

/-- 'zzlaws_root_b1.FnAckRefusedAfterFailure': WHATEVER THE INPUT: true; the input reads as it did. -/
def fnAckRefusedAfterFailureSpec : ChangeSpec := { name := "fnAckRefusedAfterFailure", fn := fun _ => fun
  | [d1, d2, d3, d4, d5, d6, d7, d8, d9] => { results := [.lit (.bool true)], args := [d1, d2, d3, d4, d5, d6, d7, d8, d9] }
  | _ => none }
def fnAckRefusedAfterFailureRow : OpenClaim := { program := "qxb6615600a", sum := "222cb579365cd08e83ffee307ff178fe8323ec122c697919b2f19cf8e7d90aee", func := "example.com/chute/zzlaws_root_b1.FnAckRefusedAfterFailure", spec := "fnAckRefusedAfterFailure", inPlace := ["(*internal/sync.Mutex).Lock", "internal/race.Disable", "sync/atomic.CompareAndSwapInt32", "internal/race.Enable", "internal/race.Acquire", "(*internal/sync.Mutex).lockSlow", "internal/sync.runtime_canSpin", "internal/sync.runtime_doSpin", "internal/sync.throw", "internal/sync.runtime_nanotime", "internal/sync.runtime_SemacquireMutex", "sync/atomic.AddInt32", "(*internal/sync.Mutex).Unlock", "internal/race.ReleaseMerge", "(*internal/sync.Mutex).unlockSlow", "internal/sync.fatal", "internal/sync.runtime_Semrelease"], apart := false }
def FnAckRefusedAfterFailureSaid : Prop := fnAckRefusedAfterFailureRow.holds Try.pinned (OpenSpec.ofChange fnAckRefusedAfterFailureSpec)

/-- ITS FALSE NEIGHBOUR: 'it returns false'. Refute it at one input. -/
def fnAckRefusedAfterFailureWrong : ChangeSpec := { name := "fnAckRefusedAfterFailure", fn := fun _ => fun
  | [d1, d2, d3, d4, d5, d6, d7, d8, d9] => { results := [.lit (.bool false)], args := [d1, d2, d3, d4, d5, d6, d7, d8, d9] }
  | _ => none }
def FnAckRefusedAfterFailureWrongFalsely : Prop := fnAckRefusedAfterFailureRow.holds Try.pinned (OpenSpec.ofChange fnAckRefusedAfterFailureWrong)

end Rows
end Go.Proofs.Qxb6615600a
