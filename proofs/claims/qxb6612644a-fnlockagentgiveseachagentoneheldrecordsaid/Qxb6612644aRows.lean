/-
  No cell of these rows narrows 'for every input' (looked for: loops, veiled, ifaces, maps, wideKeys, modest, calm, conditions, laid).
  DERIVED. THE GIVEN ROWS OF THIS SEAT. 2 by the template 'for every input the law returns true; each argument reads behind the call as it read before'; 0 by the template 'total and deterministic' (their statements: Qxb6612644aTotals.lean).
  GIVEN WITH THE SEED: the statements are not yours to turn. If you find one false, say at which input.
  Laid BY PROGRAM, IN A SANDBOX (cutbox-rows.mjs): the forced cells as the released guide's own fill.sh prints them over the translation 7c0c49f2584c7cf0… (all of the seat's roots in one cut). By AI agents, Wed Nov 11 2026. No macro, syntax, notation, axiom, sorry.
-/
import Derived.Test.Qxb6612644aChecked
import GoSem.Claim
import GoSem.ClaimJoined
import GoSem.ClaimMapViews
import Derived.JoinedTies
import Derived.KernelRfl
namespace Go.Proofs.Qxb6612644a
/- THE CELL 'sum', in the pinned program and in every row, IS THE sha256 OF THE DUMP (.gsa) THAT Qxb6612644aProg.lean LOADS. Nothing in Lean hashes anything: it is a label: what it is worth is what the hold of that sum in a sandbox is worth. -/
noncomputable def Try.pinned : Pinned := { name := "qxb6612644a", sum := "7c0c49f2584c7cf07beeff9f51757024dfed7f72b22befb30b0b6e14add03ca0", checked := Try.checked }
namespace Rows
def none {H : Type} : Left H := { results := [], args := [] }

/-- 'zzlaws_usagelog_b1.FnLockAgentGivesEachAgentOneHeldRecord': WHATEVER THE INPUT: true; the input reads as it did. -/
def fnLockAgentGivesEachAgentOneHeldRecordSpec : ChangeSpec := { name := "fnLockAgentGivesEachAgentOneHeldRecord", fn := fun _ => fun
  | [d] => { results := [.lit (.bool true)], args := [d] }
  | _ => none }
def fnLockAgentGivesEachAgentOneHeldRecordRow : OpenClaim := { program := "qxb6612644a", sum := "7c0c49f2584c7cf07beeff9f51757024dfed7f72b22befb30b0b6e14add03ca0", func := "example.com/idunn/idunn/zzlaws_usagelog_b1.FnLockAgentGivesEachAgentOneHeldRecord", spec := "fnLockAgentGivesEachAgentOneHeldRecord", inPlace := ["(*internal/sync.Mutex).Lock", "internal/race.Disable", "sync/atomic.CompareAndSwapInt32", "internal/race.Enable", "internal/race.Acquire", "(*internal/sync.Mutex).lockSlow", "internal/sync.runtime_canSpin", "internal/sync.runtime_doSpin", "internal/sync.throw", "internal/sync.runtime_nanotime", "internal/sync.runtime_SemacquireMutex", "sync/atomic.AddInt32", "(*internal/sync.Mutex).Unlock", "internal/race.ReleaseMerge", "(*internal/sync.Mutex).unlockSlow", "internal/sync.fatal", "internal/sync.runtime_Semrelease"], apart := false }
def FnLockAgentGivesEachAgentOneHeldRecordSaid : Prop := fnLockAgentGivesEachAgentOneHeldRecordRow.holds Try.pinned (OpenSpec.ofChange fnLockAgentGivesEachAgentOneHeldRecordSpec)

/-- ITS FALSE NEIGHBOUR: 'it returns false'. Refute it at one input. -/
def fnLockAgentGivesEachAgentOneHeldRecordWrong : ChangeSpec := { name := "fnLockAgentGivesEachAgentOneHeldRecord", fn := fun _ => fun
  | [d] => { results := [.lit (.bool false)], args := [d] }
  | _ => none }
def FnLockAgentGivesEachAgentOneHeldRecordWrongFalsely : Prop := fnLockAgentGivesEachAgentOneHeldRecordRow.holds Try.pinned (OpenSpec.ofChange fnLockAgentGivesEachAgentOneHeldRecordWrong)

/-- 'zzlaws_usagelog_b1.FnLockAgentHoldsTheAgentsLockAndFreesTheLogs': WHATEVER THE INPUT: true; the input reads as it did. -/
def fnLockAgentHoldsTheAgentsLockAndFreesTheLogsSpec : ChangeSpec := { name := "fnLockAgentHoldsTheAgentsLockAndFreesTheLogs", fn := fun _ => fun
  | [d1, d2] => { results := [.lit (.bool true)], args := [d1, d2] }
  | _ => none }
def fnLockAgentHoldsTheAgentsLockAndFreesTheLogsRow : OpenClaim := { program := "qxb6612644a", sum := "7c0c49f2584c7cf07beeff9f51757024dfed7f72b22befb30b0b6e14add03ca0", func := "example.com/idunn/idunn/zzlaws_usagelog_b1.FnLockAgentHoldsTheAgentsLockAndFreesTheLogs", spec := "fnLockAgentHoldsTheAgentsLockAndFreesTheLogs", inPlace := ["(*internal/sync.Mutex).Lock", "internal/race.Disable", "sync/atomic.CompareAndSwapInt32", "internal/race.Enable", "internal/race.Acquire", "(*internal/sync.Mutex).lockSlow", "internal/sync.runtime_canSpin", "internal/sync.runtime_doSpin", "internal/sync.throw", "internal/sync.runtime_nanotime", "internal/sync.runtime_SemacquireMutex", "sync/atomic.AddInt32", "(*internal/sync.Mutex).Unlock", "internal/race.ReleaseMerge", "(*internal/sync.Mutex).unlockSlow", "internal/sync.fatal", "internal/sync.runtime_Semrelease", "(*internal/sync.Mutex).TryLock"], apart := false }
def FnLockAgentHoldsTheAgentsLockAndFreesTheLogsSaid : Prop := fnLockAgentHoldsTheAgentsLockAndFreesTheLogsRow.holds Try.pinned (OpenSpec.ofChange fnLockAgentHoldsTheAgentsLockAndFreesTheLogsSpec)

/-- ITS FALSE NEIGHBOUR: 'it returns false'. Refute it at one input. -/
def fnLockAgentHoldsTheAgentsLockAndFreesTheLogsWrong : ChangeSpec := { name := "fnLockAgentHoldsTheAgentsLockAndFreesTheLogs", fn := fun _ => fun
  | [d1, d2] => { results := [.lit (.bool false)], args := [d1, d2] }
  | _ => none }
def FnLockAgentHoldsTheAgentsLockAndFreesTheLogsWrongFalsely : Prop := fnLockAgentHoldsTheAgentsLockAndFreesTheLogsRow.holds Try.pinned (OpenSpec.ofChange fnLockAgentHoldsTheAgentsLockAndFreesTheLogsWrong)

end Rows
end Go.Proofs.Qxb6612644a
