/-
  No cell of these rows narrows 'for every input' (looked for: loops, veiled, ifaces, maps, wideKeys, modest, calm, conditions, laid).
  DERIVED. THE GIVEN ROWS OF THIS SEAT. 2 by the template 'for every input the law returns true; each argument reads behind the call as it read before'; 0 by the template 'total and deterministic' (their statements: Qxb6616645aTotals.lean).
  GIVEN WITH THE SEED: the statements are not yours to turn. If you find one false, say at which input.
  Laid BY PROGRAM, IN A SANDBOX (cutbox-rows.mjs): the forced cells as the released guide's own fill.sh prints them over the translation 3ab2f8dfa445ac74… (all of the seat's roots in one cut). By AI agents, Wed Nov 11 2026. No macro, syntax, notation, axiom, sorry.
-/
import Derived.Test.Qxb6616645aChecked
import GoSem.Claim
import GoSem.ClaimJoined
import GoSem.ClaimMapViews
import Derived.JoinedTies
import Derived.KernelRfl
namespace Go.Proofs.Qxb6616645a
/- THE CELL 'sum', in the pinned program and in every row, IS THE sha256 OF THE DUMP (.gsa) THAT Qxb6616645aProg.lean LOADS. Nothing in Lean hashes anything: it is a label: what it is worth is what the hold of that sum in a sandbox is worth. -/
noncomputable def Try.pinned : Pinned := { name := "qxb6616645a", sum := "3ab2f8dfa445ac74543e12709ed6e7e96fd8da1a10040cab97a6db55ca64cb84", checked := Try.checked }
namespace Rows
def none {H : Type} : Left H := { results := [], args := [] }

/-- 'zzlaws_pkg_engine_b1.FnRWMutexReadersLeaveInTurn': WHATEVER THE INPUT: true; the input reads as it did. -/
def fnRWMutexReadersLeaveInTurnSpec : ChangeSpec := { name := "fnRWMutexReadersLeaveInTurn", fn := fun _ => fun
  | [d1, d2, d3] => { results := [.lit (.bool true)], args := [d1, d2, d3] }
  | _ => none }
def fnRWMutexReadersLeaveInTurnRow : OpenClaim := { program := "qxb6616645a", sum := "3ab2f8dfa445ac74543e12709ed6e7e96fd8da1a10040cab97a6db55ca64cb84", func := "example.com/palimpsest/palimpsest/zzlaws_pkg_engine_b1.FnRWMutexReadersLeaveInTurn", spec := "fnRWMutexReadersLeaveInTurn", inPlace := ["(*internal/sync.Mutex).Lock", "internal/race.Disable", "sync/atomic.CompareAndSwapInt32", "internal/race.Enable", "internal/race.Acquire", "(*internal/sync.Mutex).lockSlow", "internal/sync.runtime_canSpin", "internal/sync.runtime_doSpin", "internal/sync.throw", "internal/sync.runtime_nanotime", "internal/sync.runtime_SemacquireMutex", "sync/atomic.AddInt32", "(*internal/sync.Mutex).Unlock", "internal/race.ReleaseMerge", "(*internal/sync.Mutex).unlockSlow", "internal/sync.fatal", "internal/sync.runtime_Semrelease"], apart := false }
def FnRWMutexReadersLeaveInTurnSaid : Prop := fnRWMutexReadersLeaveInTurnRow.holds Try.pinned (OpenSpec.ofChange fnRWMutexReadersLeaveInTurnSpec)

/-- ITS FALSE NEIGHBOUR: 'it returns false'. Refute it at one input. -/
def fnRWMutexReadersLeaveInTurnWrong : ChangeSpec := { name := "fnRWMutexReadersLeaveInTurn", fn := fun _ => fun
  | [d1, d2, d3] => { results := [.lit (.bool false)], args := [d1, d2, d3] }
  | _ => none }
def FnRWMutexReadersLeaveInTurnWrongFalsely : Prop := fnRWMutexReadersLeaveInTurnRow.holds Try.pinned (OpenSpec.ofChange fnRWMutexReadersLeaveInTurnWrong)

/-- 'zzlaws_pkg_engine_b1.FnRWMutexQueueTailWaits': WHATEVER THE INPUT: true; the input reads as it did. -/
def fnRWMutexQueueTailWaitsSpec : ChangeSpec := { name := "fnRWMutexQueueTailWaits", fn := fun _ => fun
  | [d1, d2] => { results := [.lit (.bool true)], args := [d1, d2] }
  | _ => none }
def fnRWMutexQueueTailWaitsRow : OpenClaim := { program := "qxb6616645a", sum := "3ab2f8dfa445ac74543e12709ed6e7e96fd8da1a10040cab97a6db55ca64cb84", func := "example.com/palimpsest/palimpsest/zzlaws_pkg_engine_b1.FnRWMutexQueueTailWaits", spec := "fnRWMutexQueueTailWaits", inPlace := ["(*internal/sync.Mutex).Lock", "internal/race.Disable", "sync/atomic.CompareAndSwapInt32", "internal/race.Enable", "internal/race.Acquire", "(*internal/sync.Mutex).lockSlow", "internal/sync.runtime_canSpin", "internal/sync.runtime_doSpin", "internal/sync.throw", "internal/sync.runtime_nanotime", "internal/sync.runtime_SemacquireMutex", "sync/atomic.AddInt32", "(*internal/sync.Mutex).Unlock", "internal/race.ReleaseMerge", "(*internal/sync.Mutex).unlockSlow", "internal/sync.fatal", "internal/sync.runtime_Semrelease"], apart := false }
def FnRWMutexQueueTailWaitsSaid : Prop := fnRWMutexQueueTailWaitsRow.holds Try.pinned (OpenSpec.ofChange fnRWMutexQueueTailWaitsSpec)

/-- ITS FALSE NEIGHBOUR: 'it returns false'. Refute it at one input. -/
def fnRWMutexQueueTailWaitsWrong : ChangeSpec := { name := "fnRWMutexQueueTailWaits", fn := fun _ => fun
  | [d1, d2] => { results := [.lit (.bool false)], args := [d1, d2] }
  | _ => none }
def FnRWMutexQueueTailWaitsWrongFalsely : Prop := fnRWMutexQueueTailWaitsRow.holds Try.pinned (OpenSpec.ofChange fnRWMutexQueueTailWaitsWrong)

end Rows
end Go.Proofs.Qxb6616645a
