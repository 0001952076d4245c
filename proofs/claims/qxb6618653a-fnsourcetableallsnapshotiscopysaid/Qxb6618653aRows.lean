/-
  No cell of these rows narrows 'for every input' (looked for: loops, veiled, ifaces, maps, wideKeys, modest, calm, conditions, laid).
  DERIVED. THE GIVEN ROWS OF THIS SEAT. 2 by the template 'for every input the law returns true; each argument reads behind the call as it read before'; 0 by the template 'total and deterministic' (their statements: Qxb6618653aTotals.lean).
  GIVEN WITH THE SEED: the statements are not yours to turn. If you find one false, say at which input.
  Laid BY PROGRAM, IN A SANDBOX (cutbox-rows.mjs): the forced cells as the released guide's own fill.sh prints them over the translation bdf370bcd758ae06… (all of the seat's roots in one cut). By AI agents, Wed Nov 11 2026. No macro, syntax, notation, axiom, sorry.
-/
import Derived.Test.Qxb6618653aChecked
import GoSem.Claim
import GoSem.ClaimJoined
import GoSem.ClaimMapViews
import Derived.JoinedTies
import Derived.KernelRfl
namespace Go.Proofs.Qxb6618653a
/- THE CELL 'sum', in the pinned program and in every row, IS THE sha256 OF THE DUMP (.gsa) THAT Qxb6618653aProg.lean LOADS. Nothing in Lean hashes anything: it is a label: what it is worth is what the hold of that sum in a sandbox is worth. -/
noncomputable def Try.pinned : Pinned := { name := "qxb6618653a", sum := "bdf370bcd758ae066b929d9c6810182d4dcf9a8ca69c57c4df4b11b1c353617a", checked := Try.checked }
namespace Rows
def none {H : Type} : Left H := { results := [], args := [] }

/-- 'zzlaws_internal_workflow_b1.FnSourceTableNumbersFirstRetrievals': WHATEVER THE INPUT: true; the input reads as it did. -/
def fnSourceTableNumbersFirstRetrievalsSpec : ChangeSpec := { name := "fnSourceTableNumbersFirstRetrievals", fn := fun _ => fun
  | [d] => { results := [.lit (.bool true)], args := [d] }
  | _ => none }
def fnSourceTableNumbersFirstRetrievalsRow : OpenClaim := { program := "qxb6618653a", sum := "bdf370bcd758ae066b929d9c6810182d4dcf9a8ca69c57c4df4b11b1c353617a", func := "example.com/enquiry-to-report/enquiry-to-report/zzlaws_internal_workflow_b1.FnSourceTableNumbersFirstRetrievals", spec := "fnSourceTableNumbersFirstRetrievals", inPlace := ["(*internal/sync.Mutex).Lock", "internal/race.Disable", "sync/atomic.CompareAndSwapInt32", "internal/race.Enable", "internal/race.Acquire", "(*internal/sync.Mutex).lockSlow", "internal/sync.runtime_canSpin", "internal/sync.runtime_doSpin", "internal/sync.throw", "internal/sync.runtime_nanotime", "internal/sync.runtime_SemacquireMutex", "sync/atomic.AddInt32", "(*internal/sync.Mutex).Unlock", "internal/race.ReleaseMerge", "(*internal/sync.Mutex).unlockSlow", "internal/sync.fatal", "internal/sync.runtime_Semrelease"], unfollowed := true, recurses := true, plainKeys := false, apart := false }
def FnSourceTableNumbersFirstRetrievalsSaid : Prop := fnSourceTableNumbersFirstRetrievalsRow.holds Try.pinned (OpenSpec.ofChange fnSourceTableNumbersFirstRetrievalsSpec)

/-- ITS FALSE NEIGHBOUR: 'it returns false'. Refute it at one input. -/
def fnSourceTableNumbersFirstRetrievalsWrong : ChangeSpec := { name := "fnSourceTableNumbersFirstRetrievals", fn := fun _ => fun
  | [d] => { results := [.lit (.bool false)], args := [d] }
  | _ => none }
def FnSourceTableNumbersFirstRetrievalsWrongFalsely : Prop := fnSourceTableNumbersFirstRetrievalsRow.holds Try.pinned (OpenSpec.ofChange fnSourceTableNumbersFirstRetrievalsWrong)

/-- 'zzlaws_internal_workflow_b1.FnSourceTableAllSnapshotIsCopy': WHATEVER THE INPUT: true; the input reads as it did. -/
def fnSourceTableAllSnapshotIsCopySpec : ChangeSpec := { name := "fnSourceTableAllSnapshotIsCopy", fn := fun _ => fun
  | [d1, d2] => { results := [.lit (.bool true)], args := [d1, d2] }
  | _ => none }
def fnSourceTableAllSnapshotIsCopyRow : OpenClaim := { program := "qxb6618653a", sum := "bdf370bcd758ae066b929d9c6810182d4dcf9a8ca69c57c4df4b11b1c353617a", func := "example.com/enquiry-to-report/enquiry-to-report/zzlaws_internal_workflow_b1.FnSourceTableAllSnapshotIsCopy", spec := "fnSourceTableAllSnapshotIsCopy", inPlace := ["(*internal/sync.Mutex).Lock", "internal/race.Disable", "sync/atomic.CompareAndSwapInt32", "internal/race.Enable", "internal/race.Acquire", "(*internal/sync.Mutex).lockSlow", "internal/sync.runtime_canSpin", "internal/sync.runtime_doSpin", "internal/sync.throw", "internal/sync.runtime_nanotime", "internal/sync.runtime_SemacquireMutex", "sync/atomic.AddInt32", "(*internal/sync.Mutex).Unlock", "internal/race.ReleaseMerge", "(*internal/sync.Mutex).unlockSlow", "internal/sync.fatal", "internal/sync.runtime_Semrelease"], unfollowed := true, recurses := true, plainKeys := false, apart := false }
def FnSourceTableAllSnapshotIsCopySaid : Prop := fnSourceTableAllSnapshotIsCopyRow.holds Try.pinned (OpenSpec.ofChange fnSourceTableAllSnapshotIsCopySpec)

/-- ITS FALSE NEIGHBOUR: 'it returns false'. Refute it at one input. -/
def fnSourceTableAllSnapshotIsCopyWrong : ChangeSpec := { name := "fnSourceTableAllSnapshotIsCopy", fn := fun _ => fun
  | [d1, d2] => { results := [.lit (.bool false)], args := [d1, d2] }
  | _ => none }
def FnSourceTableAllSnapshotIsCopyWrongFalsely : Prop := fnSourceTableAllSnapshotIsCopyRow.holds Try.pinned (OpenSpec.ofChange fnSourceTableAllSnapshotIsCopyWrong)

end Rows
end Go.Proofs.Qxb6618653a
