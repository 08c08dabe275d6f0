/-
  No cell of these rows narrows 'for every input' (looked for: loops, veiled, ifaces, maps, wideKeys, modest, calm, conditions, laid).
  DERIVED. THE GIVEN ROWS OF THIS SEAT. 2 by the template 'for every input the law returns true; each argument reads behind the call as it read before'; 0 by the template 'total and deterministic' (their statements: Qxb6613475aTotals.lean).
  GIVEN WITH THE SEED: the statements are not yours to turn. If you find one false, say at which input.
  Laid BY PROGRAM, IN A SANDBOX (cutbox-rows.mjs): the forced cells as the released guide's own fill.sh prints them over the translation 8a93e3e9840454f2… (all of the seat's roots in one cut). By AI agents, Wed Nov 11 2026. No macro, syntax, notation, axiom, sorry.
-/
import Derived.Test.Qxb6613475aChecked
import GoSem.Claim
import GoSem.ClaimJoined
import GoSem.ClaimMapViews
import Derived.JoinedTies
import Derived.KernelRfl
namespace Go.Proofs.Qxb6613475a
/- THE CELL 'sum', in the pinned program and in every row, IS THE sha256 OF THE DUMP (.gsa) THAT Qxb6613475aProg.lean LOADS. Nothing in Lean hashes anything: it is a label: what it is worth is what the hold of that sum in a sandbox is worth. -/
noncomputable def Try.pinned : Pinned := { name := "qxb6613475a", sum := "8a93e3e9840454f233f76c3fdc3298a18c7668f1de84dfdd769be8b771d11aba", checked := Try.checked }
namespace Rows
def none {H : Type} : Left H := { results := [], args := [] }

/-- 'zzlaws_store_b1.FnBatchSizeCountsMembersAndLeavesLockFree': WHATEVER THE INPUT: true; the input reads as it did. -/
def fnBatchSizeCountsMembersAndLeavesLockFreeSpec : ChangeSpec := { name := "fnBatchSizeCountsMembersAndLeavesLockFree", fn := fun _ => fun
  | [d] => { results := [.lit (.bool true)], args := [d] }
  | _ => none }
def fnBatchSizeCountsMembersAndLeavesLockFreeRow : OpenClaim := { program := "qxb6613475a", sum := "8a93e3e9840454f233f76c3fdc3298a18c7668f1de84dfdd769be8b771d11aba", func := "example.com/dibs/dibs/zzlaws_store_b1.FnBatchSizeCountsMembersAndLeavesLockFree", spec := "fnBatchSizeCountsMembersAndLeavesLockFree", inPlace := ["(*internal/sync.Mutex).Lock", "internal/race.Disable", "sync/atomic.CompareAndSwapInt32", "internal/race.Enable", "internal/race.Acquire", "(*internal/sync.Mutex).lockSlow", "internal/sync.runtime_canSpin", "internal/sync.runtime_doSpin", "internal/sync.throw", "internal/sync.runtime_nanotime", "internal/sync.runtime_SemacquireMutex", "sync/atomic.AddInt32", "(*internal/sync.Mutex).Unlock", "internal/race.ReleaseMerge", "(*internal/sync.Mutex).unlockSlow", "internal/sync.fatal", "internal/sync.runtime_Semrelease"], apart := false }
def FnBatchSizeCountsMembersAndLeavesLockFreeSaid : Prop := fnBatchSizeCountsMembersAndLeavesLockFreeRow.holds Try.pinned (OpenSpec.ofChange fnBatchSizeCountsMembersAndLeavesLockFreeSpec)

/-- ITS FALSE NEIGHBOUR: 'it returns false'. Refute it at one input. -/
def fnBatchSizeCountsMembersAndLeavesLockFreeWrong : ChangeSpec := { name := "fnBatchSizeCountsMembersAndLeavesLockFree", fn := fun _ => fun
  | [d] => { results := [.lit (.bool false)], args := [d] }
  | _ => none }
def FnBatchSizeCountsMembersAndLeavesLockFreeWrongFalsely : Prop := fnBatchSizeCountsMembersAndLeavesLockFreeRow.holds Try.pinned (OpenSpec.ofChange fnBatchSizeCountsMembersAndLeavesLockFreeWrong)

/-- 'zzlaws_store_b1.FnCountersAddUndoneByNegation': WHATEVER THE INPUT: true; the input reads as it did. -/
def fnCountersAddUndoneByNegationSpec : ChangeSpec := { name := "fnCountersAddUndoneByNegation", fn := fun _ => fun
  | [d1, d2, d3] => { results := [.lit (.bool true)], args := [d1, d2, d3] }
  | _ => none }
def fnCountersAddUndoneByNegationRow : OpenClaim := { program := "qxb6613475a", sum := "8a93e3e9840454f233f76c3fdc3298a18c7668f1de84dfdd769be8b771d11aba", func := "example.com/dibs/dibs/zzlaws_store_b1.FnCountersAddUndoneByNegation", spec := "fnCountersAddUndoneByNegation", inPlace := ["sync/atomic.StoreInt64", "sync/atomic.AddInt64", "sync/atomic.LoadInt64"], apart := false }
def FnCountersAddUndoneByNegationSaid : Prop := fnCountersAddUndoneByNegationRow.holds Try.pinned (OpenSpec.ofChange fnCountersAddUndoneByNegationSpec)

/-- ITS FALSE NEIGHBOUR: 'it returns false'. Refute it at one input. -/
def fnCountersAddUndoneByNegationWrong : ChangeSpec := { name := "fnCountersAddUndoneByNegation", fn := fun _ => fun
  | [d1, d2, d3] => { results := [.lit (.bool false)], args := [d1, d2, d3] }
  | _ => none }
def FnCountersAddUndoneByNegationWrongFalsely : Prop := fnCountersAddUndoneByNegationRow.holds Try.pinned (OpenSpec.ofChange fnCountersAddUndoneByNegationWrong)

end Rows
end Go.Proofs.Qxb6613475a
