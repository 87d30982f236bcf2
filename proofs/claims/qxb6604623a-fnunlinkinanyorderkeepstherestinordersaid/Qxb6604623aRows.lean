/-
  No cell of these rows narrows 'for every input' (looked for: loops, veiled, ifaces, maps, wideKeys, modest, calm, conditions, laid).
  DERIVED. THE GIVEN ROWS OF THIS SEAT. 7 by the template 'for every input the law returns true; each argument reads behind the call as it read before'; 0 by the template 'total and deterministic' (their statements: Qxb6604623aTotals.lean).
  GIVEN WITH THE SEED: the statements are not yours to turn. If you find one false, say at which input.
  Laid BY PROGRAM, IN A SANDBOX (cutbox-rows.mjs): the forced cells as the released guide's own fill.sh prints them over the translation a8acca211336719b… (all of the seat's roots in one cut). By AI agents, Wed Nov 11 2026. No macro, syntax, notation, axiom, sorry.
-/
import Derived.Test.Qxb6604623aChecked
import GoSem.Claim
import GoSem.ClaimJoined
import GoSem.ClaimMapViews
import Derived.JoinedTies
import Derived.KernelRfl
namespace Go.Proofs.Qxb6604623a
/- THE CELL 'sum', in the pinned program and in every row, IS THE sha256 OF THE DUMP (.gsa) THAT Qxb6604623aProg.lean LOADS. Nothing in Lean hashes anything: it is a label: what it is worth is what the hold of that sum in a sandbox is worth. -/
noncomputable def Try.pinned : Pinned := { name := "qxb6604623a", sum := "a8acca211336719b15a865cd606cc1bf7bee988349624c32a8873d09ef95942d", checked := Try.checked }
namespace Rows
def none {H : Type} : Left H := { results := [], args := [] }

/-- 'zzlaws_internal_waitq_b1.FnTryLockTakesOnlyAFreeGuard': WHATEVER THE INPUT: true; the input reads as it did. -/
def fnTryLockTakesOnlyAFreeGuardSpec : ChangeSpec := { name := "fnTryLockTakesOnlyAFreeGuard", fn := fun _ => fun
  | [d] => { results := [.lit (.bool true)], args := [d] }
  | _ => none }
def fnTryLockTakesOnlyAFreeGuardRow : OpenClaim := { program := "qxb6604623a", sum := "a8acca211336719b15a865cd606cc1bf7bee988349624c32a8873d09ef95942d", func := "example.com/evenhand/evenhand/zzlaws_internal_waitq_b1.FnTryLockTakesOnlyAFreeGuard", spec := "fnTryLockTakesOnlyAFreeGuard", inPlace := ["sync/atomic.CompareAndSwapUint32", "sync/atomic.LoadUint32", "sync/atomic.LoadInt64"], apart := false }
def FnTryLockTakesOnlyAFreeGuardSaid : Prop := fnTryLockTakesOnlyAFreeGuardRow.holds Try.pinned (OpenSpec.ofChange fnTryLockTakesOnlyAFreeGuardSpec)

/-- ITS FALSE NEIGHBOUR: 'it returns false'. Refute it at one input. -/
def fnTryLockTakesOnlyAFreeGuardWrong : ChangeSpec := { name := "fnTryLockTakesOnlyAFreeGuard", fn := fun _ => fun
  | [d] => { results := [.lit (.bool false)], args := [d] }
  | _ => none }
def FnTryLockTakesOnlyAFreeGuardWrongFalsely : Prop := fnTryLockTakesOnlyAFreeGuardRow.holds Try.pinned (OpenSpec.ofChange fnTryLockTakesOnlyAFreeGuardWrong)

/-- 'zzlaws_internal_waitq_b1.FnGuardScriptMatchesAModelLock': WHATEVER THE INPUT: true; the input reads as it did. -/
def fnGuardScriptMatchesAModelLockSpec : ChangeSpec := { name := "fnGuardScriptMatchesAModelLock", fn := fun _ => fun
  | [d] => { results := [.lit (.bool true)], args := [d] }
  | _ => none }
def fnGuardScriptMatchesAModelLockRow : OpenClaim := { program := "qxb6604623a", sum := "a8acca211336719b15a865cd606cc1bf7bee988349624c32a8873d09ef95942d", func := "example.com/evenhand/evenhand/zzlaws_internal_waitq_b1.FnGuardScriptMatchesAModelLock", spec := "fnGuardScriptMatchesAModelLock", inPlace := ["sync/atomic.CompareAndSwapUint32", "sync/atomic.StoreUint32", "sync/atomic.LoadUint32"], apart := false }
def FnGuardScriptMatchesAModelLockSaid : Prop := fnGuardScriptMatchesAModelLockRow.holds Try.pinned (OpenSpec.ofChange fnGuardScriptMatchesAModelLockSpec)

/-- ITS FALSE NEIGHBOUR: 'it returns false'. Refute it at one input. -/
def fnGuardScriptMatchesAModelLockWrong : ChangeSpec := { name := "fnGuardScriptMatchesAModelLock", fn := fun _ => fun
  | [d] => { results := [.lit (.bool false)], args := [d] }
  | _ => none }
def FnGuardScriptMatchesAModelLockWrongFalsely : Prop := fnGuardScriptMatchesAModelLockRow.holds Try.pinned (OpenSpec.ofChange fnGuardScriptMatchesAModelLockWrong)

/-- 'zzlaws_internal_waitq_b1.FnUnlockFreesTheGuard': WHATEVER THE INPUT: true; the input reads as it did. -/
def fnUnlockFreesTheGuardSpec : ChangeSpec := { name := "fnUnlockFreesTheGuard", fn := fun _ => fun
  | [d1, d2] => { results := [.lit (.bool true)], args := [d1, d2] }
  | _ => none }
def fnUnlockFreesTheGuardRow : OpenClaim := { program := "qxb6604623a", sum := "a8acca211336719b15a865cd606cc1bf7bee988349624c32a8873d09ef95942d", func := "example.com/evenhand/evenhand/zzlaws_internal_waitq_b1.FnUnlockFreesTheGuard", spec := "fnUnlockFreesTheGuard", inPlace := ["sync/atomic.CompareAndSwapUint32", "sync/atomic.StoreUint32", "sync/atomic.LoadUint32"], apart := false }
def FnUnlockFreesTheGuardSaid : Prop := fnUnlockFreesTheGuardRow.holds Try.pinned (OpenSpec.ofChange fnUnlockFreesTheGuardSpec)

/-- ITS FALSE NEIGHBOUR: 'it returns false'. Refute it at one input. -/
def fnUnlockFreesTheGuardWrong : ChangeSpec := { name := "fnUnlockFreesTheGuard", fn := fun _ => fun
  | [d1, d2] => { results := [.lit (.bool false)], args := [d1, d2] }
  | _ => none }
def FnUnlockFreesTheGuardWrongFalsely : Prop := fnUnlockFreesTheGuardRow.holds Try.pinned (OpenSpec.ofChange fnUnlockFreesTheGuardWrong)

/-- 'zzlaws_internal_waitq_b1.FnFrontIsTheOldestArrival': WHATEVER THE INPUT: true; the input reads as it did. -/
def fnFrontIsTheOldestArrivalSpec : ChangeSpec := { name := "fnFrontIsTheOldestArrival", fn := fun _ => fun
  | [d] => { results := [.lit (.bool true)], args := [d] }
  | _ => none }
def fnFrontIsTheOldestArrivalRow : OpenClaim := { program := "qxb6604623a", sum := "a8acca211336719b15a865cd606cc1bf7bee988349624c32a8873d09ef95942d", func := "example.com/evenhand/evenhand/zzlaws_internal_waitq_b1.FnFrontIsTheOldestArrival", spec := "fnFrontIsTheOldestArrival", inPlace := ["sync/atomic.StoreInt64", "sync/atomic.CompareAndSwapUint32", "sync/atomic.LoadUint32", "sync/atomic.LoadInt64"], apart := false }
def FnFrontIsTheOldestArrivalSaid : Prop := fnFrontIsTheOldestArrivalRow.holds Try.pinned (OpenSpec.ofChange fnFrontIsTheOldestArrivalSpec)

/-- ITS FALSE NEIGHBOUR: 'it returns false'. Refute it at one input. -/
def fnFrontIsTheOldestArrivalWrong : ChangeSpec := { name := "fnFrontIsTheOldestArrival", fn := fun _ => fun
  | [d] => { results := [.lit (.bool false)], args := [d] }
  | _ => none }
def FnFrontIsTheOldestArrivalWrongFalsely : Prop := fnFrontIsTheOldestArrivalRow.holds Try.pinned (OpenSpec.ofChange fnFrontIsTheOldestArrivalWrong)

/-- 'zzlaws_internal_waitq_b1.FnFrontDrainsInArrivalOrder': WHATEVER THE INPUT: true; the input reads as it did. -/
def fnFrontDrainsInArrivalOrderSpec : ChangeSpec := { name := "fnFrontDrainsInArrivalOrder", fn := fun _ => fun
  | [d] => { results := [.lit (.bool true)], args := [d] }
  | _ => none }
def fnFrontDrainsInArrivalOrderRow : OpenClaim := { program := "qxb6604623a", sum := "a8acca211336719b15a865cd606cc1bf7bee988349624c32a8873d09ef95942d", func := "example.com/evenhand/evenhand/zzlaws_internal_waitq_b1.FnFrontDrainsInArrivalOrder", spec := "fnFrontDrainsInArrivalOrder", inPlace := ["sync/atomic.StoreInt64", "sync/atomic.CompareAndSwapUint32", "sync/atomic.LoadInt64", "sync/atomic.LoadUint32"], apart := false }
def FnFrontDrainsInArrivalOrderSaid : Prop := fnFrontDrainsInArrivalOrderRow.holds Try.pinned (OpenSpec.ofChange fnFrontDrainsInArrivalOrderSpec)

/-- ITS FALSE NEIGHBOUR: 'it returns false'. Refute it at one input. -/
def fnFrontDrainsInArrivalOrderWrong : ChangeSpec := { name := "fnFrontDrainsInArrivalOrder", fn := fun _ => fun
  | [d] => { results := [.lit (.bool false)], args := [d] }
  | _ => none }
def FnFrontDrainsInArrivalOrderWrongFalsely : Prop := fnFrontDrainsInArrivalOrderRow.holds Try.pinned (OpenSpec.ofChange fnFrontDrainsInArrivalOrderWrong)

/-- 'zzlaws_internal_waitq_b1.FnUnlinkTakesOutExactlyThatWaiter': WHATEVER THE INPUT: true; the input reads as it did. -/
def fnUnlinkTakesOutExactlyThatWaiterSpec : ChangeSpec := { name := "fnUnlinkTakesOutExactlyThatWaiter", fn := fun _ => fun
  | [d1, d2] => { results := [.lit (.bool true)], args := [d1, d2] }
  | _ => none }
def fnUnlinkTakesOutExactlyThatWaiterRow : OpenClaim := { program := "qxb6604623a", sum := "a8acca211336719b15a865cd606cc1bf7bee988349624c32a8873d09ef95942d", func := "example.com/evenhand/evenhand/zzlaws_internal_waitq_b1.FnUnlinkTakesOutExactlyThatWaiter", spec := "fnUnlinkTakesOutExactlyThatWaiter", inPlace := ["sync/atomic.StoreInt64", "sync/atomic.CompareAndSwapUint32", "sync/atomic.LoadInt64", "sync/atomic.LoadUint32"], apart := false }
def FnUnlinkTakesOutExactlyThatWaiterSaid : Prop := fnUnlinkTakesOutExactlyThatWaiterRow.holds Try.pinned (OpenSpec.ofChange fnUnlinkTakesOutExactlyThatWaiterSpec)

/-- ITS FALSE NEIGHBOUR: 'it returns false'. Refute it at one input. -/
def fnUnlinkTakesOutExactlyThatWaiterWrong : ChangeSpec := { name := "fnUnlinkTakesOutExactlyThatWaiter", fn := fun _ => fun
  | [d1, d2] => { results := [.lit (.bool false)], args := [d1, d2] }
  | _ => none }
def FnUnlinkTakesOutExactlyThatWaiterWrongFalsely : Prop := fnUnlinkTakesOutExactlyThatWaiterRow.holds Try.pinned (OpenSpec.ofChange fnUnlinkTakesOutExactlyThatWaiterWrong)

/-- 'zzlaws_internal_waitq_b1.FnUnlinkInAnyOrderKeepsTheRestInOrder': WHATEVER THE INPUT: true; the input reads as it did. -/
def fnUnlinkInAnyOrderKeepsTheRestInOrderSpec : ChangeSpec := { name := "fnUnlinkInAnyOrderKeepsTheRestInOrder", fn := fun _ => fun
  | [d1, d2] => { results := [.lit (.bool true)], args := [d1, d2] }
  | _ => none }
def fnUnlinkInAnyOrderKeepsTheRestInOrderRow : OpenClaim := { program := "qxb6604623a", sum := "a8acca211336719b15a865cd606cc1bf7bee988349624c32a8873d09ef95942d", func := "example.com/evenhand/evenhand/zzlaws_internal_waitq_b1.FnUnlinkInAnyOrderKeepsTheRestInOrder", spec := "fnUnlinkInAnyOrderKeepsTheRestInOrder", inPlace := ["sync/atomic.StoreInt64", "sync/atomic.CompareAndSwapUint32", "sync/atomic.LoadInt64", "sync/atomic.LoadUint32"], apart := false }
def FnUnlinkInAnyOrderKeepsTheRestInOrderSaid : Prop := fnUnlinkInAnyOrderKeepsTheRestInOrderRow.holds Try.pinned (OpenSpec.ofChange fnUnlinkInAnyOrderKeepsTheRestInOrderSpec)

/-- ITS FALSE NEIGHBOUR: 'it returns false'. Refute it at one input. -/
def fnUnlinkInAnyOrderKeepsTheRestInOrderWrong : ChangeSpec := { name := "fnUnlinkInAnyOrderKeepsTheRestInOrder", fn := fun _ => fun
  | [d1, d2] => { results := [.lit (.bool false)], args := [d1, d2] }
  | _ => none }
def FnUnlinkInAnyOrderKeepsTheRestInOrderWrongFalsely : Prop := fnUnlinkInAnyOrderKeepsTheRestInOrderRow.holds Try.pinned (OpenSpec.ofChange fnUnlinkInAnyOrderKeepsTheRestInOrderWrong)

end Rows
end Go.Proofs.Qxb6604623a
