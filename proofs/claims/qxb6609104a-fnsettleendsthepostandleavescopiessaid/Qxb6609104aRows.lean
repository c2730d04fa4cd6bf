/-
  No cell of these rows narrows 'for every input' (looked for: loops, veiled, ifaces, maps, wideKeys, modest, calm, conditions, laid).
  DERIVED. THE GIVEN ROWS OF THIS SEAT. 4 by the template 'for every input the law returns true; each argument reads behind the call as it read before'; 0 by the template 'total and deterministic' (their statements: Qxb6609104aTotals.lean).
  GIVEN WITH THE SEED: the statements are not yours to turn. If you find one false, say at which input.
  Laid BY PROGRAM, IN A SANDBOX (cutbox-rows.mjs): the forced cells as the released guide's own fill.sh prints them over the translation f3554e6466909904… (all of the seat's roots in one cut). By AI agents, Wed Nov 11 2026. No macro, syntax, notation, axiom, sorry.
-/
import Derived.Test.Qxb6609104aChecked
import GoSem.Claim
import GoSem.ClaimJoined
import GoSem.ClaimMapViews
import Derived.JoinedTies
import Derived.KernelRfl
namespace Go.Proofs.Qxb6609104a
/- THE CELL 'sum', in the pinned program and in every row, IS THE sha256 OF THE DUMP (.gsa) THAT Qxb6609104aProg.lean LOADS. Nothing in Lean hashes anything: it is a label: what it is worth is what the hold of that sum in a sandbox is worth. -/
noncomputable def Try.pinned : Pinned := { name := "qxb6609104a", sum := "f3554e64669099049e5b6528879110c8a4447fb1cc5f7a5fe28639cae0bd3162", checked := Try.checked }
namespace Rows
def none {H : Type} : Left H := { results := [], args := [] }

/-- 'zzlaws_internal_stream_b1.FnSettleEndsThePostAndLeavesCopies': WHATEVER THE INPUT: true; the input reads as it did. -/
def fnSettleEndsThePostAndLeavesCopiesSpec : ChangeSpec := { name := "fnSettleEndsThePostAndLeavesCopies", fn := fun _ => fun
  | [d1, d2, d3, d4, d5, d6, d7, d8] => { results := [.lit (.bool true)], args := [d1, d2, d3, d4, d5, d6, d7, d8] }
  | _ => none }
def fnSettleEndsThePostAndLeavesCopiesRow : OpenClaim := { program := "qxb6609104a", sum := "f3554e64669099049e5b6528879110c8a4447fb1cc5f7a5fe28639cae0bd3162", func := "example.com/restless-relay/restless-relay/zzlaws_internal_stream_b1.FnSettleEndsThePostAndLeavesCopies", spec := "fnSettleEndsThePostAndLeavesCopies", inPlace := ["(*internal/sync.Mutex).Lock", "internal/race.Disable", "sync/atomic.CompareAndSwapInt32", "internal/race.Enable", "internal/race.Acquire", "(*internal/sync.Mutex).lockSlow", "internal/sync.runtime_canSpin", "internal/sync.runtime_doSpin", "internal/sync.throw", "internal/sync.runtime_nanotime", "internal/sync.runtime_SemacquireMutex", "sync/atomic.AddInt32", "(*internal/sync.Mutex).Unlock", "internal/race.ReleaseMerge", "(*internal/sync.Mutex).unlockSlow", "internal/sync.fatal", "internal/sync.runtime_Semrelease", "(*sync.Cond).Broadcast", "(*sync.copyChecker).check", "sync.runtime_notifyListNotifyAll"], apart := false }
def FnSettleEndsThePostAndLeavesCopiesSaid : Prop := fnSettleEndsThePostAndLeavesCopiesRow.holds Try.pinned (OpenSpec.ofChange fnSettleEndsThePostAndLeavesCopiesSpec)

/-- ITS FALSE NEIGHBOUR: 'it returns false'. Refute it at one input. -/
def fnSettleEndsThePostAndLeavesCopiesWrong : ChangeSpec := { name := "fnSettleEndsThePostAndLeavesCopies", fn := fun _ => fun
  | [d1, d2, d3, d4, d5, d6, d7, d8] => { results := [.lit (.bool false)], args := [d1, d2, d3, d4, d5, d6, d7, d8] }
  | _ => none }
def FnSettleEndsThePostAndLeavesCopiesWrongFalsely : Prop := fnSettleEndsThePostAndLeavesCopiesRow.holds Try.pinned (OpenSpec.ofChange fnSettleEndsThePostAndLeavesCopiesWrong)

/-- 'zzlaws_internal_stream_b1.FnSettleTwoPostsInEitherOrder': WHATEVER THE INPUT: true; the input reads as it did. -/
def fnSettleTwoPostsInEitherOrderSpec : ChangeSpec := { name := "fnSettleTwoPostsInEitherOrder", fn := fun _ => fun
  | [d1, d2, d3, d4, d5, d6, d7, d8, d9, d10, d11] => { results := [.lit (.bool true)], args := [d1, d2, d3, d4, d5, d6, d7, d8, d9, d10, d11] }
  | _ => none }
def fnSettleTwoPostsInEitherOrderRow : OpenClaim := { program := "qxb6609104a", sum := "f3554e64669099049e5b6528879110c8a4447fb1cc5f7a5fe28639cae0bd3162", func := "example.com/restless-relay/restless-relay/zzlaws_internal_stream_b1.FnSettleTwoPostsInEitherOrder", spec := "fnSettleTwoPostsInEitherOrder", inPlace := ["(*internal/sync.Mutex).Lock", "internal/race.Disable", "sync/atomic.CompareAndSwapInt32", "internal/race.Enable", "internal/race.Acquire", "(*internal/sync.Mutex).lockSlow", "internal/sync.runtime_canSpin", "internal/sync.runtime_doSpin", "internal/sync.throw", "internal/sync.runtime_nanotime", "internal/sync.runtime_SemacquireMutex", "sync/atomic.AddInt32", "(*internal/sync.Mutex).Unlock", "internal/race.ReleaseMerge", "(*internal/sync.Mutex).unlockSlow", "internal/sync.fatal", "internal/sync.runtime_Semrelease", "(*sync.Cond).Broadcast", "(*sync.copyChecker).check", "sync.runtime_notifyListNotifyAll"], apart := false }
def FnSettleTwoPostsInEitherOrderSaid : Prop := fnSettleTwoPostsInEitherOrderRow.holds Try.pinned (OpenSpec.ofChange fnSettleTwoPostsInEitherOrderSpec)

/-- ITS FALSE NEIGHBOUR: 'it returns false'. Refute it at one input. -/
def fnSettleTwoPostsInEitherOrderWrong : ChangeSpec := { name := "fnSettleTwoPostsInEitherOrder", fn := fun _ => fun
  | [d1, d2, d3, d4, d5, d6, d7, d8, d9, d10, d11] => { results := [.lit (.bool false)], args := [d1, d2, d3, d4, d5, d6, d7, d8, d9, d10, d11] }
  | _ => none }
def FnSettleTwoPostsInEitherOrderWrongFalsely : Prop := fnSettleTwoPostsInEitherOrderRow.holds Try.pinned (OpenSpec.ofChange fnSettleTwoPostsInEitherOrderWrong)

/-- 'zzlaws_internal_stream_b1.FnCopiesRotationFree': WHATEVER THE INPUT: true; the input reads as it did. -/
def fnCopiesRotationFreeSpec : ChangeSpec := { name := "fnCopiesRotationFree", fn := fun _ => fun
  | [d1, d2, d3, d4, d5] => { results := [.lit (.bool true)], args := [d1, d2, d3, d4, d5] }
  | _ => none }
def fnCopiesRotationFreeRow : OpenClaim := { program := "qxb6609104a", sum := "f3554e64669099049e5b6528879110c8a4447fb1cc5f7a5fe28639cae0bd3162", func := "example.com/restless-relay/restless-relay/zzlaws_internal_stream_b1.FnCopiesRotationFree", spec := "fnCopiesRotationFree", inPlace := ["(*internal/sync.Mutex).Lock", "internal/race.Disable", "sync/atomic.CompareAndSwapInt32", "internal/race.Enable", "internal/race.Acquire", "(*internal/sync.Mutex).lockSlow", "internal/sync.runtime_canSpin", "internal/sync.runtime_doSpin", "internal/sync.throw", "internal/sync.runtime_nanotime", "internal/sync.runtime_SemacquireMutex", "sync/atomic.AddInt32", "(*internal/sync.Mutex).Unlock", "internal/race.ReleaseMerge", "(*internal/sync.Mutex).unlockSlow", "internal/sync.fatal", "internal/sync.runtime_Semrelease"], apart := false }
def FnCopiesRotationFreeSaid : Prop := fnCopiesRotationFreeRow.holds Try.pinned (OpenSpec.ofChange fnCopiesRotationFreeSpec)

/-- ITS FALSE NEIGHBOUR: 'it returns false'. Refute it at one input. -/
def fnCopiesRotationFreeWrong : ChangeSpec := { name := "fnCopiesRotationFree", fn := fun _ => fun
  | [d1, d2, d3, d4, d5] => { results := [.lit (.bool false)], args := [d1, d2, d3, d4, d5] }
  | _ => none }
def FnCopiesRotationFreeWrongFalsely : Prop := fnCopiesRotationFreeRow.holds Try.pinned (OpenSpec.ofChange fnCopiesRotationFreeWrong)

/-- 'zzlaws_internal_stream_b1.FnCopiesOneKeyMore': WHATEVER THE INPUT: true; the input reads as it did. -/
def fnCopiesOneKeyMoreSpec : ChangeSpec := { name := "fnCopiesOneKeyMore", fn := fun _ => fun
  | [d1, d2, d3, d4] => { results := [.lit (.bool true)], args := [d1, d2, d3, d4] }
  | _ => none }
def fnCopiesOneKeyMoreRow : OpenClaim := { program := "qxb6609104a", sum := "f3554e64669099049e5b6528879110c8a4447fb1cc5f7a5fe28639cae0bd3162", func := "example.com/restless-relay/restless-relay/zzlaws_internal_stream_b1.FnCopiesOneKeyMore", spec := "fnCopiesOneKeyMore", inPlace := ["(*internal/sync.Mutex).Lock", "internal/race.Disable", "sync/atomic.CompareAndSwapInt32", "internal/race.Enable", "internal/race.Acquire", "(*internal/sync.Mutex).lockSlow", "internal/sync.runtime_canSpin", "internal/sync.runtime_doSpin", "internal/sync.throw", "internal/sync.runtime_nanotime", "internal/sync.runtime_SemacquireMutex", "sync/atomic.AddInt32", "(*internal/sync.Mutex).Unlock", "internal/race.ReleaseMerge", "(*internal/sync.Mutex).unlockSlow", "internal/sync.fatal", "internal/sync.runtime_Semrelease"], apart := false }
def FnCopiesOneKeyMoreSaid : Prop := fnCopiesOneKeyMoreRow.holds Try.pinned (OpenSpec.ofChange fnCopiesOneKeyMoreSpec)

/-- ITS FALSE NEIGHBOUR: 'it returns false'. Refute it at one input. -/
def fnCopiesOneKeyMoreWrong : ChangeSpec := { name := "fnCopiesOneKeyMore", fn := fun _ => fun
  | [d1, d2, d3, d4] => { results := [.lit (.bool false)], args := [d1, d2, d3, d4] }
  | _ => none }
def FnCopiesOneKeyMoreWrongFalsely : Prop := fnCopiesOneKeyMoreRow.holds Try.pinned (OpenSpec.ofChange fnCopiesOneKeyMoreWrong)

end Rows
end Go.Proofs.Qxb6609104a
