/-
  No cell of these rows narrows 'for every input' (looked for: loops, veiled, ifaces, maps, wideKeys, modest, calm, conditions, laid).
  DERIVED. THE GIVEN ROWS OF THIS SEAT. 8 by the template 'for every input the law returns true; each argument reads behind the call as it read before'; 0 by the template 'total and deterministic' (their statements: Qxb6612554aTotals.lean).
  GIVEN WITH THE SEED: the statements are not yours to turn. If you find one false, say at which input.
  Laid BY PROGRAM, IN A SANDBOX (cutbox-rows.mjs): the forced cells as the released guide's own fill.sh prints them over the translation ecf02811f33951c2… (all of the seat's roots in one cut). By AI agents, Wed Nov 11 2026. No macro, syntax, notation, axiom, sorry.
-/
import Derived.Test.Qxb6612554aChecked
import GoSem.Claim
import GoSem.ClaimJoined
import GoSem.ClaimMapViews
import Derived.JoinedTies
import Derived.KernelRfl
namespace Go.Proofs.Qxb6612554a
/- THE CELL 'sum', in the pinned program and in every row, IS THE sha256 OF THE DUMP (.gsa) THAT Qxb6612554aProg.lean LOADS. Nothing in Lean hashes anything: it is a label: what it is worth is what the hold of that sum in a sandbox is worth. -/
noncomputable def Try.pinned : Pinned := { name := "qxb6612554a", sum := "ecf02811f33951c2d5ed0f76a288c8d7ca06826b56d624c2b9dbb46c8ba64233", checked := Try.checked }
namespace Rows
def none {H : Type} : Left H := { results := [], args := [] }

/-- 'zzlaws_internal_throttle_b1.FnForgetKeepsExactlyFreshOrBusyKeys': WHATEVER THE INPUT: true; the input reads as it did. -/
def fnForgetKeepsExactlyFreshOrBusyKeysSpec : ChangeSpec := { name := "fnForgetKeepsExactlyFreshOrBusyKeys", fn := fun _ => fun
  | [d1, d2] => { results := [.lit (.bool true)], args := [d1, d2] }
  | _ => none }
def fnForgetKeepsExactlyFreshOrBusyKeysRow : OpenClaim := { program := "qxb6612554a", sum := "ecf02811f33951c2d5ed0f76a288c8d7ca06826b56d624c2b9dbb46c8ba64233", func := "example.com/keyturn/keyturn/zzlaws_internal_throttle_b1.FnForgetKeepsExactlyFreshOrBusyKeys", spec := "fnForgetKeepsExactlyFreshOrBusyKeys", plainKeys := false, apart := false }
def FnForgetKeepsExactlyFreshOrBusyKeysSaid : Prop := fnForgetKeepsExactlyFreshOrBusyKeysRow.holds Try.pinned (OpenSpec.ofChange fnForgetKeepsExactlyFreshOrBusyKeysSpec)

/-- ITS FALSE NEIGHBOUR: 'it returns false'. Refute it at one input. -/
def fnForgetKeepsExactlyFreshOrBusyKeysWrong : ChangeSpec := { name := "fnForgetKeepsExactlyFreshOrBusyKeys", fn := fun _ => fun
  | [d1, d2] => { results := [.lit (.bool false)], args := [d1, d2] }
  | _ => none }
def FnForgetKeepsExactlyFreshOrBusyKeysWrongFalsely : Prop := fnForgetKeepsExactlyFreshOrBusyKeysRow.holds Try.pinned (OpenSpec.ofChange fnForgetKeepsExactlyFreshOrBusyKeysWrong)

/-- 'zzlaws_internal_throttle_b1.FnForgetInStepsAgreesWithOnceAndIsIdempotent': WHATEVER THE INPUT: true; the input reads as it did. -/
def fnForgetInStepsAgreesWithOnceAndIsIdempotentSpec : ChangeSpec := { name := "fnForgetInStepsAgreesWithOnceAndIsIdempotent", fn := fun _ => fun
  | [d1, d2, d3] => { results := [.lit (.bool true)], args := [d1, d2, d3] }
  | _ => none }
def fnForgetInStepsAgreesWithOnceAndIsIdempotentRow : OpenClaim := { program := "qxb6612554a", sum := "ecf02811f33951c2d5ed0f76a288c8d7ca06826b56d624c2b9dbb46c8ba64233", func := "example.com/keyturn/keyturn/zzlaws_internal_throttle_b1.FnForgetInStepsAgreesWithOnceAndIsIdempotent", spec := "fnForgetInStepsAgreesWithOnceAndIsIdempotent", plainKeys := false, apart := false }
def FnForgetInStepsAgreesWithOnceAndIsIdempotentSaid : Prop := fnForgetInStepsAgreesWithOnceAndIsIdempotentRow.holds Try.pinned (OpenSpec.ofChange fnForgetInStepsAgreesWithOnceAndIsIdempotentSpec)

/-- ITS FALSE NEIGHBOUR: 'it returns false'. Refute it at one input. -/
def fnForgetInStepsAgreesWithOnceAndIsIdempotentWrong : ChangeSpec := { name := "fnForgetInStepsAgreesWithOnceAndIsIdempotent", fn := fun _ => fun
  | [d1, d2, d3] => { results := [.lit (.bool false)], args := [d1, d2, d3] }
  | _ => none }
def FnForgetInStepsAgreesWithOnceAndIsIdempotentWrongFalsely : Prop := fnForgetInStepsAgreesWithOnceAndIsIdempotentRow.holds Try.pinned (OpenSpec.ofChange fnForgetInStepsAgreesWithOnceAndIsIdempotentWrong)

/-- 'zzlaws_internal_throttle_b1.FnDropInAnyOrderRemovesExactlyThoseKeys': WHATEVER THE INPUT: true; the input reads as it did. -/
def fnDropInAnyOrderRemovesExactlyThoseKeysSpec : ChangeSpec := { name := "fnDropInAnyOrderRemovesExactlyThoseKeys", fn := fun _ => fun
  | [d1, d2] => { results := [.lit (.bool true)], args := [d1, d2] }
  | _ => none }
def fnDropInAnyOrderRemovesExactlyThoseKeysRow : OpenClaim := { program := "qxb6612554a", sum := "ecf02811f33951c2d5ed0f76a288c8d7ca06826b56d624c2b9dbb46c8ba64233", func := "example.com/keyturn/keyturn/zzlaws_internal_throttle_b1.FnDropInAnyOrderRemovesExactlyThoseKeys", spec := "fnDropInAnyOrderRemovesExactlyThoseKeys", plainKeys := false, apart := false }
def FnDropInAnyOrderRemovesExactlyThoseKeysSaid : Prop := fnDropInAnyOrderRemovesExactlyThoseKeysRow.holds Try.pinned (OpenSpec.ofChange fnDropInAnyOrderRemovesExactlyThoseKeysSpec)

/-- ITS FALSE NEIGHBOUR: 'it returns false'. Refute it at one input. -/
def fnDropInAnyOrderRemovesExactlyThoseKeysWrong : ChangeSpec := { name := "fnDropInAnyOrderRemovesExactlyThoseKeys", fn := fun _ => fun
  | [d1, d2] => { results := [.lit (.bool false)], args := [d1, d2] }
  | _ => none }
def FnDropInAnyOrderRemovesExactlyThoseKeysWrongFalsely : Prop := fnDropInAnyOrderRemovesExactlyThoseKeysRow.holds Try.pinned (OpenSpec.ofChange fnDropInAnyOrderRemovesExactlyThoseKeysWrong)

/-- 'zzlaws_internal_throttle_b1.FnDropCommutesWithForgetAndIsIdempotent': WHATEVER THE INPUT: true; the input reads as it did. -/
def fnDropCommutesWithForgetAndIsIdempotentSpec : ChangeSpec := { name := "fnDropCommutesWithForgetAndIsIdempotent", fn := fun _ => fun
  | [d1, d2, d3] => { results := [.lit (.bool true)], args := [d1, d2, d3] }
  | _ => none }
def fnDropCommutesWithForgetAndIsIdempotentRow : OpenClaim := { program := "qxb6612554a", sum := "ecf02811f33951c2d5ed0f76a288c8d7ca06826b56d624c2b9dbb46c8ba64233", func := "example.com/keyturn/keyturn/zzlaws_internal_throttle_b1.FnDropCommutesWithForgetAndIsIdempotent", spec := "fnDropCommutesWithForgetAndIsIdempotent", plainKeys := false, apart := false }
def FnDropCommutesWithForgetAndIsIdempotentSaid : Prop := fnDropCommutesWithForgetAndIsIdempotentRow.holds Try.pinned (OpenSpec.ofChange fnDropCommutesWithForgetAndIsIdempotentSpec)

/-- ITS FALSE NEIGHBOUR: 'it returns false'. Refute it at one input. -/
def fnDropCommutesWithForgetAndIsIdempotentWrong : ChangeSpec := { name := "fnDropCommutesWithForgetAndIsIdempotent", fn := fun _ => fun
  | [d1, d2, d3] => { results := [.lit (.bool false)], args := [d1, d2, d3] }
  | _ => none }
def FnDropCommutesWithForgetAndIsIdempotentWrongFalsely : Prop := fnDropCommutesWithForgetAndIsIdempotentRow.holds Try.pinned (OpenSpec.ofChange fnDropCommutesWithForgetAndIsIdempotentWrong)

/-- 'zzlaws_internal_throttle_b1.FnFailedEndsOnceCountingOneFailure': WHATEVER THE INPUT: true; the input reads as it did. -/
def fnFailedEndsOnceCountingOneFailureSpec : ChangeSpec := { name := "fnFailedEndsOnceCountingOneFailure", fn := fun _ => fun
  | [d1, d2, d3] => { results := [.lit (.bool true)], args := [d1, d2, d3] }
  | _ => none }
def fnFailedEndsOnceCountingOneFailureRow : OpenClaim := { program := "qxb6612554a", sum := "ecf02811f33951c2d5ed0f76a288c8d7ca06826b56d624c2b9dbb46c8ba64233", func := "example.com/keyturn/keyturn/zzlaws_internal_throttle_b1.FnFailedEndsOnceCountingOneFailure", spec := "fnFailedEndsOnceCountingOneFailure", inPlace := ["(*internal/sync.Mutex).Lock", "internal/race.Disable", "sync/atomic.CompareAndSwapInt32", "internal/race.Enable", "internal/race.Acquire", "(*internal/sync.Mutex).lockSlow", "internal/sync.runtime_canSpin", "internal/sync.runtime_doSpin", "internal/sync.throw", "internal/sync.runtime_nanotime", "internal/sync.runtime_SemacquireMutex", "sync/atomic.AddInt32", "(*internal/sync.Mutex).Unlock", "internal/race.ReleaseMerge", "(*internal/sync.Mutex).unlockSlow", "internal/sync.fatal", "internal/sync.runtime_Semrelease"], unfollowed := true, recurses := true, plainKeys := false, apart := false }
def FnFailedEndsOnceCountingOneFailureSaid : Prop := fnFailedEndsOnceCountingOneFailureRow.holds Try.pinned (OpenSpec.ofChange fnFailedEndsOnceCountingOneFailureSpec)

/-- ITS FALSE NEIGHBOUR: 'it returns false'. Refute it at one input. -/
def fnFailedEndsOnceCountingOneFailureWrong : ChangeSpec := { name := "fnFailedEndsOnceCountingOneFailure", fn := fun _ => fun
  | [d1, d2, d3] => { results := [.lit (.bool false)], args := [d1, d2, d3] }
  | _ => none }
def FnFailedEndsOnceCountingOneFailureWrongFalsely : Prop := fnFailedEndsOnceCountingOneFailureRow.holds Try.pinned (OpenSpec.ofChange fnFailedEndsOnceCountingOneFailureWrong)

/-- 'zzlaws_internal_throttle_b1.FnFailedAndCloseDifferOnlyInTheCount': WHATEVER THE INPUT: true; the input reads as it did. -/
def fnFailedAndCloseDifferOnlyInTheCountSpec : ChangeSpec := { name := "fnFailedAndCloseDifferOnlyInTheCount", fn := fun _ => fun
  | [d1, d2, d3] => { results := [.lit (.bool true)], args := [d1, d2, d3] }
  | _ => none }
def fnFailedAndCloseDifferOnlyInTheCountRow : OpenClaim := { program := "qxb6612554a", sum := "ecf02811f33951c2d5ed0f76a288c8d7ca06826b56d624c2b9dbb46c8ba64233", func := "example.com/keyturn/keyturn/zzlaws_internal_throttle_b1.FnFailedAndCloseDifferOnlyInTheCount", spec := "fnFailedAndCloseDifferOnlyInTheCount", inPlace := ["(*internal/sync.Mutex).Lock", "internal/race.Disable", "sync/atomic.CompareAndSwapInt32", "internal/race.Enable", "internal/race.Acquire", "(*internal/sync.Mutex).lockSlow", "internal/sync.runtime_canSpin", "internal/sync.runtime_doSpin", "internal/sync.throw", "internal/sync.runtime_nanotime", "internal/sync.runtime_SemacquireMutex", "sync/atomic.AddInt32", "(*internal/sync.Mutex).Unlock", "internal/race.ReleaseMerge", "(*internal/sync.Mutex).unlockSlow", "internal/sync.fatal", "internal/sync.runtime_Semrelease"], unfollowed := true, recurses := true, plainKeys := false, apart := false }
def FnFailedAndCloseDifferOnlyInTheCountSaid : Prop := fnFailedAndCloseDifferOnlyInTheCountRow.holds Try.pinned (OpenSpec.ofChange fnFailedAndCloseDifferOnlyInTheCountSpec)

/-- ITS FALSE NEIGHBOUR: 'it returns false'. Refute it at one input. -/
def fnFailedAndCloseDifferOnlyInTheCountWrong : ChangeSpec := { name := "fnFailedAndCloseDifferOnlyInTheCount", fn := fun _ => fun
  | [d1, d2, d3] => { results := [.lit (.bool false)], args := [d1, d2, d3] }
  | _ => none }
def FnFailedAndCloseDifferOnlyInTheCountWrongFalsely : Prop := fnFailedAndCloseDifferOnlyInTheCountRow.holds Try.pinned (OpenSpec.ofChange fnFailedAndCloseDifferOnlyInTheCountWrong)

/-- 'zzlaws_internal_throttle_b1.FnCloseEndsOnceLeavingTheCount': WHATEVER THE INPUT: true; the input reads as it did. -/
def fnCloseEndsOnceLeavingTheCountSpec : ChangeSpec := { name := "fnCloseEndsOnceLeavingTheCount", fn := fun _ => fun
  | [d1, d2, d3] => { results := [.lit (.bool true)], args := [d1, d2, d3] }
  | _ => none }
def fnCloseEndsOnceLeavingTheCountRow : OpenClaim := { program := "qxb6612554a", sum := "ecf02811f33951c2d5ed0f76a288c8d7ca06826b56d624c2b9dbb46c8ba64233", func := "example.com/keyturn/keyturn/zzlaws_internal_throttle_b1.FnCloseEndsOnceLeavingTheCount", spec := "fnCloseEndsOnceLeavingTheCount", inPlace := ["(*internal/sync.Mutex).Lock", "internal/race.Disable", "sync/atomic.CompareAndSwapInt32", "internal/race.Enable", "internal/race.Acquire", "(*internal/sync.Mutex).lockSlow", "internal/sync.runtime_canSpin", "internal/sync.runtime_doSpin", "internal/sync.throw", "internal/sync.runtime_nanotime", "internal/sync.runtime_SemacquireMutex", "sync/atomic.AddInt32", "(*internal/sync.Mutex).Unlock", "internal/race.ReleaseMerge", "(*internal/sync.Mutex).unlockSlow", "internal/sync.fatal", "internal/sync.runtime_Semrelease"], unfollowed := true, recurses := true, plainKeys := false, apart := false }
def FnCloseEndsOnceLeavingTheCountSaid : Prop := fnCloseEndsOnceLeavingTheCountRow.holds Try.pinned (OpenSpec.ofChange fnCloseEndsOnceLeavingTheCountSpec)

/-- ITS FALSE NEIGHBOUR: 'it returns false'. Refute it at one input. -/
def fnCloseEndsOnceLeavingTheCountWrong : ChangeSpec := { name := "fnCloseEndsOnceLeavingTheCount", fn := fun _ => fun
  | [d1, d2, d3] => { results := [.lit (.bool false)], args := [d1, d2, d3] }
  | _ => none }
def FnCloseEndsOnceLeavingTheCountWrongFalsely : Prop := fnCloseEndsOnceLeavingTheCountRow.holds Try.pinned (OpenSpec.ofChange fnCloseEndsOnceLeavingTheCountWrong)

/-- 'zzlaws_internal_throttle_b1.FnClosingEveryCheckReleasesAnIdleKey': WHATEVER THE INPUT: true; the input reads as it did. -/
def fnClosingEveryCheckReleasesAnIdleKeySpec : ChangeSpec := { name := "fnClosingEveryCheckReleasesAnIdleKey", fn := fun _ => fun
  | [d1, d2, d3, d4] => { results := [.lit (.bool true)], args := [d1, d2, d3, d4] }
  | _ => none }
def fnClosingEveryCheckReleasesAnIdleKeyRow : OpenClaim := { program := "qxb6612554a", sum := "ecf02811f33951c2d5ed0f76a288c8d7ca06826b56d624c2b9dbb46c8ba64233", func := "example.com/keyturn/keyturn/zzlaws_internal_throttle_b1.FnClosingEveryCheckReleasesAnIdleKey", spec := "fnClosingEveryCheckReleasesAnIdleKey", inPlace := ["(*internal/sync.Mutex).Lock", "internal/race.Disable", "sync/atomic.CompareAndSwapInt32", "internal/race.Enable", "internal/race.Acquire", "(*internal/sync.Mutex).lockSlow", "internal/sync.runtime_canSpin", "internal/sync.runtime_doSpin", "internal/sync.throw", "internal/sync.runtime_nanotime", "internal/sync.runtime_SemacquireMutex", "sync/atomic.AddInt32", "(*internal/sync.Mutex).Unlock", "internal/race.ReleaseMerge", "(*internal/sync.Mutex).unlockSlow", "internal/sync.fatal", "internal/sync.runtime_Semrelease"], unfollowed := true, recurses := true, plainKeys := false, apart := false }
def FnClosingEveryCheckReleasesAnIdleKeySaid : Prop := fnClosingEveryCheckReleasesAnIdleKeyRow.holds Try.pinned (OpenSpec.ofChange fnClosingEveryCheckReleasesAnIdleKeySpec)

/-- ITS FALSE NEIGHBOUR: 'it returns false'. Refute it at one input. -/
def fnClosingEveryCheckReleasesAnIdleKeyWrong : ChangeSpec := { name := "fnClosingEveryCheckReleasesAnIdleKey", fn := fun _ => fun
  | [d1, d2, d3, d4] => { results := [.lit (.bool false)], args := [d1, d2, d3, d4] }
  | _ => none }
def FnClosingEveryCheckReleasesAnIdleKeyWrongFalsely : Prop := fnClosingEveryCheckReleasesAnIdleKeyRow.holds Try.pinned (OpenSpec.ofChange fnClosingEveryCheckReleasesAnIdleKeyWrong)

end Rows
end Go.Proofs.Qxb6612554a
