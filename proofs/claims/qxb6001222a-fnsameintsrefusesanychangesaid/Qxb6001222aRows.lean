/-
  No cell of these rows narrows 'for every input' (looked for: loops, veiled, ifaces, maps, wideKeys, modest, calm, conditions, laid).
  DERIVED. THE GIVEN ROWS OF THIS SEAT. 8 by the template 'for every input the law returns true; each argument reads behind the call as it read before'; 0 by the template 'total and deterministic' (their statements: Qxb6001222aTotals.lean).
  GIVEN WITH THE SEED: the statements are not yours to turn. If you find one false, say at which input.
  Laid BY PROGRAM, IN A SANDBOX (cutbox-rows.mjs): the forced cells as the released guide's own fill.sh prints them over the translation 9798900bfc54cae5… (all of the seat's roots in one cut). By AI agents, Wed Nov 11 2026. No macro, syntax, notation, axiom, sorry.
-/
import Derived.Test.Qxb6001222aChecked
import GoSem.Claim
import GoSem.ClaimJoined
import GoSem.ClaimMapViews
import Derived.JoinedTies
import Derived.KernelRfl
namespace Go.Proofs.Qxb6001222a
/- THE CELL 'sum', in the pinned program and in every row, IS THE sha256 OF THE DUMP (.gsa) THAT Qxb6001222aProg.lean LOADS. Nothing in Lean hashes anything: it is a label: what it is worth is what the hold of that sum in a sandbox is worth. -/
noncomputable def Try.pinned : Pinned := { name := "qxb6001222a", sum := "9798900bfc54cae5600e9dc69b7efe27e79ee38b80e3c2cd923e9916301a86ee", checked := Try.checked }
namespace Rows
def none {H : Type} : Left H := { results := [], args := [] }

/-- 'zzlaws_checker_b1.FnSameIntsReflexiveOnCopy': WHATEVER THE INPUT: true; the input reads as it did. -/
def fnSameIntsReflexiveOnCopySpec : ChangeSpec := { name := "fnSameIntsReflexiveOnCopy", fn := fun _ => fun
  | [d] => { results := [.lit (.bool true)], args := [d] }
  | _ => none }
def fnSameIntsReflexiveOnCopyRow : OpenClaim := { program := "qxb6001222a", sum := "9798900bfc54cae5600e9dc69b7efe27e79ee38b80e3c2cd923e9916301a86ee", func := "example.com/quorumlog/quorumlog/zzlaws_checker_b1.FnSameIntsReflexiveOnCopy", spec := "fnSameIntsReflexiveOnCopy", plainKeys := false, apart := false }
def FnSameIntsReflexiveOnCopySaid : Prop := fnSameIntsReflexiveOnCopyRow.holds Try.pinned (OpenSpec.ofChange fnSameIntsReflexiveOnCopySpec)

/-- ITS FALSE NEIGHBOUR: 'it returns false'. Refute it at one input. -/
def fnSameIntsReflexiveOnCopyWrong : ChangeSpec := { name := "fnSameIntsReflexiveOnCopy", fn := fun _ => fun
  | [d] => { results := [.lit (.bool false)], args := [d] }
  | _ => none }
def FnSameIntsReflexiveOnCopyWrongFalsely : Prop := fnSameIntsReflexiveOnCopyRow.holds Try.pinned (OpenSpec.ofChange fnSameIntsReflexiveOnCopyWrong)

/-- 'zzlaws_checker_b1.FnSameIntsIsAnEquivalence': WHATEVER THE INPUT: true; the input reads as it did. -/
def fnSameIntsIsAnEquivalenceSpec : ChangeSpec := { name := "fnSameIntsIsAnEquivalence", fn := fun _ => fun
  | [d1, d2, d3] => { results := [.lit (.bool true)], args := [d1, d2, d3] }
  | _ => none }
def fnSameIntsIsAnEquivalenceRow : OpenClaim := { program := "qxb6001222a", sum := "9798900bfc54cae5600e9dc69b7efe27e79ee38b80e3c2cd923e9916301a86ee", func := "example.com/quorumlog/quorumlog/zzlaws_checker_b1.FnSameIntsIsAnEquivalence", spec := "fnSameIntsIsAnEquivalence", plainKeys := false, apart := false }
def FnSameIntsIsAnEquivalenceSaid : Prop := fnSameIntsIsAnEquivalenceRow.holds Try.pinned (OpenSpec.ofChange fnSameIntsIsAnEquivalenceSpec)

/-- ITS FALSE NEIGHBOUR: 'it returns false'. Refute it at one input. -/
def fnSameIntsIsAnEquivalenceWrong : ChangeSpec := { name := "fnSameIntsIsAnEquivalence", fn := fun _ => fun
  | [d1, d2, d3] => { results := [.lit (.bool false)], args := [d1, d2, d3] }
  | _ => none }
def FnSameIntsIsAnEquivalenceWrongFalsely : Prop := fnSameIntsIsAnEquivalenceRow.holds Try.pinned (OpenSpec.ofChange fnSameIntsIsAnEquivalenceWrong)

/-- 'zzlaws_checker_b1.FnSameIntsRefusesAnyChange': WHATEVER THE INPUT: true; the input reads as it did. -/
def fnSameIntsRefusesAnyChangeSpec : ChangeSpec := { name := "fnSameIntsRefusesAnyChange", fn := fun _ => fun
  | [d1, d2, d3, d4] => { results := [.lit (.bool true)], args := [d1, d2, d3, d4] }
  | _ => none }
def fnSameIntsRefusesAnyChangeRow : OpenClaim := { program := "qxb6001222a", sum := "9798900bfc54cae5600e9dc69b7efe27e79ee38b80e3c2cd923e9916301a86ee", func := "example.com/quorumlog/quorumlog/zzlaws_checker_b1.FnSameIntsRefusesAnyChange", spec := "fnSameIntsRefusesAnyChange", plainKeys := false, apart := false }
def FnSameIntsRefusesAnyChangeSaid : Prop := fnSameIntsRefusesAnyChangeRow.holds Try.pinned (OpenSpec.ofChange fnSameIntsRefusesAnyChangeSpec)

/-- ITS FALSE NEIGHBOUR: 'it returns false'. Refute it at one input. -/
def fnSameIntsRefusesAnyChangeWrong : ChangeSpec := { name := "fnSameIntsRefusesAnyChange", fn := fun _ => fun
  | [d1, d2, d3, d4] => { results := [.lit (.bool false)], args := [d1, d2, d3, d4] }
  | _ => none }
def FnSameIntsRefusesAnyChangeWrongFalsely : Prop := fnSameIntsRefusesAnyChangeRow.holds Try.pinned (OpenSpec.ofChange fnSameIntsRefusesAnyChangeWrong)

/-- 'zzlaws_checker_b1.FnDeletedIgnoresLeaseOrderAndLaterDels': WHATEVER THE INPUT: true; the input reads as it did. -/
def fnDeletedIgnoresLeaseOrderAndLaterDelsSpec : ChangeSpec := { name := "fnDeletedIgnoresLeaseOrderAndLaterDels", fn := fun _ => fun
  | [d1, d2, d3, d4, d5] => { results := [.lit (.bool true)], args := [d1, d2, d3, d4, d5] }
  | _ => none }
def fnDeletedIgnoresLeaseOrderAndLaterDelsRow : OpenClaim := { program := "qxb6001222a", sum := "9798900bfc54cae5600e9dc69b7efe27e79ee38b80e3c2cd923e9916301a86ee", func := "example.com/quorumlog/quorumlog/zzlaws_checker_b1.FnDeletedIgnoresLeaseOrderAndLaterDels", spec := "fnDeletedIgnoresLeaseOrderAndLaterDels", plainKeys := false, apart := false }
def FnDeletedIgnoresLeaseOrderAndLaterDelsSaid : Prop := fnDeletedIgnoresLeaseOrderAndLaterDelsRow.holds Try.pinned (OpenSpec.ofChange fnDeletedIgnoresLeaseOrderAndLaterDelsSpec)

/-- ITS FALSE NEIGHBOUR: 'it returns false'. Refute it at one input. -/
def fnDeletedIgnoresLeaseOrderAndLaterDelsWrong : ChangeSpec := { name := "fnDeletedIgnoresLeaseOrderAndLaterDels", fn := fun _ => fun
  | [d1, d2, d3, d4, d5] => { results := [.lit (.bool false)], args := [d1, d2, d3, d4, d5] }
  | _ => none }
def FnDeletedIgnoresLeaseOrderAndLaterDelsWrongFalsely : Prop := fnDeletedIgnoresLeaseOrderAndLaterDelsRow.holds Try.pinned (OpenSpec.ofChange fnDeletedIgnoresLeaseOrderAndLaterDelsWrong)

/-- 'zzlaws_checker_b1.FnDeletedMonotone': WHATEVER THE INPUT: true; the input reads as it did. -/
def fnDeletedMonotoneSpec : ChangeSpec := { name := "fnDeletedMonotone", fn := fun _ => fun
  | [d1, d2, d3, d4, d5, d6, d7] => { results := [.lit (.bool true)], args := [d1, d2, d3, d4, d5, d6, d7] }
  | _ => none }
def fnDeletedMonotoneRow : OpenClaim := { program := "qxb6001222a", sum := "9798900bfc54cae5600e9dc69b7efe27e79ee38b80e3c2cd923e9916301a86ee", func := "example.com/quorumlog/quorumlog/zzlaws_checker_b1.FnDeletedMonotone", spec := "fnDeletedMonotone", plainKeys := false, apart := false }
def FnDeletedMonotoneSaid : Prop := fnDeletedMonotoneRow.holds Try.pinned (OpenSpec.ofChange fnDeletedMonotoneSpec)

/-- ITS FALSE NEIGHBOUR: 'it returns false'. Refute it at one input. -/
def fnDeletedMonotoneWrong : ChangeSpec := { name := "fnDeletedMonotone", fn := fun _ => fun
  | [d1, d2, d3, d4, d5, d6, d7] => { results := [.lit (.bool false)], args := [d1, d2, d3, d4, d5, d6, d7] }
  | _ => none }
def FnDeletedMonotoneWrongFalsely : Prop := fnDeletedMonotoneRow.holds Try.pinned (OpenSpec.ofChange fnDeletedMonotoneWrong)

/-- 'zzlaws_checker_b1.FnWatcherAskFollowsLatestPrefix': WHATEVER THE INPUT: true; the input reads as it did. -/
def fnWatcherAskFollowsLatestPrefixSpec : ChangeSpec := { name := "fnWatcherAskFollowsLatestPrefix", fn := fun _ => fun
  | [d1, d2, d3, d4] => { results := [.lit (.bool true)], args := [d1, d2, d3, d4] }
  | _ => none }
def fnWatcherAskFollowsLatestPrefixRow : OpenClaim := { program := "qxb6001222a", sum := "9798900bfc54cae5600e9dc69b7efe27e79ee38b80e3c2cd923e9916301a86ee", func := "example.com/quorumlog/quorumlog/zzlaws_checker_b1.FnWatcherAskFollowsLatestPrefix", spec := "fnWatcherAskFollowsLatestPrefix", plainKeys := false, apart := false }
def FnWatcherAskFollowsLatestPrefixSaid : Prop := fnWatcherAskFollowsLatestPrefixRow.holds Try.pinned (OpenSpec.ofChange fnWatcherAskFollowsLatestPrefixSpec)

/-- ITS FALSE NEIGHBOUR: 'it returns false'. Refute it at one input. -/
def fnWatcherAskFollowsLatestPrefixWrong : ChangeSpec := { name := "fnWatcherAskFollowsLatestPrefix", fn := fun _ => fun
  | [d1, d2, d3, d4] => { results := [.lit (.bool false)], args := [d1, d2, d3, d4] }
  | _ => none }
def FnWatcherAskFollowsLatestPrefixWrongFalsely : Prop := fnWatcherAskFollowsLatestPrefixRow.holds Try.pinned (OpenSpec.ofChange fnWatcherAskFollowsLatestPrefixWrong)

/-- 'zzlaws_checker_b1.FnWatcherAskKeepsEveryRunItBegan': WHATEVER THE INPUT: true; the input reads as it did. -/
def fnWatcherAskKeepsEveryRunItBeganSpec : ChangeSpec := { name := "fnWatcherAskKeepsEveryRunItBegan", fn := fun _ => fun
  | [d1, d2, d3, d4] => { results := [.lit (.bool true)], args := [d1, d2, d3, d4] }
  | _ => none }
def fnWatcherAskKeepsEveryRunItBeganRow : OpenClaim := { program := "qxb6001222a", sum := "9798900bfc54cae5600e9dc69b7efe27e79ee38b80e3c2cd923e9916301a86ee", func := "example.com/quorumlog/quorumlog/zzlaws_checker_b1.FnWatcherAskKeepsEveryRunItBegan", spec := "fnWatcherAskKeepsEveryRunItBegan", plainKeys := false, apart := false }
def FnWatcherAskKeepsEveryRunItBeganSaid : Prop := fnWatcherAskKeepsEveryRunItBeganRow.holds Try.pinned (OpenSpec.ofChange fnWatcherAskKeepsEveryRunItBeganSpec)

/-- ITS FALSE NEIGHBOUR: 'it returns false'. Refute it at one input. -/
def fnWatcherAskKeepsEveryRunItBeganWrong : ChangeSpec := { name := "fnWatcherAskKeepsEveryRunItBegan", fn := fun _ => fun
  | [d1, d2, d3, d4] => { results := [.lit (.bool false)], args := [d1, d2, d3, d4] }
  | _ => none }
def FnWatcherAskKeepsEveryRunItBeganWrongFalsely : Prop := fnWatcherAskKeepsEveryRunItBeganRow.holds Try.pinned (OpenSpec.ofChange fnWatcherAskKeepsEveryRunItBeganWrong)

/-- 'zzlaws_checker_b1.FnWatcherAskSameWatchAgainChangesNothing': WHATEVER THE INPUT: true; the input reads as it did. -/
def fnWatcherAskSameWatchAgainChangesNothingSpec : ChangeSpec := { name := "fnWatcherAskSameWatchAgainChangesNothing", fn := fun _ => fun
  | [d1, d2, d3, d4] => { results := [.lit (.bool true)], args := [d1, d2, d3, d4] }
  | _ => none }
def fnWatcherAskSameWatchAgainChangesNothingRow : OpenClaim := { program := "qxb6001222a", sum := "9798900bfc54cae5600e9dc69b7efe27e79ee38b80e3c2cd923e9916301a86ee", func := "example.com/quorumlog/quorumlog/zzlaws_checker_b1.FnWatcherAskSameWatchAgainChangesNothing", spec := "fnWatcherAskSameWatchAgainChangesNothing", plainKeys := false, apart := false }
def FnWatcherAskSameWatchAgainChangesNothingSaid : Prop := fnWatcherAskSameWatchAgainChangesNothingRow.holds Try.pinned (OpenSpec.ofChange fnWatcherAskSameWatchAgainChangesNothingSpec)

/-- ITS FALSE NEIGHBOUR: 'it returns false'. Refute it at one input. -/
def fnWatcherAskSameWatchAgainChangesNothingWrong : ChangeSpec := { name := "fnWatcherAskSameWatchAgainChangesNothing", fn := fun _ => fun
  | [d1, d2, d3, d4] => { results := [.lit (.bool false)], args := [d1, d2, d3, d4] }
  | _ => none }
def FnWatcherAskSameWatchAgainChangesNothingWrongFalsely : Prop := fnWatcherAskSameWatchAgainChangesNothingRow.holds Try.pinned (OpenSpec.ofChange fnWatcherAskSameWatchAgainChangesNothingWrong)

end Rows
end Go.Proofs.Qxb6001222a
