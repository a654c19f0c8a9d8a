/-
  No cell of these rows narrows 'for every input' (looked for: loops, veiled, ifaces, maps, wideKeys, modest, calm, conditions, laid).
  DERIVED. THE GIVEN ROWS OF THIS SEAT. 3 by the template 'for every input the law returns true; each argument reads behind the call as it read before'; 0 by the template 'total and deterministic' (their statements: Qxb6602344aTotals.lean).
  GIVEN WITH THE SEED: the statements are not yours to turn. If you find one false, say at which input.
  Laid BY PROGRAM, IN A SANDBOX (cutbox-rows.mjs): the forced cells as the released guide's own fill.sh prints them over the translation 5ec58e365db1aa40… (all of the seat's roots in one cut). By AI agents, Wed Nov 11 2026. No macro, syntax, notation, axiom, sorry.
-/
import Derived.Test.Qxb6602344aChecked
import GoSem.Claim
import GoSem.ClaimJoined
import GoSem.ClaimMapViews
import Derived.JoinedTies
import Derived.KernelRfl
namespace Go.Proofs.Qxb6602344a
/- THE CELL 'sum', in the pinned program and in every row, IS THE sha256 OF THE DUMP (.gsa) THAT Qxb6602344aProg.lean LOADS. Nothing in Lean hashes anything: it is a label: what it is worth is what the hold of that sum in a sandbox is worth. -/
noncomputable def Try.pinned : Pinned := { name := "qxb6602344a", sum := "5ec58e365db1aa40eca180d828ed1a1a5688e0b7e4699e13038ea519fe2bb31a", checked := Try.checked }
namespace Rows
def none {H : Type} : Left H := { results := [], args := [] }

/-- 'zzlaws_postgres_b1.FnSetOwnerMovesTheOwnersRightsToTheNewOwner': WHATEVER THE INPUT: true; the input reads as it did. -/
def fnSetOwnerMovesTheOwnersRightsToTheNewOwnerSpec : ChangeSpec := { name := "fnSetOwnerMovesTheOwnersRightsToTheNewOwner", fn := fun _ => fun
  | [d1, d2, d3, d4, d5, d6, d7] => { results := [.lit (.bool true)], args := [d1, d2, d3, d4, d5, d6, d7] }
  | _ => none }
def fnSetOwnerMovesTheOwnersRightsToTheNewOwnerRow : OpenClaim := { program := "qxb6602344a", sum := "5ec58e365db1aa40eca180d828ed1a1a5688e0b7e4699e13038ea519fe2bb31a", func := "example.com/restitch/restitch/zzlaws_postgres_b1.FnSetOwnerMovesTheOwnersRightsToTheNewOwner", spec := "fnSetOwnerMovesTheOwnersRightsToTheNewOwner", apart := false }
def FnSetOwnerMovesTheOwnersRightsToTheNewOwnerSaid : Prop := fnSetOwnerMovesTheOwnersRightsToTheNewOwnerRow.holds Try.pinned (OpenSpec.ofChange fnSetOwnerMovesTheOwnersRightsToTheNewOwnerSpec)

/-- ITS FALSE NEIGHBOUR: 'it returns false'. Refute it at one input. -/
def fnSetOwnerMovesTheOwnersRightsToTheNewOwnerWrong : ChangeSpec := { name := "fnSetOwnerMovesTheOwnersRightsToTheNewOwner", fn := fun _ => fun
  | [d1, d2, d3, d4, d5, d6, d7] => { results := [.lit (.bool false)], args := [d1, d2, d3, d4, d5, d6, d7] }
  | _ => none }
def FnSetOwnerMovesTheOwnersRightsToTheNewOwnerWrongFalsely : Prop := fnSetOwnerMovesTheOwnersRightsToTheNewOwnerRow.holds Try.pinned (OpenSpec.ofChange fnSetOwnerMovesTheOwnersRightsToTheNewOwnerWrong)

/-- 'zzlaws_postgres_b1.FnSetOwnerLeavesASharingSnapshotAsItWas': WHATEVER THE INPUT: true; the input reads as it did. -/
def fnSetOwnerLeavesASharingSnapshotAsItWasSpec : ChangeSpec := { name := "fnSetOwnerLeavesASharingSnapshotAsItWas", fn := fun _ => fun
  | [d1, d2, d3, d4, d5, d6, d7] => { results := [.lit (.bool true)], args := [d1, d2, d3, d4, d5, d6, d7] }
  | _ => none }
def fnSetOwnerLeavesASharingSnapshotAsItWasRow : OpenClaim := { program := "qxb6602344a", sum := "5ec58e365db1aa40eca180d828ed1a1a5688e0b7e4699e13038ea519fe2bb31a", func := "example.com/restitch/restitch/zzlaws_postgres_b1.FnSetOwnerLeavesASharingSnapshotAsItWas", spec := "fnSetOwnerLeavesASharingSnapshotAsItWas", apart := false }
def FnSetOwnerLeavesASharingSnapshotAsItWasSaid : Prop := fnSetOwnerLeavesASharingSnapshotAsItWasRow.holds Try.pinned (OpenSpec.ofChange fnSetOwnerLeavesASharingSnapshotAsItWasSpec)

/-- ITS FALSE NEIGHBOUR: 'it returns false'. Refute it at one input. -/
def fnSetOwnerLeavesASharingSnapshotAsItWasWrong : ChangeSpec := { name := "fnSetOwnerLeavesASharingSnapshotAsItWas", fn := fun _ => fun
  | [d1, d2, d3, d4, d5, d6, d7] => { results := [.lit (.bool false)], args := [d1, d2, d3, d4, d5, d6, d7] }
  | _ => none }
def FnSetOwnerLeavesASharingSnapshotAsItWasWrongFalsely : Prop := fnSetOwnerLeavesASharingSnapshotAsItWasRow.holds Try.pinned (OpenSpec.ofChange fnSetOwnerLeavesASharingSnapshotAsItWasWrong)

/-- 'zzlaws_postgres_b1.FnSetOwnerThereAndBackRestoresTheRights': WHATEVER THE INPUT: true; the input reads as it did. -/
def fnSetOwnerThereAndBackRestoresTheRightsSpec : ChangeSpec := { name := "fnSetOwnerThereAndBackRestoresTheRights", fn := fun _ => fun
  | [d1, d2, d3, d4, d5, d6, d7] => { results := [.lit (.bool true)], args := [d1, d2, d3, d4, d5, d6, d7] }
  | _ => none }
def fnSetOwnerThereAndBackRestoresTheRightsRow : OpenClaim := { program := "qxb6602344a", sum := "5ec58e365db1aa40eca180d828ed1a1a5688e0b7e4699e13038ea519fe2bb31a", func := "example.com/restitch/restitch/zzlaws_postgres_b1.FnSetOwnerThereAndBackRestoresTheRights", spec := "fnSetOwnerThereAndBackRestoresTheRights", apart := false }
def FnSetOwnerThereAndBackRestoresTheRightsSaid : Prop := fnSetOwnerThereAndBackRestoresTheRightsRow.holds Try.pinned (OpenSpec.ofChange fnSetOwnerThereAndBackRestoresTheRightsSpec)

/-- ITS FALSE NEIGHBOUR: 'it returns false'. Refute it at one input. -/
def fnSetOwnerThereAndBackRestoresTheRightsWrong : ChangeSpec := { name := "fnSetOwnerThereAndBackRestoresTheRights", fn := fun _ => fun
  | [d1, d2, d3, d4, d5, d6, d7] => { results := [.lit (.bool false)], args := [d1, d2, d3, d4, d5, d6, d7] }
  | _ => none }
def FnSetOwnerThereAndBackRestoresTheRightsWrongFalsely : Prop := fnSetOwnerThereAndBackRestoresTheRightsRow.holds Try.pinned (OpenSpec.ofChange fnSetOwnerThereAndBackRestoresTheRightsWrong)

end Rows
end Go.Proofs.Qxb6602344a
