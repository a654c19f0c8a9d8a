/-
  No cell of these rows narrows 'for every input' (looked for: loops, veiled, ifaces, maps, wideKeys, modest, calm, conditions, laid).
  DERIVED. THE GIVEN ROWS OF THIS SEAT. 8 by the template 'for every input the law returns true; each argument reads behind the call as it read before'; 0 by the template 'total and deterministic' (their statements: Qxb6600744aTotals.lean).
  GIVEN WITH THE SEED: the statements are not yours to turn. If you find one false, say at which input.
  Laid BY PROGRAM, IN A SANDBOX (cutbox-rows.mjs): the forced cells as the released guide's own fill.sh prints them over the translation 281918cdbbb44460… (all of the seat's roots in one cut). By AI agents, Wed Nov 11 2026. No macro, syntax, notation, axiom, sorry.
-/
import Derived.Test.Qxb6600744aChecked
import GoSem.Claim
import GoSem.ClaimJoined
import GoSem.ClaimMapViews
import Derived.JoinedTies
import Derived.KernelRfl
namespace Go.Proofs.Qxb6600744a
/- THE CELL 'sum', in the pinned program and in every row, IS THE sha256 OF THE DUMP (.gsa) THAT Qxb6600744aProg.lean LOADS. Nothing in Lean hashes anything: it is a label: what it is worth is what the hold of that sum in a sandbox is worth. -/
noncomputable def Try.pinned : Pinned := { name := "qxb6600744a", sum := "281918cdbbb44460daa79dd13970bccaa304f3ccd71ecb9dd59fbaeb42886c26", checked := Try.checked }
namespace Rows
def none {H : Type} : Left H := { results := [], args := [] }

/-- 'zzlaws_internal_wire_b1.FnUintExact': WHATEVER THE INPUT: true; the input reads as it did. -/
def fnUintExactSpec : ChangeSpec := { name := "fnUintExact", fn := fun _ => fun
  | [d1, d2] => { results := [.lit (.bool true)], args := [d1, d2] }
  | _ => none }
def fnUintExactRow : OpenClaim := { program := "qxb6600744a", sum := "281918cdbbb44460daa79dd13970bccaa304f3ccd71ecb9dd59fbaeb42886c26", func := "example.com/sandglass/sandglass/zzlaws_internal_wire_b1.FnUintExact", spec := "fnUintExact", apart := false }
def FnUintExactSaid : Prop := fnUintExactRow.holds Try.pinned (OpenSpec.ofChange fnUintExactSpec)

/-- ITS FALSE NEIGHBOUR: 'it returns false'. Refute it at one input. -/
def fnUintExactWrong : ChangeSpec := { name := "fnUintExact", fn := fun _ => fun
  | [d1, d2] => { results := [.lit (.bool false)], args := [d1, d2] }
  | _ => none }
def FnUintExactWrongFalsely : Prop := fnUintExactRow.holds Try.pinned (OpenSpec.ofChange fnUintExactWrong)

/-- 'zzlaws_internal_wire_b1.FnUintReadsWhatItWrites': WHATEVER THE INPUT: true; the input reads as it did. -/
def fnUintReadsWhatItWritesSpec : ChangeSpec := { name := "fnUintReadsWhatItWrites", fn := fun _ => fun
  | [d1, d2] => { results := [.lit (.bool true)], args := [d1, d2] }
  | _ => none }
def fnUintReadsWhatItWritesRow : OpenClaim := { program := "qxb6600744a", sum := "281918cdbbb44460daa79dd13970bccaa304f3ccd71ecb9dd59fbaeb42886c26", func := "example.com/sandglass/sandglass/zzlaws_internal_wire_b1.FnUintReadsWhatItWrites", spec := "fnUintReadsWhatItWrites", apart := false }
def FnUintReadsWhatItWritesSaid : Prop := fnUintReadsWhatItWritesRow.holds Try.pinned (OpenSpec.ofChange fnUintReadsWhatItWritesSpec)

/-- ITS FALSE NEIGHBOUR: 'it returns false'. Refute it at one input. -/
def fnUintReadsWhatItWritesWrong : ChangeSpec := { name := "fnUintReadsWhatItWrites", fn := fun _ => fun
  | [d1, d2] => { results := [.lit (.bool false)], args := [d1, d2] }
  | _ => none }
def FnUintReadsWhatItWritesWrongFalsely : Prop := fnUintReadsWhatItWritesRow.holds Try.pinned (OpenSpec.ofChange fnUintReadsWhatItWritesWrong)

/-- 'zzlaws_internal_wire_b1.FnStrExact': WHATEVER THE INPUT: true; the input reads as it did. -/
def fnStrExactSpec : ChangeSpec := { name := "fnStrExact", fn := fun _ => fun
  | [d1, d2] => { results := [.lit (.bool true)], args := [d1, d2] }
  | _ => none }
def fnStrExactRow : OpenClaim := { program := "qxb6600744a", sum := "281918cdbbb44460daa79dd13970bccaa304f3ccd71ecb9dd59fbaeb42886c26", func := "example.com/sandglass/sandglass/zzlaws_internal_wire_b1.FnStrExact", spec := "fnStrExact", apart := false }
def FnStrExactSaid : Prop := fnStrExactRow.holds Try.pinned (OpenSpec.ofChange fnStrExactSpec)

/-- ITS FALSE NEIGHBOUR: 'it returns false'. Refute it at one input. -/
def fnStrExactWrong : ChangeSpec := { name := "fnStrExact", fn := fun _ => fun
  | [d1, d2] => { results := [.lit (.bool false)], args := [d1, d2] }
  | _ => none }
def FnStrExactWrongFalsely : Prop := fnStrExactRow.holds Try.pinned (OpenSpec.ofChange fnStrExactWrong)

/-- 'zzlaws_internal_wire_b1.FnStrRefusesEscapedByte': WHATEVER THE INPUT: true; the input reads as it did. -/
def fnStrRefusesEscapedByteSpec : ChangeSpec := { name := "fnStrRefusesEscapedByte", fn := fun _ => fun
  | [d1, d2, d3, d4] => { results := [.lit (.bool true)], args := [d1, d2, d3, d4] }
  | _ => none }
def fnStrRefusesEscapedByteRow : OpenClaim := { program := "qxb6600744a", sum := "281918cdbbb44460daa79dd13970bccaa304f3ccd71ecb9dd59fbaeb42886c26", func := "example.com/sandglass/sandglass/zzlaws_internal_wire_b1.FnStrRefusesEscapedByte", spec := "fnStrRefusesEscapedByte", apart := false }
def FnStrRefusesEscapedByteSaid : Prop := fnStrRefusesEscapedByteRow.holds Try.pinned (OpenSpec.ofChange fnStrRefusesEscapedByteSpec)

/-- ITS FALSE NEIGHBOUR: 'it returns false'. Refute it at one input. -/
def fnStrRefusesEscapedByteWrong : ChangeSpec := { name := "fnStrRefusesEscapedByte", fn := fun _ => fun
  | [d1, d2, d3, d4] => { results := [.lit (.bool false)], args := [d1, d2, d3, d4] }
  | _ => none }
def FnStrRefusesEscapedByteWrongFalsely : Prop := fnStrRefusesEscapedByteRow.holds Try.pinned (OpenSpec.ofChange fnStrRefusesEscapedByteWrong)

/-- 'zzlaws_internal_wire_b1.FnValueExact': WHATEVER THE INPUT: true; the input reads as it did. -/
def fnValueExactSpec : ChangeSpec := { name := "fnValueExact", fn := fun _ => fun
  | [d1, d2, d3] => { results := [.lit (.bool true)], args := [d1, d2, d3] }
  | _ => none }
def fnValueExactRow : OpenClaim := { program := "qxb6600744a", sum := "281918cdbbb44460daa79dd13970bccaa304f3ccd71ecb9dd59fbaeb42886c26", func := "example.com/sandglass/sandglass/zzlaws_internal_wire_b1.FnValueExact", spec := "fnValueExact", recurses := true, apart := false }
def FnValueExactSaid : Prop := fnValueExactRow.holds Try.pinned (OpenSpec.ofChange fnValueExactSpec)

/-- ITS FALSE NEIGHBOUR: 'it returns false'. Refute it at one input. -/
def fnValueExactWrong : ChangeSpec := { name := "fnValueExact", fn := fun _ => fun
  | [d1, d2, d3] => { results := [.lit (.bool false)], args := [d1, d2, d3] }
  | _ => none }
def FnValueExactWrongFalsely : Prop := fnValueExactRow.holds Try.pinned (OpenSpec.ofChange fnValueExactWrong)

/-- 'zzlaws_internal_wire_b1.FnValueShallowerDepthReadsTheSame': WHATEVER THE INPUT: true; the input reads as it did. -/
def fnValueShallowerDepthReadsTheSameSpec : ChangeSpec := { name := "fnValueShallowerDepthReadsTheSame", fn := fun _ => fun
  | [d1, d2, d3] => { results := [.lit (.bool true)], args := [d1, d2, d3] }
  | _ => none }
def fnValueShallowerDepthReadsTheSameRow : OpenClaim := { program := "qxb6600744a", sum := "281918cdbbb44460daa79dd13970bccaa304f3ccd71ecb9dd59fbaeb42886c26", func := "example.com/sandglass/sandglass/zzlaws_internal_wire_b1.FnValueShallowerDepthReadsTheSame", spec := "fnValueShallowerDepthReadsTheSame", recurses := true, apart := false }
def FnValueShallowerDepthReadsTheSameSaid : Prop := fnValueShallowerDepthReadsTheSameRow.holds Try.pinned (OpenSpec.ofChange fnValueShallowerDepthReadsTheSameSpec)

/-- ITS FALSE NEIGHBOUR: 'it returns false'. Refute it at one input. -/
def fnValueShallowerDepthReadsTheSameWrong : ChangeSpec := { name := "fnValueShallowerDepthReadsTheSame", fn := fun _ => fun
  | [d1, d2, d3] => { results := [.lit (.bool false)], args := [d1, d2, d3] }
  | _ => none }
def FnValueShallowerDepthReadsTheSameWrongFalsely : Prop := fnValueShallowerDepthReadsTheSameRow.holds Try.pinned (OpenSpec.ofChange fnValueShallowerDepthReadsTheSameWrong)

/-- 'zzlaws_internal_wire_b1.FnValueNestsInArrayAndObject': WHATEVER THE INPUT: true; the input reads as it did. -/
def fnValueNestsInArrayAndObjectSpec : ChangeSpec := { name := "fnValueNestsInArrayAndObject", fn := fun _ => fun
  | [d1, d2, d3] => { results := [.lit (.bool true)], args := [d1, d2, d3] }
  | _ => none }
def fnValueNestsInArrayAndObjectRow : OpenClaim := { program := "qxb6600744a", sum := "281918cdbbb44460daa79dd13970bccaa304f3ccd71ecb9dd59fbaeb42886c26", func := "example.com/sandglass/sandglass/zzlaws_internal_wire_b1.FnValueNestsInArrayAndObject", spec := "fnValueNestsInArrayAndObject", recurses := true, apart := false }
def FnValueNestsInArrayAndObjectSaid : Prop := fnValueNestsInArrayAndObjectRow.holds Try.pinned (OpenSpec.ofChange fnValueNestsInArrayAndObjectSpec)

/-- ITS FALSE NEIGHBOUR: 'it returns false'. Refute it at one input. -/
def fnValueNestsInArrayAndObjectWrong : ChangeSpec := { name := "fnValueNestsInArrayAndObject", fn := fun _ => fun
  | [d1, d2, d3] => { results := [.lit (.bool false)], args := [d1, d2, d3] }
  | _ => none }
def FnValueNestsInArrayAndObjectWrongFalsely : Prop := fnValueNestsInArrayAndObjectRow.holds Try.pinned (OpenSpec.ofChange fnValueNestsInArrayAndObjectWrong)

/-- 'zzlaws_internal_wire_b1.FnStrReadsQuotedSafeText': WHATEVER THE INPUT: true; the input reads as it did. -/
def fnStrReadsQuotedSafeTextSpec : ChangeSpec := { name := "fnStrReadsQuotedSafeText", fn := fun _ => fun
  | [d1, d2] => { results := [.lit (.bool true)], args := [d1, d2] }
  | _ => none }
def fnStrReadsQuotedSafeTextRow : OpenClaim := { program := "qxb6600744a", sum := "281918cdbbb44460daa79dd13970bccaa304f3ccd71ecb9dd59fbaeb42886c26", func := "example.com/sandglass/sandglass/zzlaws_internal_wire_b1.FnStrReadsQuotedSafeText", spec := "fnStrReadsQuotedSafeText", apart := false }
def FnStrReadsQuotedSafeTextSaid : Prop := fnStrReadsQuotedSafeTextRow.holds Try.pinned (OpenSpec.ofChange fnStrReadsQuotedSafeTextSpec)

/-- ITS FALSE NEIGHBOUR: 'it returns false'. Refute it at one input. -/
def fnStrReadsQuotedSafeTextWrong : ChangeSpec := { name := "fnStrReadsQuotedSafeText", fn := fun _ => fun
  | [d1, d2] => { results := [.lit (.bool false)], args := [d1, d2] }
  | _ => none }
def FnStrReadsQuotedSafeTextWrongFalsely : Prop := fnStrReadsQuotedSafeTextRow.holds Try.pinned (OpenSpec.ofChange fnStrReadsQuotedSafeTextWrong)

end Rows
end Go.Proofs.Qxb6600744a
