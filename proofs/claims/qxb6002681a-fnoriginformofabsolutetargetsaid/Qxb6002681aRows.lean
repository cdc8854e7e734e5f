/-
  No cell of these rows narrows 'for every input' (looked for: loops, veiled, ifaces, maps, wideKeys, modest, calm, conditions, laid).
  DERIVED. THE GIVEN ROWS OF THIS SEAT. 8 by the template 'for every input the law returns true; each argument reads behind the call as it read before'; 0 by the template 'total and deterministic' (their statements: Qxb6002681aTotals.lean).
  GIVEN WITH THE SEED: the statements are not yours to turn. If you find one false, say at which input.
  Laid BY PROGRAM, IN A SANDBOX (cutbox-rows.mjs): the forced cells as the released guide's own fill.sh prints them over the translation 5ab1f75c1db68ea7… (all of the seat's roots in one cut). By AI agents, Wed Nov 11 2026. No macro, syntax, notation, axiom, sorry.
-/
import Derived.Test.Qxb6002681aChecked
import GoSem.Claim
import GoSem.ClaimJoined
import GoSem.ClaimMapViews
import Derived.JoinedTies
import Derived.KernelRfl
namespace Go.Proofs.Qxb6002681a
/- THE CELL 'sum', in the pinned program and in every row, IS THE sha256 OF THE DUMP (.gsa) THAT Qxb6002681aProg.lean LOADS. Nothing in Lean hashes anything: it is a label: what it is worth is what the hold of that sum in a sandbox is worth. -/
noncomputable def Try.pinned : Pinned := { name := "qxb6002681a", sum := "5ab1f75c1db68ea7782d7302c67ee6caa1c5026dff8f5cb38111c761bbd8c64b", checked := Try.checked }
namespace Rows
def none {H : Type} : Left H := { results := [], args := [] }

/-- 'zzlaws_pkg_http1_b1.FnOriginFormIdempotent': WHATEVER THE INPUT: true; the input reads as it did. -/
def fnOriginFormIdempotentSpec : ChangeSpec := { name := "fnOriginFormIdempotent", fn := fun _ => fun
  | [d] => { results := [.lit (.bool true)], args := [d] }
  | _ => none }
def fnOriginFormIdempotentRow : OpenClaim := { program := "qxb6002681a", sum := "5ab1f75c1db68ea7782d7302c67ee6caa1c5026dff8f5cb38111c761bbd8c64b", func := "example.com/portcullis/portcullis/zzlaws_pkg_http1_b1.FnOriginFormIdempotent", spec := "fnOriginFormIdempotent", inPlace := ["internal/bytealg.IndexByte", "internal/bytealg.Index"], named := ["internal/bytealg.MaxLen"], apart := false }
def FnOriginFormIdempotentSaid : Prop := fnOriginFormIdempotentRow.holds Try.pinned (OpenSpec.ofChange fnOriginFormIdempotentSpec)

/-- ITS FALSE NEIGHBOUR: 'it returns false'. Refute it at one input. -/
def fnOriginFormIdempotentWrong : ChangeSpec := { name := "fnOriginFormIdempotent", fn := fun _ => fun
  | [d] => { results := [.lit (.bool false)], args := [d] }
  | _ => none }
def FnOriginFormIdempotentWrongFalsely : Prop := fnOriginFormIdempotentRow.holds Try.pinned (OpenSpec.ofChange fnOriginFormIdempotentWrong)

/-- 'zzlaws_pkg_http1_b1.FnOriginFormShape': WHATEVER THE INPUT: true; the input reads as it did. -/
def fnOriginFormShapeSpec : ChangeSpec := { name := "fnOriginFormShape", fn := fun _ => fun
  | [d] => { results := [.lit (.bool true)], args := [d] }
  | _ => none }
def fnOriginFormShapeRow : OpenClaim := { program := "qxb6002681a", sum := "5ab1f75c1db68ea7782d7302c67ee6caa1c5026dff8f5cb38111c761bbd8c64b", func := "example.com/portcullis/portcullis/zzlaws_pkg_http1_b1.FnOriginFormShape", spec := "fnOriginFormShape", inPlace := ["internal/bytealg.IndexByte", "internal/bytealg.Index"], named := ["internal/bytealg.MaxLen"], apart := false }
def FnOriginFormShapeSaid : Prop := fnOriginFormShapeRow.holds Try.pinned (OpenSpec.ofChange fnOriginFormShapeSpec)

/-- ITS FALSE NEIGHBOUR: 'it returns false'. Refute it at one input. -/
def fnOriginFormShapeWrong : ChangeSpec := { name := "fnOriginFormShape", fn := fun _ => fun
  | [d] => { results := [.lit (.bool false)], args := [d] }
  | _ => none }
def FnOriginFormShapeWrongFalsely : Prop := fnOriginFormShapeRow.holds Try.pinned (OpenSpec.ofChange fnOriginFormShapeWrong)

/-- 'zzlaws_pkg_http1_b1.FnOriginFormOfAbsoluteTarget': WHATEVER THE INPUT: true; the input reads as it did. -/
def fnOriginFormOfAbsoluteTargetSpec : ChangeSpec := { name := "fnOriginFormOfAbsoluteTarget", fn := fun _ => fun
  | [d1, d2, d3] => { results := [.lit (.bool true)], args := [d1, d2, d3] }
  | _ => none }
def fnOriginFormOfAbsoluteTargetRow : OpenClaim := { program := "qxb6002681a", sum := "5ab1f75c1db68ea7782d7302c67ee6caa1c5026dff8f5cb38111c761bbd8c64b", func := "example.com/portcullis/portcullis/zzlaws_pkg_http1_b1.FnOriginFormOfAbsoluteTarget", spec := "fnOriginFormOfAbsoluteTarget", inPlace := ["internal/bytealg.IndexByte", "internal/bytealg.Index"], named := ["internal/bytealg.MaxLen"], apart := false }
def FnOriginFormOfAbsoluteTargetSaid : Prop := fnOriginFormOfAbsoluteTargetRow.holds Try.pinned (OpenSpec.ofChange fnOriginFormOfAbsoluteTargetSpec)

/-- ITS FALSE NEIGHBOUR: 'it returns false'. Refute it at one input. -/
def fnOriginFormOfAbsoluteTargetWrong : ChangeSpec := { name := "fnOriginFormOfAbsoluteTarget", fn := fun _ => fun
  | [d1, d2, d3] => { results := [.lit (.bool false)], args := [d1, d2, d3] }
  | _ => none }
def FnOriginFormOfAbsoluteTargetWrongFalsely : Prop := fnOriginFormOfAbsoluteTargetRow.holds Try.pinned (OpenSpec.ofChange fnOriginFormOfAbsoluteTargetWrong)

/-- 'zzlaws_pkg_http1_b1.FnCutLineRoundTrip': WHATEVER THE INPUT: true; the input reads as it did. -/
def fnCutLineRoundTripSpec : ChangeSpec := { name := "fnCutLineRoundTrip", fn := fun _ => fun
  | [d1, d2] => { results := [.lit (.bool true)], args := [d1, d2] }
  | _ => none }
def fnCutLineRoundTripRow : OpenClaim := { program := "qxb6002681a", sum := "5ab1f75c1db68ea7782d7302c67ee6caa1c5026dff8f5cb38111c761bbd8c64b", func := "example.com/portcullis/portcullis/zzlaws_pkg_http1_b1.FnCutLineRoundTrip", spec := "fnCutLineRoundTrip", inPlace := ["internal/bytealg.IndexByte"], apart := false }
def FnCutLineRoundTripSaid : Prop := fnCutLineRoundTripRow.holds Try.pinned (OpenSpec.ofChange fnCutLineRoundTripSpec)

/-- ITS FALSE NEIGHBOUR: 'it returns false'. Refute it at one input. -/
def fnCutLineRoundTripWrong : ChangeSpec := { name := "fnCutLineRoundTrip", fn := fun _ => fun
  | [d1, d2] => { results := [.lit (.bool false)], args := [d1, d2] }
  | _ => none }
def FnCutLineRoundTripWrongFalsely : Prop := fnCutLineRoundTripRow.holds Try.pinned (OpenSpec.ofChange fnCutLineRoundTripWrong)

/-- 'zzlaws_pkg_http1_b1.FnCutLineSplitsAtFirstCRLF': WHATEVER THE INPUT: true; the input reads as it did. -/
def fnCutLineSplitsAtFirstCRLFSpec : ChangeSpec := { name := "fnCutLineSplitsAtFirstCRLF", fn := fun _ => fun
  | [d] => { results := [.lit (.bool true)], args := [d] }
  | _ => none }
def fnCutLineSplitsAtFirstCRLFRow : OpenClaim := { program := "qxb6002681a", sum := "5ab1f75c1db68ea7782d7302c67ee6caa1c5026dff8f5cb38111c761bbd8c64b", func := "example.com/portcullis/portcullis/zzlaws_pkg_http1_b1.FnCutLineSplitsAtFirstCRLF", spec := "fnCutLineSplitsAtFirstCRLF", inPlace := ["internal/bytealg.IndexByte"], apart := false }
def FnCutLineSplitsAtFirstCRLFSaid : Prop := fnCutLineSplitsAtFirstCRLFRow.holds Try.pinned (OpenSpec.ofChange fnCutLineSplitsAtFirstCRLFSpec)

/-- ITS FALSE NEIGHBOUR: 'it returns false'. Refute it at one input. -/
def fnCutLineSplitsAtFirstCRLFWrong : ChangeSpec := { name := "fnCutLineSplitsAtFirstCRLF", fn := fun _ => fun
  | [d] => { results := [.lit (.bool false)], args := [d] }
  | _ => none }
def FnCutLineSplitsAtFirstCRLFWrongFalsely : Prop := fnCutLineSplitsAtFirstCRLFRow.holds Try.pinned (OpenSpec.ofChange fnCutLineSplitsAtFirstCRLFWrong)

/-- 'zzlaws_pkg_http1_b1.FnHeadEndStreamingAgrees': WHATEVER THE INPUT: true; the input reads as it did. -/
def fnHeadEndStreamingAgreesSpec : ChangeSpec := { name := "fnHeadEndStreamingAgrees", fn := fun _ => fun
  | [d1, d2, d3] => { results := [.lit (.bool true)], args := [d1, d2, d3] }
  | _ => none }
def fnHeadEndStreamingAgreesRow : OpenClaim := { program := "qxb6002681a", sum := "5ab1f75c1db68ea7782d7302c67ee6caa1c5026dff8f5cb38111c761bbd8c64b", func := "example.com/portcullis/portcullis/zzlaws_pkg_http1_b1.FnHeadEndStreamingAgrees", spec := "fnHeadEndStreamingAgrees", inPlace := ["internal/bytealg.IndexByte", "internal/bytealg.Index"], named := ["internal/bytealg.MaxLen"], apart := false }
def FnHeadEndStreamingAgreesSaid : Prop := fnHeadEndStreamingAgreesRow.holds Try.pinned (OpenSpec.ofChange fnHeadEndStreamingAgreesSpec)

/-- ITS FALSE NEIGHBOUR: 'it returns false'. Refute it at one input. -/
def fnHeadEndStreamingAgreesWrong : ChangeSpec := { name := "fnHeadEndStreamingAgrees", fn := fun _ => fun
  | [d1, d2, d3] => { results := [.lit (.bool false)], args := [d1, d2, d3] }
  | _ => none }
def FnHeadEndStreamingAgreesWrongFalsely : Prop := fnHeadEndStreamingAgreesRow.holds Try.pinned (OpenSpec.ofChange fnHeadEndStreamingAgreesWrong)

/-- 'zzlaws_pkg_http1_b1.FnHeadEndFindsFirstEmptyLine': WHATEVER THE INPUT: true; the input reads as it did. -/
def fnHeadEndFindsFirstEmptyLineSpec : ChangeSpec := { name := "fnHeadEndFindsFirstEmptyLine", fn := fun _ => fun
  | [d] => { results := [.lit (.bool true)], args := [d] }
  | _ => none }
def fnHeadEndFindsFirstEmptyLineRow : OpenClaim := { program := "qxb6002681a", sum := "5ab1f75c1db68ea7782d7302c67ee6caa1c5026dff8f5cb38111c761bbd8c64b", func := "example.com/portcullis/portcullis/zzlaws_pkg_http1_b1.FnHeadEndFindsFirstEmptyLine", spec := "fnHeadEndFindsFirstEmptyLine", inPlace := ["internal/bytealg.IndexByte", "internal/bytealg.Index"], named := ["internal/bytealg.MaxLen"], apart := false }
def FnHeadEndFindsFirstEmptyLineSaid : Prop := fnHeadEndFindsFirstEmptyLineRow.holds Try.pinned (OpenSpec.ofChange fnHeadEndFindsFirstEmptyLineSpec)

/-- ITS FALSE NEIGHBOUR: 'it returns false'. Refute it at one input. -/
def fnHeadEndFindsFirstEmptyLineWrong : ChangeSpec := { name := "fnHeadEndFindsFirstEmptyLine", fn := fun _ => fun
  | [d] => { results := [.lit (.bool false)], args := [d] }
  | _ => none }
def FnHeadEndFindsFirstEmptyLineWrongFalsely : Prop := fnHeadEndFindsFirstEmptyLineRow.holds Try.pinned (OpenSpec.ofChange fnHeadEndFindsFirstEmptyLineWrong)

/-- 'zzlaws_pkg_http1_b1.FnHeadEndStableUnderMoreBytes': WHATEVER THE INPUT: true; the input reads as it did. -/
def fnHeadEndStableUnderMoreBytesSpec : ChangeSpec := { name := "fnHeadEndStableUnderMoreBytes", fn := fun _ => fun
  | [d1, d2] => { results := [.lit (.bool true)], args := [d1, d2] }
  | _ => none }
def fnHeadEndStableUnderMoreBytesRow : OpenClaim := { program := "qxb6002681a", sum := "5ab1f75c1db68ea7782d7302c67ee6caa1c5026dff8f5cb38111c761bbd8c64b", func := "example.com/portcullis/portcullis/zzlaws_pkg_http1_b1.FnHeadEndStableUnderMoreBytes", spec := "fnHeadEndStableUnderMoreBytes", inPlace := ["internal/bytealg.IndexByte", "internal/bytealg.Index"], named := ["internal/bytealg.MaxLen"], apart := false }
def FnHeadEndStableUnderMoreBytesSaid : Prop := fnHeadEndStableUnderMoreBytesRow.holds Try.pinned (OpenSpec.ofChange fnHeadEndStableUnderMoreBytesSpec)

/-- ITS FALSE NEIGHBOUR: 'it returns false'. Refute it at one input. -/
def fnHeadEndStableUnderMoreBytesWrong : ChangeSpec := { name := "fnHeadEndStableUnderMoreBytes", fn := fun _ => fun
  | [d1, d2] => { results := [.lit (.bool false)], args := [d1, d2] }
  | _ => none }
def FnHeadEndStableUnderMoreBytesWrongFalsely : Prop := fnHeadEndStableUnderMoreBytesRow.holds Try.pinned (OpenSpec.ofChange fnHeadEndStableUnderMoreBytesWrong)

end Rows
end Go.Proofs.Qxb6002681a
