/-
  No cell of these rows narrows 'for every input' (looked for: loops, veiled, ifaces, maps, wideKeys, modest, calm, conditions, laid).
  DERIVED. THE GIVEN ROWS OF THIS SEAT. 2 by the template 'for every input the law returns true; each argument reads behind the call as it read before'; 0 by the template 'total and deterministic' (their statements: Qxb6603870aTotals.lean).
  GIVEN WITH THE SEED: the statements are not yours to turn. If you find one false, say at which input.
  Laid BY PROGRAM, IN A SANDBOX (cutbox-rows.mjs): the forced cells as the released guide's own fill.sh prints them over the translation 8802832984266d8b… (all of the seat's roots in one cut). By AI agents, Wed Nov 11 2026. No macro, syntax, notation, axiom, sorry.
-/
import Derived.Test.Qxb6603870aChecked
import GoSem.Claim
import GoSem.ClaimJoined
import GoSem.ClaimMapViews
import Derived.JoinedTies
import Derived.KernelRfl
namespace Go.Proofs.Qxb6603870a
/- THE CELL 'sum', in the pinned program and in every row, IS THE sha256 OF THE DUMP (.gsa) THAT Qxb6603870aProg.lean LOADS. Nothing in Lean hashes anything: it is a label: what it is worth is what the hold of that sum in a sandbox is worth. -/
noncomputable def Try.pinned : Pinned := { name := "qxb6603870a", sum := "8802832984266d8be001b77ab1b294f1f3573c5aaafb0dfd9ee540367301c278", checked := Try.checked }
namespace Rows
def none {H : Type} : Left H := { results := [], args := [] }

/-- 'zzlaws_internal_bench_b1.FnPlainStringMatchesOnePassModel': WHATEVER THE INPUT: true; the input reads as it did. -/
def fnPlainStringMatchesOnePassModelSpec : ChangeSpec := { name := "fnPlainStringMatchesOnePassModel", fn := fun _ => fun
  | [d1, d2] => { results := [.lit (.bool true)], args := [d1, d2] }
  | _ => none }
def fnPlainStringMatchesOnePassModelRow : OpenClaim := { program := "qxb6603870a", sum := "8802832984266d8be001b77ab1b294f1f3573c5aaafb0dfd9ee540367301c278", func := "example.com/calmtide/calmtide/zzlaws_internal_bench_b1.FnPlainStringMatchesOnePassModel", spec := "fnPlainStringMatchesOnePassModel", inPlace := ["internal/bytealg.IndexByteString"], apart := false }
def FnPlainStringMatchesOnePassModelSaid : Prop := fnPlainStringMatchesOnePassModelRow.holds Try.pinned (OpenSpec.ofChange fnPlainStringMatchesOnePassModelSpec)

/-- ITS FALSE NEIGHBOUR: 'it returns false'. Refute it at one input. -/
def fnPlainStringMatchesOnePassModelWrong : ChangeSpec := { name := "fnPlainStringMatchesOnePassModel", fn := fun _ => fun
  | [d1, d2] => { results := [.lit (.bool false)], args := [d1, d2] }
  | _ => none }
def FnPlainStringMatchesOnePassModelWrongFalsely : Prop := fnPlainStringMatchesOnePassModelRow.holds Try.pinned (OpenSpec.ofChange fnPlainStringMatchesOnePassModelWrong)

/-- 'zzlaws_internal_bench_b1.FnPlainStringReadsBackQuoted': WHATEVER THE INPUT: true; the input reads as it did. -/
def fnPlainStringReadsBackQuotedSpec : ChangeSpec := { name := "fnPlainStringReadsBackQuoted", fn := fun _ => fun
  | [d1, d2, d3] => { results := [.lit (.bool true)], args := [d1, d2, d3] }
  | _ => none }
def fnPlainStringReadsBackQuotedRow : OpenClaim := { program := "qxb6603870a", sum := "8802832984266d8be001b77ab1b294f1f3573c5aaafb0dfd9ee540367301c278", func := "example.com/calmtide/calmtide/zzlaws_internal_bench_b1.FnPlainStringReadsBackQuoted", spec := "fnPlainStringReadsBackQuoted", inPlace := ["internal/bytealg.IndexByteString"], apart := false }
def FnPlainStringReadsBackQuotedSaid : Prop := fnPlainStringReadsBackQuotedRow.holds Try.pinned (OpenSpec.ofChange fnPlainStringReadsBackQuotedSpec)

/-- ITS FALSE NEIGHBOUR: 'it returns false'. Refute it at one input. -/
def fnPlainStringReadsBackQuotedWrong : ChangeSpec := { name := "fnPlainStringReadsBackQuoted", fn := fun _ => fun
  | [d1, d2, d3] => { results := [.lit (.bool false)], args := [d1, d2, d3] }
  | _ => none }
def FnPlainStringReadsBackQuotedWrongFalsely : Prop := fnPlainStringReadsBackQuotedRow.holds Try.pinned (OpenSpec.ofChange fnPlainStringReadsBackQuotedWrong)

end Rows
end Go.Proofs.Qxb6603870a
