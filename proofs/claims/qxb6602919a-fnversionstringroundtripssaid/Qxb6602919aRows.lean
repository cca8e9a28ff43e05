/-
  No cell of these rows narrows 'for every input' (looked for: loops, veiled, ifaces, maps, wideKeys, modest, calm, conditions, laid).
  DERIVED. THE GIVEN ROWS OF THIS SEAT. 6 by the template 'for every input the law returns true; each argument reads behind the call as it read before'; 0 by the template 'total and deterministic' (their statements: Qxb6602919aTotals.lean).
  GIVEN WITH THE SEED: the statements are not yours to turn. If you find one false, say at which input.
  Laid BY PROGRAM, IN A SANDBOX (cutbox-rows.mjs): the forced cells as the released guide's own fill.sh prints them over the translation 3bc95d7120f60df0… (all of the seat's roots in one cut). By AI agents, Wed Nov 11 2026. No macro, syntax, notation, axiom, sorry.
-/
import Derived.Test.Qxb6602919aChecked
import GoSem.Claim
import GoSem.ClaimJoined
import GoSem.ClaimMapViews
import Derived.JoinedTies
import Derived.KernelRfl
namespace Go.Proofs.Qxb6602919a
/- THE CELL 'sum', in the pinned program and in every row, IS THE sha256 OF THE DUMP (.gsa) THAT Qxb6602919aProg.lean LOADS. Nothing in Lean hashes anything: it is a label: what it is worth is what the hold of that sum in a sandbox is worth. -/
noncomputable def Try.pinned : Pinned := { name := "qxb6602919a", sum := "3bc95d7120f60df04d0043b7be5faab50c5e98e1d6a3818bc38f0dc144b7c8ce", checked := Try.checked }
namespace Rows
def none {H : Type} : Left H := { results := [], args := [] }

/-- 'zzlaws_internal_release_b1.FnIsBootIDMatchesGroupModel': WHATEVER THE INPUT: true; the input reads as it did. -/
def fnIsBootIDMatchesGroupModelSpec : ChangeSpec := { name := "fnIsBootIDMatchesGroupModel", fn := fun _ => fun
  | [d] => { results := [.lit (.bool true)], args := [d] }
  | _ => none }
def fnIsBootIDMatchesGroupModelRow : OpenClaim := { program := "qxb6602919a", sum := "3bc95d7120f60df04d0043b7be5faab50c5e98e1d6a3818bc38f0dc144b7c8ce", func := "example.com/fieldcast/fieldcast/zzlaws_internal_release_b1.FnIsBootIDMatchesGroupModel", spec := "fnIsBootIDMatchesGroupModel", apart := false }
def FnIsBootIDMatchesGroupModelSaid : Prop := fnIsBootIDMatchesGroupModelRow.holds Try.pinned (OpenSpec.ofChange fnIsBootIDMatchesGroupModelSpec)

/-- ITS FALSE NEIGHBOUR: 'it returns false'. Refute it at one input. -/
def fnIsBootIDMatchesGroupModelWrong : ChangeSpec := { name := "fnIsBootIDMatchesGroupModel", fn := fun _ => fun
  | [d] => { results := [.lit (.bool false)], args := [d] }
  | _ => none }
def FnIsBootIDMatchesGroupModelWrongFalsely : Prop := fnIsBootIDMatchesGroupModelRow.holds Try.pinned (OpenSpec.ofChange fnIsBootIDMatchesGroupModelWrong)

/-- 'zzlaws_internal_release_b1.FnIsBootIDAcceptsEveryUUIDText': WHATEVER THE INPUT: true; the input reads as it did. -/
def fnIsBootIDAcceptsEveryUUIDTextSpec : ChangeSpec := { name := "fnIsBootIDAcceptsEveryUUIDText", fn := fun _ => fun
  | [d1, d2] => { results := [.lit (.bool true)], args := [d1, d2] }
  | _ => none }
def fnIsBootIDAcceptsEveryUUIDTextRow : OpenClaim := { program := "qxb6602919a", sum := "3bc95d7120f60df04d0043b7be5faab50c5e98e1d6a3818bc38f0dc144b7c8ce", func := "example.com/fieldcast/fieldcast/zzlaws_internal_release_b1.FnIsBootIDAcceptsEveryUUIDText", spec := "fnIsBootIDAcceptsEveryUUIDText", apart := false }
def FnIsBootIDAcceptsEveryUUIDTextSaid : Prop := fnIsBootIDAcceptsEveryUUIDTextRow.holds Try.pinned (OpenSpec.ofChange fnIsBootIDAcceptsEveryUUIDTextSpec)

/-- ITS FALSE NEIGHBOUR: 'it returns false'. Refute it at one input. -/
def fnIsBootIDAcceptsEveryUUIDTextWrong : ChangeSpec := { name := "fnIsBootIDAcceptsEveryUUIDText", fn := fun _ => fun
  | [d1, d2] => { results := [.lit (.bool false)], args := [d1, d2] }
  | _ => none }
def FnIsBootIDAcceptsEveryUUIDTextWrongFalsely : Prop := fnIsBootIDAcceptsEveryUUIDTextRow.holds Try.pinned (OpenSpec.ofChange fnIsBootIDAcceptsEveryUUIDTextWrong)

/-- 'zzlaws_internal_release_b1.FnIsIdentifierOfConcatenation': WHATEVER THE INPUT: true; the input reads as it did. -/
def fnIsIdentifierOfConcatenationSpec : ChangeSpec := { name := "fnIsIdentifierOfConcatenation", fn := fun _ => fun
  | [d1, d2] => { results := [.lit (.bool true)], args := [d1, d2] }
  | _ => none }
def fnIsIdentifierOfConcatenationRow : OpenClaim := { program := "qxb6602919a", sum := "3bc95d7120f60df04d0043b7be5faab50c5e98e1d6a3818bc38f0dc144b7c8ce", func := "example.com/fieldcast/fieldcast/zzlaws_internal_release_b1.FnIsIdentifierOfConcatenation", spec := "fnIsIdentifierOfConcatenation", apart := false }
def FnIsIdentifierOfConcatenationSaid : Prop := fnIsIdentifierOfConcatenationRow.holds Try.pinned (OpenSpec.ofChange fnIsIdentifierOfConcatenationSpec)

/-- ITS FALSE NEIGHBOUR: 'it returns false'. Refute it at one input. -/
def fnIsIdentifierOfConcatenationWrong : ChangeSpec := { name := "fnIsIdentifierOfConcatenation", fn := fun _ => fun
  | [d1, d2] => { results := [.lit (.bool false)], args := [d1, d2] }
  | _ => none }
def FnIsIdentifierOfConcatenationWrongFalsely : Prop := fnIsIdentifierOfConcatenationRow.holds Try.pinned (OpenSpec.ofChange fnIsIdentifierOfConcatenationWrong)

/-- 'zzlaws_internal_release_b1.FnIsIdentifierRefusesSeparators': WHATEVER THE INPUT: true; the input reads as it did. -/
def fnIsIdentifierRefusesSeparatorsSpec : ChangeSpec := { name := "fnIsIdentifierRefusesSeparators", fn := fun _ => fun
  | [d1, d2, d3] => { results := [.lit (.bool true)], args := [d1, d2, d3] }
  | _ => none }
def fnIsIdentifierRefusesSeparatorsRow : OpenClaim := { program := "qxb6602919a", sum := "3bc95d7120f60df04d0043b7be5faab50c5e98e1d6a3818bc38f0dc144b7c8ce", func := "example.com/fieldcast/fieldcast/zzlaws_internal_release_b1.FnIsIdentifierRefusesSeparators", spec := "fnIsIdentifierRefusesSeparators", apart := false }
def FnIsIdentifierRefusesSeparatorsSaid : Prop := fnIsIdentifierRefusesSeparatorsRow.holds Try.pinned (OpenSpec.ofChange fnIsIdentifierRefusesSeparatorsSpec)

/-- ITS FALSE NEIGHBOUR: 'it returns false'. Refute it at one input. -/
def fnIsIdentifierRefusesSeparatorsWrong : ChangeSpec := { name := "fnIsIdentifierRefusesSeparators", fn := fun _ => fun
  | [d1, d2, d3] => { results := [.lit (.bool false)], args := [d1, d2, d3] }
  | _ => none }
def FnIsIdentifierRefusesSeparatorsWrongFalsely : Prop := fnIsIdentifierRefusesSeparatorsRow.holds Try.pinned (OpenSpec.ofChange fnIsIdentifierRefusesSeparatorsWrong)

/-- 'zzlaws_internal_release_b1.FnVersionStringRoundTrips': WHATEVER THE INPUT: true; the input reads as it did. -/
def fnVersionStringRoundTripsSpec : ChangeSpec := { name := "fnVersionStringRoundTrips", fn := fun _ => fun
  | [d1, d2, d3, d4, d5] => { results := [.lit (.bool true)], args := [d1, d2, d3, d4, d5] }
  | _ => none }
def fnVersionStringRoundTripsRow : OpenClaim := { program := "qxb6602919a", sum := "3bc95d7120f60df04d0043b7be5faab50c5e98e1d6a3818bc38f0dc144b7c8ce", func := "example.com/fieldcast/fieldcast/zzlaws_internal_release_b1.FnVersionStringRoundTrips", spec := "fnVersionStringRoundTrips", inPlace := ["internal/abi.NoEscape", "internal/bytealg.MakeNoZero"], apart := false }
def FnVersionStringRoundTripsSaid : Prop := fnVersionStringRoundTripsRow.holds Try.pinned (OpenSpec.ofChange fnVersionStringRoundTripsSpec)

/-- ITS FALSE NEIGHBOUR: 'it returns false'. Refute it at one input. -/
def fnVersionStringRoundTripsWrong : ChangeSpec := { name := "fnVersionStringRoundTrips", fn := fun _ => fun
  | [d1, d2, d3, d4, d5] => { results := [.lit (.bool false)], args := [d1, d2, d3, d4, d5] }
  | _ => none }
def FnVersionStringRoundTripsWrongFalsely : Prop := fnVersionStringRoundTripsRow.holds Try.pinned (OpenSpec.ofChange fnVersionStringRoundTripsWrong)

/-- 'zzlaws_internal_release_b1.FnVersionStringLengthAndEnds': WHATEVER THE INPUT: true; the input reads as it did. -/
def fnVersionStringLengthAndEndsSpec : ChangeSpec := { name := "fnVersionStringLengthAndEnds", fn := fun _ => fun
  | [d1, d2, d3, d4, d5] => { results := [.lit (.bool true)], args := [d1, d2, d3, d4, d5] }
  | _ => none }
def fnVersionStringLengthAndEndsRow : OpenClaim := { program := "qxb6602919a", sum := "3bc95d7120f60df04d0043b7be5faab50c5e98e1d6a3818bc38f0dc144b7c8ce", func := "example.com/fieldcast/fieldcast/zzlaws_internal_release_b1.FnVersionStringLengthAndEnds", spec := "fnVersionStringLengthAndEnds", inPlace := ["internal/abi.NoEscape", "internal/bytealg.MakeNoZero"], apart := false }
def FnVersionStringLengthAndEndsSaid : Prop := fnVersionStringLengthAndEndsRow.holds Try.pinned (OpenSpec.ofChange fnVersionStringLengthAndEndsSpec)

/-- ITS FALSE NEIGHBOUR: 'it returns false'. Refute it at one input. -/
def fnVersionStringLengthAndEndsWrong : ChangeSpec := { name := "fnVersionStringLengthAndEnds", fn := fun _ => fun
  | [d1, d2, d3, d4, d5] => { results := [.lit (.bool false)], args := [d1, d2, d3, d4, d5] }
  | _ => none }
def FnVersionStringLengthAndEndsWrongFalsely : Prop := fnVersionStringLengthAndEndsRow.holds Try.pinned (OpenSpec.ofChange fnVersionStringLengthAndEndsWrong)

end Rows
end Go.Proofs.Qxb6602919a
