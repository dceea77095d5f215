/-
  No cell of these rows narrows 'for every input' (looked for: loops, veiled, ifaces, maps, wideKeys, modest, calm, conditions, laid).
  DERIVED. THE GIVEN ROWS OF THIS SEAT. 6 by the template 'for every input the law returns true; each argument reads behind the call as it read before'; 0 by the template 'total and deterministic' (their statements: Qxb6601846aTotals.lean).
  GIVEN WITH THE SEED: the statements are not yours to turn. If you find one false, say at which input.
  Laid BY PROGRAM, IN A SANDBOX (cutbox-rows.mjs): the forced cells as the released guide's own fill.sh prints them over the translation b2012dde3555101b… (all of the seat's roots in one cut). By AI agents, Wed Nov 11 2026. No macro, syntax, notation, axiom, sorry.
-/
import Derived.Test.Qxb6601846aChecked
import GoSem.Claim
import GoSem.ClaimJoined
import GoSem.ClaimMapViews
import Derived.JoinedTies
import Derived.KernelRfl
namespace Go.Proofs.Qxb6601846a
/- THE CELL 'sum', in the pinned program and in every row, IS THE sha256 OF THE DUMP (.gsa) THAT Qxb6601846aProg.lean LOADS. Nothing in Lean hashes anything: it is a label: what it is worth is what the hold of that sum in a sandbox is worth. -/
noncomputable def Try.pinned : Pinned := { name := "qxb6601846a", sum := "b2012dde3555101b6ae0dd45a5d4d49cfe873c196c2522ccedf1c00b1c6d3287", checked := Try.checked }
namespace Rows
def none {H : Type} : Left H := { results := [], args := [] }

/-- 'zzlaws_pkg_e164_b1.FnFromDomainMatchesLabelModel': WHATEVER THE INPUT: true; the input reads as it did. -/
def fnFromDomainMatchesLabelModelSpec : ChangeSpec := { name := "fnFromDomainMatchesLabelModel", fn := fun _ => fun
  | [d1, d2] => { results := [.lit (.bool true)], args := [d1, d2] }
  | _ => none }
def fnFromDomainMatchesLabelModelRow : OpenClaim := { program := "qxb6601846a", sum := "b2012dde3555101b6ae0dd45a5d4d49cfe873c196c2522ccedf1c00b1c6d3287", func := "example.com/peervane/peervane/zzlaws_pkg_e164_b1.FnFromDomainMatchesLabelModel", spec := "fnFromDomainMatchesLabelModel", apart := false }
def FnFromDomainMatchesLabelModelSaid : Prop := fnFromDomainMatchesLabelModelRow.holds Try.pinned (OpenSpec.ofChange fnFromDomainMatchesLabelModelSpec)

/-- ITS FALSE NEIGHBOUR: 'it returns false'. Refute it at one input. -/
def fnFromDomainMatchesLabelModelWrong : ChangeSpec := { name := "fnFromDomainMatchesLabelModel", fn := fun _ => fun
  | [d1, d2] => { results := [.lit (.bool false)], args := [d1, d2] }
  | _ => none }
def FnFromDomainMatchesLabelModelWrongFalsely : Prop := fnFromDomainMatchesLabelModelRow.holds Try.pinned (OpenSpec.ofChange fnFromDomainMatchesLabelModelWrong)

/-- 'zzlaws_pkg_e164_b1.FnFromDomainIgnoresLetterCase': WHATEVER THE INPUT: true; the input reads as it did. -/
def fnFromDomainIgnoresLetterCaseSpec : ChangeSpec := { name := "fnFromDomainIgnoresLetterCase", fn := fun _ => fun
  | [d1, d2] => { results := [.lit (.bool true)], args := [d1, d2] }
  | _ => none }
def fnFromDomainIgnoresLetterCaseRow : OpenClaim := { program := "qxb6601846a", sum := "b2012dde3555101b6ae0dd45a5d4d49cfe873c196c2522ccedf1c00b1c6d3287", func := "example.com/peervane/peervane/zzlaws_pkg_e164_b1.FnFromDomainIgnoresLetterCase", spec := "fnFromDomainIgnoresLetterCase", apart := false }
def FnFromDomainIgnoresLetterCaseSaid : Prop := fnFromDomainIgnoresLetterCaseRow.holds Try.pinned (OpenSpec.ofChange fnFromDomainIgnoresLetterCaseSpec)

/-- ITS FALSE NEIGHBOUR: 'it returns false'. Refute it at one input. -/
def fnFromDomainIgnoresLetterCaseWrong : ChangeSpec := { name := "fnFromDomainIgnoresLetterCase", fn := fun _ => fun
  | [d1, d2] => { results := [.lit (.bool false)], args := [d1, d2] }
  | _ => none }
def FnFromDomainIgnoresLetterCaseWrongFalsely : Prop := fnFromDomainIgnoresLetterCaseRow.holds Try.pinned (OpenSpec.ofChange fnFromDomainIgnoresLetterCaseWrong)

/-- 'zzlaws_pkg_e164_b1.FnFromDomainAcceptsOnlyCanonicalNames': WHATEVER THE INPUT: true; the input reads as it did. -/
def fnFromDomainAcceptsOnlyCanonicalNamesSpec : ChangeSpec := { name := "fnFromDomainAcceptsOnlyCanonicalNames", fn := fun _ => fun
  | [d1, d2] => { results := [.lit (.bool true)], args := [d1, d2] }
  | _ => none }
def fnFromDomainAcceptsOnlyCanonicalNamesRow : OpenClaim := { program := "qxb6601846a", sum := "b2012dde3555101b6ae0dd45a5d4d49cfe873c196c2522ccedf1c00b1c6d3287", func := "example.com/peervane/peervane/zzlaws_pkg_e164_b1.FnFromDomainAcceptsOnlyCanonicalNames", spec := "fnFromDomainAcceptsOnlyCanonicalNames", inPlace := ["internal/abi.NoEscape", "internal/bytealg.MakeNoZero"], apart := false }
def FnFromDomainAcceptsOnlyCanonicalNamesSaid : Prop := fnFromDomainAcceptsOnlyCanonicalNamesRow.holds Try.pinned (OpenSpec.ofChange fnFromDomainAcceptsOnlyCanonicalNamesSpec)

/-- ITS FALSE NEIGHBOUR: 'it returns false'. Refute it at one input. -/
def fnFromDomainAcceptsOnlyCanonicalNamesWrong : ChangeSpec := { name := "fnFromDomainAcceptsOnlyCanonicalNames", fn := fun _ => fun
  | [d1, d2] => { results := [.lit (.bool false)], args := [d1, d2] }
  | _ => none }
def FnFromDomainAcceptsOnlyCanonicalNamesWrongFalsely : Prop := fnFromDomainAcceptsOnlyCanonicalNamesRow.holds Try.pinned (OpenSpec.ofChange fnFromDomainAcceptsOnlyCanonicalNamesWrong)

/-- 'zzlaws_pkg_e164_b1.FnDomainThenFromDomainRoundTrip': WHATEVER THE INPUT: true; the input reads as it did. -/
def fnDomainThenFromDomainRoundTripSpec : ChangeSpec := { name := "fnDomainThenFromDomainRoundTrip", fn := fun _ => fun
  | [d1, d2] => { results := [.lit (.bool true)], args := [d1, d2] }
  | _ => none }
def fnDomainThenFromDomainRoundTripRow : OpenClaim := { program := "qxb6601846a", sum := "b2012dde3555101b6ae0dd45a5d4d49cfe873c196c2522ccedf1c00b1c6d3287", func := "example.com/peervane/peervane/zzlaws_pkg_e164_b1.FnDomainThenFromDomainRoundTrip", spec := "fnDomainThenFromDomainRoundTrip", inPlace := ["internal/abi.NoEscape", "internal/bytealg.MakeNoZero"], apart := false }
def FnDomainThenFromDomainRoundTripSaid : Prop := fnDomainThenFromDomainRoundTripRow.holds Try.pinned (OpenSpec.ofChange fnDomainThenFromDomainRoundTripSpec)

/-- ITS FALSE NEIGHBOUR: 'it returns false'. Refute it at one input. -/
def fnDomainThenFromDomainRoundTripWrong : ChangeSpec := { name := "fnDomainThenFromDomainRoundTrip", fn := fun _ => fun
  | [d1, d2] => { results := [.lit (.bool false)], args := [d1, d2] }
  | _ => none }
def FnDomainThenFromDomainRoundTripWrongFalsely : Prop := fnDomainThenFromDomainRoundTripRow.holds Try.pinned (OpenSpec.ofChange fnDomainThenFromDomainRoundTripWrong)

/-- 'zzlaws_pkg_e164_b1.FnEqualFoldASCIIMatchesXorModel': WHATEVER THE INPUT: true; the input reads as it did. -/
def fnEqualFoldASCIIMatchesXorModelSpec : ChangeSpec := { name := "fnEqualFoldASCIIMatchesXorModel", fn := fun _ => fun
  | [d1, d2] => { results := [.lit (.bool true)], args := [d1, d2] }
  | _ => none }
def fnEqualFoldASCIIMatchesXorModelRow : OpenClaim := { program := "qxb6601846a", sum := "b2012dde3555101b6ae0dd45a5d4d49cfe873c196c2522ccedf1c00b1c6d3287", func := "example.com/peervane/peervane/zzlaws_pkg_e164_b1.FnEqualFoldASCIIMatchesXorModel", spec := "fnEqualFoldASCIIMatchesXorModel", apart := false }
def FnEqualFoldASCIIMatchesXorModelSaid : Prop := fnEqualFoldASCIIMatchesXorModelRow.holds Try.pinned (OpenSpec.ofChange fnEqualFoldASCIIMatchesXorModelSpec)

/-- ITS FALSE NEIGHBOUR: 'it returns false'. Refute it at one input. -/
def fnEqualFoldASCIIMatchesXorModelWrong : ChangeSpec := { name := "fnEqualFoldASCIIMatchesXorModel", fn := fun _ => fun
  | [d1, d2] => { results := [.lit (.bool false)], args := [d1, d2] }
  | _ => none }
def FnEqualFoldASCIIMatchesXorModelWrongFalsely : Prop := fnEqualFoldASCIIMatchesXorModelRow.holds Try.pinned (OpenSpec.ofChange fnEqualFoldASCIIMatchesXorModelWrong)

/-- 'zzlaws_pkg_e164_b1.FnEqualFoldASCIIIsEquivalence': WHATEVER THE INPUT: true; the input reads as it did. -/
def fnEqualFoldASCIIIsEquivalenceSpec : ChangeSpec := { name := "fnEqualFoldASCIIIsEquivalence", fn := fun _ => fun
  | [d1, d2, d3] => { results := [.lit (.bool true)], args := [d1, d2, d3] }
  | _ => none }
def fnEqualFoldASCIIIsEquivalenceRow : OpenClaim := { program := "qxb6601846a", sum := "b2012dde3555101b6ae0dd45a5d4d49cfe873c196c2522ccedf1c00b1c6d3287", func := "example.com/peervane/peervane/zzlaws_pkg_e164_b1.FnEqualFoldASCIIIsEquivalence", spec := "fnEqualFoldASCIIIsEquivalence", apart := false }
def FnEqualFoldASCIIIsEquivalenceSaid : Prop := fnEqualFoldASCIIIsEquivalenceRow.holds Try.pinned (OpenSpec.ofChange fnEqualFoldASCIIIsEquivalenceSpec)

/-- ITS FALSE NEIGHBOUR: 'it returns false'. Refute it at one input. -/
def fnEqualFoldASCIIIsEquivalenceWrong : ChangeSpec := { name := "fnEqualFoldASCIIIsEquivalence", fn := fun _ => fun
  | [d1, d2, d3] => { results := [.lit (.bool false)], args := [d1, d2, d3] }
  | _ => none }
def FnEqualFoldASCIIIsEquivalenceWrongFalsely : Prop := fnEqualFoldASCIIIsEquivalenceRow.holds Try.pinned (OpenSpec.ofChange fnEqualFoldASCIIIsEquivalenceWrong)

end Rows
end Go.Proofs.Qxb6601846a
