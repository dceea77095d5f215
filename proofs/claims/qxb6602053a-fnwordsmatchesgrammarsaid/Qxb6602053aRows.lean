/-
  No cell of these rows narrows 'for every input' (looked for: loops, veiled, ifaces, maps, wideKeys, modest, calm, conditions, laid).
  DERIVED. THE GIVEN ROWS OF THIS SEAT. 5 by the template 'for every input the law returns true; each argument reads behind the call as it read before'; 0 by the template 'total and deterministic' (their statements: Qxb6602053aTotals.lean).
  GIVEN WITH THE SEED: the statements are not yours to turn. If you find one false, say at which input.
  Laid BY PROGRAM, IN A SANDBOX (cutbox-rows.mjs): the forced cells as the released guide's own fill.sh prints them over the translation a2f99a5019cf597a… (all of the seat's roots in one cut). By AI agents, Wed Nov 11 2026. No macro, syntax, notation, axiom, sorry.
-/
import Derived.Test.Qxb6602053aChecked
import GoSem.Claim
import GoSem.ClaimJoined
import GoSem.ClaimMapViews
import Derived.JoinedTies
import Derived.KernelRfl
namespace Go.Proofs.Qxb6602053a
/- THE CELL 'sum', in the pinned program and in every row, IS THE sha256 OF THE DUMP (.gsa) THAT Qxb6602053aProg.lean LOADS. Nothing in Lean hashes anything: it is a label: what it is worth is what the hold of that sum in a sandbox is worth. -/
noncomputable def Try.pinned : Pinned := { name := "qxb6602053a", sum := "a2f99a5019cf597ac6053a57f4e34f37d55040f6a2c53fe3ec5fe76c3d31f97b", checked := Try.checked }
namespace Rows
def none {H : Type} : Left H := { results := [], args := [] }

/-- 'zzlaws_pkg_dockerfile_b1.FnWordsMatchesGrammar': WHATEVER THE INPUT: true; the input reads as it did. -/
def fnWordsMatchesGrammarSpec : ChangeSpec := { name := "fnWordsMatchesGrammar", fn := fun _ => fun
  | [d1, d2] => { results := [.lit (.bool true)], args := [d1, d2] }
  | _ => none }
def fnWordsMatchesGrammarRow : OpenClaim := { program := "qxb6602053a", sum := "a2f99a5019cf597ac6053a57f4e34f37d55040f6a2c53fe3ec5fe76c3d31f97b", func := "example.com/strata/strata/zzlaws_pkg_dockerfile_b1.FnWordsMatchesGrammar", spec := "fnWordsMatchesGrammar", apart := false }
def FnWordsMatchesGrammarSaid : Prop := fnWordsMatchesGrammarRow.holds Try.pinned (OpenSpec.ofChange fnWordsMatchesGrammarSpec)

/-- ITS FALSE NEIGHBOUR: 'it returns false'. Refute it at one input. -/
def fnWordsMatchesGrammarWrong : ChangeSpec := { name := "fnWordsMatchesGrammar", fn := fun _ => fun
  | [d1, d2] => { results := [.lit (.bool false)], args := [d1, d2] }
  | _ => none }
def FnWordsMatchesGrammarWrongFalsely : Prop := fnWordsMatchesGrammarRow.holds Try.pinned (OpenSpec.ofChange fnWordsMatchesGrammarWrong)

/-- 'zzlaws_pkg_dockerfile_b1.FnWordsResplitFixed': WHATEVER THE INPUT: true; the input reads as it did. -/
def fnWordsResplitFixedSpec : ChangeSpec := { name := "fnWordsResplitFixed", fn := fun _ => fun
  | [d1, d2] => { results := [.lit (.bool true)], args := [d1, d2] }
  | _ => none }
def fnWordsResplitFixedRow : OpenClaim := { program := "qxb6602053a", sum := "a2f99a5019cf597ac6053a57f4e34f37d55040f6a2c53fe3ec5fe76c3d31f97b", func := "example.com/strata/strata/zzlaws_pkg_dockerfile_b1.FnWordsResplitFixed", spec := "fnWordsResplitFixed", apart := false }
def FnWordsResplitFixedSaid : Prop := fnWordsResplitFixedRow.holds Try.pinned (OpenSpec.ofChange fnWordsResplitFixedSpec)

/-- ITS FALSE NEIGHBOUR: 'it returns false'. Refute it at one input. -/
def fnWordsResplitFixedWrong : ChangeSpec := { name := "fnWordsResplitFixed", fn := fun _ => fun
  | [d1, d2] => { results := [.lit (.bool false)], args := [d1, d2] }
  | _ => none }
def FnWordsResplitFixedWrongFalsely : Prop := fnWordsResplitFixedRow.holds Try.pinned (OpenSpec.ofChange fnWordsResplitFixedWrong)

/-- 'zzlaws_pkg_dockerfile_b1.FnNameLenLongestNamePrefix': WHATEVER THE INPUT: true; the input reads as it did. -/
def fnNameLenLongestNamePrefixSpec : ChangeSpec := { name := "fnNameLenLongestNamePrefix", fn := fun _ => fun
  | [d] => { results := [.lit (.bool true)], args := [d] }
  | _ => none }
def fnNameLenLongestNamePrefixRow : OpenClaim := { program := "qxb6602053a", sum := "a2f99a5019cf597ac6053a57f4e34f37d55040f6a2c53fe3ec5fe76c3d31f97b", func := "example.com/strata/strata/zzlaws_pkg_dockerfile_b1.FnNameLenLongestNamePrefix", spec := "fnNameLenLongestNamePrefix", apart := false }
def FnNameLenLongestNamePrefixSaid : Prop := fnNameLenLongestNamePrefixRow.holds Try.pinned (OpenSpec.ofChange fnNameLenLongestNamePrefixSpec)

/-- ITS FALSE NEIGHBOUR: 'it returns false'. Refute it at one input. -/
def fnNameLenLongestNamePrefixWrong : ChangeSpec := { name := "fnNameLenLongestNamePrefix", fn := fun _ => fun
  | [d] => { results := [.lit (.bool false)], args := [d] }
  | _ => none }
def FnNameLenLongestNamePrefixWrongFalsely : Prop := fnNameLenLongestNamePrefixRow.holds Try.pinned (OpenSpec.ofChange fnNameLenLongestNamePrefixWrong)

/-- 'zzlaws_pkg_dockerfile_b1.FnNameLenPrefixes': WHATEVER THE INPUT: true; the input reads as it did. -/
def fnNameLenPrefixesSpec : ChangeSpec := { name := "fnNameLenPrefixes", fn := fun _ => fun
  | [d1, d2] => { results := [.lit (.bool true)], args := [d1, d2] }
  | _ => none }
def fnNameLenPrefixesRow : OpenClaim := { program := "qxb6602053a", sum := "a2f99a5019cf597ac6053a57f4e34f37d55040f6a2c53fe3ec5fe76c3d31f97b", func := "example.com/strata/strata/zzlaws_pkg_dockerfile_b1.FnNameLenPrefixes", spec := "fnNameLenPrefixes", apart := false }
def FnNameLenPrefixesSaid : Prop := fnNameLenPrefixesRow.holds Try.pinned (OpenSpec.ofChange fnNameLenPrefixesSpec)

/-- ITS FALSE NEIGHBOUR: 'it returns false'. Refute it at one input. -/
def fnNameLenPrefixesWrong : ChangeSpec := { name := "fnNameLenPrefixes", fn := fun _ => fun
  | [d1, d2] => { results := [.lit (.bool false)], args := [d1, d2] }
  | _ => none }
def FnNameLenPrefixesWrongFalsely : Prop := fnNameLenPrefixesRow.holds Try.pinned (OpenSpec.ofChange fnNameLenPrefixesWrong)

/-- 'zzlaws_pkg_dockerfile_b1.FnNameLenConcat': WHATEVER THE INPUT: true; the input reads as it did. -/
def fnNameLenConcatSpec : ChangeSpec := { name := "fnNameLenConcat", fn := fun _ => fun
  | [d1, d2] => { results := [.lit (.bool true)], args := [d1, d2] }
  | _ => none }
def fnNameLenConcatRow : OpenClaim := { program := "qxb6602053a", sum := "a2f99a5019cf597ac6053a57f4e34f37d55040f6a2c53fe3ec5fe76c3d31f97b", func := "example.com/strata/strata/zzlaws_pkg_dockerfile_b1.FnNameLenConcat", spec := "fnNameLenConcat", apart := false }
def FnNameLenConcatSaid : Prop := fnNameLenConcatRow.holds Try.pinned (OpenSpec.ofChange fnNameLenConcatSpec)

/-- ITS FALSE NEIGHBOUR: 'it returns false'. Refute it at one input. -/
def fnNameLenConcatWrong : ChangeSpec := { name := "fnNameLenConcat", fn := fun _ => fun
  | [d1, d2] => { results := [.lit (.bool false)], args := [d1, d2] }
  | _ => none }
def FnNameLenConcatWrongFalsely : Prop := fnNameLenConcatRow.holds Try.pinned (OpenSpec.ofChange fnNameLenConcatWrong)

end Rows
end Go.Proofs.Qxb6602053a
