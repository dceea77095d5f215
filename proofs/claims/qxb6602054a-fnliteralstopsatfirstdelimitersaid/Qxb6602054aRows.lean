/-
  No cell of these rows narrows 'for every input' (looked for: loops, veiled, ifaces, maps, wideKeys, modest, calm, conditions, laid).
  DERIVED. THE GIVEN ROWS OF THIS SEAT. 4 by the template 'for every input the law returns true; each argument reads behind the call as it read before'; 0 by the template 'total and deterministic' (their statements: Qxb6602054aTotals.lean).
  GIVEN WITH THE SEED: the statements are not yours to turn. If you find one false, say at which input.
  Laid BY PROGRAM, IN A SANDBOX (cutbox-rows.mjs): the forced cells as the released guide's own fill.sh prints them over the translation f584034ff86e9ea8… (all of the seat's roots in one cut). By AI agents, Wed Nov 11 2026. No macro, syntax, notation, axiom, sorry.
-/
import Derived.Test.Qxb6602054aChecked
import GoSem.Claim
import GoSem.ClaimJoined
import GoSem.ClaimMapViews
import Derived.JoinedTies
import Derived.KernelRfl
namespace Go.Proofs.Qxb6602054a
/- THE CELL 'sum', in the pinned program and in every row, IS THE sha256 OF THE DUMP (.gsa) THAT Qxb6602054aProg.lean LOADS. Nothing in Lean hashes anything: it is a label: what it is worth is what the hold of that sum in a sandbox is worth. -/
noncomputable def Try.pinned : Pinned := { name := "qxb6602054a", sum := "f584034ff86e9ea83ab2d0285ac8792cb67fd54ee6e47ee86b537e4bb44346d6", checked := Try.checked }
namespace Rows
def none {H : Type} : Left H := { results := [], args := [] }

/-- 'zzlaws_internal_jsontext_b1.FnStrAgreesWithForwardScan': WHATEVER THE INPUT: true; the input reads as it did. -/
def fnStrAgreesWithForwardScanSpec : ChangeSpec := { name := "fnStrAgreesWithForwardScan", fn := fun _ => fun
  | [d1, d2] => { results := [.lit (.bool true)], args := [d1, d2] }
  | _ => none }
def fnStrAgreesWithForwardScanRow : OpenClaim := { program := "qxb6602054a", sum := "f584034ff86e9ea83ab2d0285ac8792cb67fd54ee6e47ee86b537e4bb44346d6", func := "example.com/outboard/outboard/zzlaws_internal_jsontext_b1.FnStrAgreesWithForwardScan", spec := "fnStrAgreesWithForwardScan", inPlace := ["internal/bytealg.IndexByte"], apart := false }
def FnStrAgreesWithForwardScanSaid : Prop := fnStrAgreesWithForwardScanRow.holds Try.pinned (OpenSpec.ofChange fnStrAgreesWithForwardScanSpec)

/-- ITS FALSE NEIGHBOUR: 'it returns false'. Refute it at one input. -/
def fnStrAgreesWithForwardScanWrong : ChangeSpec := { name := "fnStrAgreesWithForwardScan", fn := fun _ => fun
  | [d1, d2] => { results := [.lit (.bool false)], args := [d1, d2] }
  | _ => none }
def FnStrAgreesWithForwardScanWrongFalsely : Prop := fnStrAgreesWithForwardScanRow.holds Try.pinned (OpenSpec.ofChange fnStrAgreesWithForwardScanWrong)

/-- 'zzlaws_internal_jsontext_b1.FnStrReadsOnlyItsOwnString': WHATEVER THE INPUT: true; the input reads as it did. -/
def fnStrReadsOnlyItsOwnStringSpec : ChangeSpec := { name := "fnStrReadsOnlyItsOwnString", fn := fun _ => fun
  | [d1, d2, d3, d4] => { results := [.lit (.bool true)], args := [d1, d2, d3, d4] }
  | _ => none }
def fnStrReadsOnlyItsOwnStringRow : OpenClaim := { program := "qxb6602054a", sum := "f584034ff86e9ea83ab2d0285ac8792cb67fd54ee6e47ee86b537e4bb44346d6", func := "example.com/outboard/outboard/zzlaws_internal_jsontext_b1.FnStrReadsOnlyItsOwnString", spec := "fnStrReadsOnlyItsOwnString", inPlace := ["internal/bytealg.IndexByte"], apart := false }
def FnStrReadsOnlyItsOwnStringSaid : Prop := fnStrReadsOnlyItsOwnStringRow.holds Try.pinned (OpenSpec.ofChange fnStrReadsOnlyItsOwnStringSpec)

/-- ITS FALSE NEIGHBOUR: 'it returns false'. Refute it at one input. -/
def fnStrReadsOnlyItsOwnStringWrong : ChangeSpec := { name := "fnStrReadsOnlyItsOwnString", fn := fun _ => fun
  | [d1, d2, d3, d4] => { results := [.lit (.bool false)], args := [d1, d2, d3, d4] }
  | _ => none }
def FnStrReadsOnlyItsOwnStringWrongFalsely : Prop := fnStrReadsOnlyItsOwnStringRow.holds Try.pinned (OpenSpec.ofChange fnStrReadsOnlyItsOwnStringWrong)

/-- 'zzlaws_internal_jsontext_b1.FnLiteralStopsAtFirstDelimiter': WHATEVER THE INPUT: true; the input reads as it did. -/
def fnLiteralStopsAtFirstDelimiterSpec : ChangeSpec := { name := "fnLiteralStopsAtFirstDelimiter", fn := fun _ => fun
  | [d1, d2] => { results := [.lit (.bool true)], args := [d1, d2] }
  | _ => none }
def fnLiteralStopsAtFirstDelimiterRow : OpenClaim := { program := "qxb6602054a", sum := "f584034ff86e9ea83ab2d0285ac8792cb67fd54ee6e47ee86b537e4bb44346d6", func := "example.com/outboard/outboard/zzlaws_internal_jsontext_b1.FnLiteralStopsAtFirstDelimiter", spec := "fnLiteralStopsAtFirstDelimiter", apart := false }
def FnLiteralStopsAtFirstDelimiterSaid : Prop := fnLiteralStopsAtFirstDelimiterRow.holds Try.pinned (OpenSpec.ofChange fnLiteralStopsAtFirstDelimiterSpec)

/-- ITS FALSE NEIGHBOUR: 'it returns false'. Refute it at one input. -/
def fnLiteralStopsAtFirstDelimiterWrong : ChangeSpec := { name := "fnLiteralStopsAtFirstDelimiter", fn := fun _ => fun
  | [d1, d2] => { results := [.lit (.bool false)], args := [d1, d2] }
  | _ => none }
def FnLiteralStopsAtFirstDelimiterWrongFalsely : Prop := fnLiteralStopsAtFirstDelimiterRow.holds Try.pinned (OpenSpec.ofChange fnLiteralStopsAtFirstDelimiterWrong)

/-- 'zzlaws_internal_jsontext_b1.FnLiteralRereadsWholeAndStopsStill': WHATEVER THE INPUT: true; the input reads as it did. -/
def fnLiteralRereadsWholeAndStopsStillSpec : ChangeSpec := { name := "fnLiteralRereadsWholeAndStopsStill", fn := fun _ => fun
  | [d1, d2] => { results := [.lit (.bool true)], args := [d1, d2] }
  | _ => none }
def fnLiteralRereadsWholeAndStopsStillRow : OpenClaim := { program := "qxb6602054a", sum := "f584034ff86e9ea83ab2d0285ac8792cb67fd54ee6e47ee86b537e4bb44346d6", func := "example.com/outboard/outboard/zzlaws_internal_jsontext_b1.FnLiteralRereadsWholeAndStopsStill", spec := "fnLiteralRereadsWholeAndStopsStill", apart := false }
def FnLiteralRereadsWholeAndStopsStillSaid : Prop := fnLiteralRereadsWholeAndStopsStillRow.holds Try.pinned (OpenSpec.ofChange fnLiteralRereadsWholeAndStopsStillSpec)

/-- ITS FALSE NEIGHBOUR: 'it returns false'. Refute it at one input. -/
def fnLiteralRereadsWholeAndStopsStillWrong : ChangeSpec := { name := "fnLiteralRereadsWholeAndStopsStill", fn := fun _ => fun
  | [d1, d2] => { results := [.lit (.bool false)], args := [d1, d2] }
  | _ => none }
def FnLiteralRereadsWholeAndStopsStillWrongFalsely : Prop := fnLiteralRereadsWholeAndStopsStillRow.holds Try.pinned (OpenSpec.ofChange fnLiteralRereadsWholeAndStopsStillWrong)

end Rows
end Go.Proofs.Qxb6602054a
