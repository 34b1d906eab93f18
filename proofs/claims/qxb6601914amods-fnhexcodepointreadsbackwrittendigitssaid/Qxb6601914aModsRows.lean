/-
  No cell of these rows narrows 'for every input' (looked for: loops, veiled, ifaces, maps, wideKeys, modest, calm, conditions, laid).
  DERIVED. THE GIVEN ROWS OF THIS SEAT. 7 by the template 'for every input the law returns true; each argument reads behind the call as it read before'; 0 by the template 'total and deterministic' (their statements: Qxb6601914aModsTotals.lean).
  GIVEN WITH THE SEED: the statements are not yours to turn. If you find one false, say at which input.
  Laid BY PROGRAM, IN A SANDBOX (cutbox-rows.mjs): the forced cells as the released guide's own fill.sh prints them over the translation 0c60f826ccb4e512… (all of the seat's roots in one cut). By AI agents, Wed Nov 11 2026. No macro, syntax, notation, axiom, sorry.
-/
import Derived.Test.Qxb6601914aModsChecked
import GoSem.Claim
import GoSem.ClaimJoined
import GoSem.ClaimMapViews
import Derived.JoinedTies
import Derived.KernelRfl
namespace Go.Proofs.Qxb6601914aMods
/- THE CELL 'sum', in the pinned program and in every row, IS THE sha256 OF THE DUMP (.gsa) THAT Qxb6601914aModsProg.lean LOADS. Nothing in Lean hashes anything: it is a label: what it is worth is what the hold of that sum in a sandbox is worth. -/
noncomputable def Trym.pinned : Pinned := { name := "qxb6601914amods", sum := "0c60f826ccb4e512bf739c7e81fe4bac12264734dcf86f273b4408ddb64af1fc", checked := Trym.checked }
namespace Rows
def none {H : Type} : Left H := { results := [], args := [] }

/-- 'zzlaws_driver_b1.FnHexCodePointMatchesPositionalSum': WHATEVER THE INPUT: true; the input reads as it did. -/
def fnHexCodePointMatchesPositionalSumSpec : ChangeSpec := { name := "fnHexCodePointMatchesPositionalSum", fn := fun _ => fun
  | [d1, d2] => { results := [.lit (.bool true)], args := [d1, d2] }
  | _ => none }
def fnHexCodePointMatchesPositionalSumRow : OpenClaim := { program := "qxb6601914amods", sum := "0c60f826ccb4e512bf739c7e81fe4bac12264734dcf86f273b4408ddb64af1fc", func := "example.com/hawser/hawser/zzlaws_driver_b1.FnHexCodePointMatchesPositionalSum", spec := "fnHexCodePointMatchesPositionalSum", make := .lifted ["publicsums"], apart := false }
def FnHexCodePointMatchesPositionalSumSaid : Prop := fnHexCodePointMatchesPositionalSumRow.holds Trym.pinned (OpenSpec.ofChange fnHexCodePointMatchesPositionalSumSpec)

/-- ITS FALSE NEIGHBOUR: 'it returns false'. Refute it at one input. -/
def fnHexCodePointMatchesPositionalSumWrong : ChangeSpec := { name := "fnHexCodePointMatchesPositionalSum", fn := fun _ => fun
  | [d1, d2] => { results := [.lit (.bool false)], args := [d1, d2] }
  | _ => none }
def FnHexCodePointMatchesPositionalSumWrongFalsely : Prop := fnHexCodePointMatchesPositionalSumRow.holds Trym.pinned (OpenSpec.ofChange fnHexCodePointMatchesPositionalSumWrong)

/-- 'zzlaws_driver_b1.FnHexCodePointReadsBackWrittenDigits': WHATEVER THE INPUT: true; the input reads as it did. -/
def fnHexCodePointReadsBackWrittenDigitsSpec : ChangeSpec := { name := "fnHexCodePointReadsBackWrittenDigits", fn := fun _ => fun
  | [d1, d2, d3, d4] => { results := [.lit (.bool true)], args := [d1, d2, d3, d4] }
  | _ => none }
def fnHexCodePointReadsBackWrittenDigitsRow : OpenClaim := { program := "qxb6601914amods", sum := "0c60f826ccb4e512bf739c7e81fe4bac12264734dcf86f273b4408ddb64af1fc", func := "example.com/hawser/hawser/zzlaws_driver_b1.FnHexCodePointReadsBackWrittenDigits", spec := "fnHexCodePointReadsBackWrittenDigits", make := .lifted ["publicsums"], apart := false }
def FnHexCodePointReadsBackWrittenDigitsSaid : Prop := fnHexCodePointReadsBackWrittenDigitsRow.holds Trym.pinned (OpenSpec.ofChange fnHexCodePointReadsBackWrittenDigitsSpec)

/-- ITS FALSE NEIGHBOUR: 'it returns false'. Refute it at one input. -/
def fnHexCodePointReadsBackWrittenDigitsWrong : ChangeSpec := { name := "fnHexCodePointReadsBackWrittenDigits", fn := fun _ => fun
  | [d1, d2, d3, d4] => { results := [.lit (.bool false)], args := [d1, d2, d3, d4] }
  | _ => none }
def FnHexCodePointReadsBackWrittenDigitsWrongFalsely : Prop := fnHexCodePointReadsBackWrittenDigitsRow.holds Trym.pinned (OpenSpec.ofChange fnHexCodePointReadsBackWrittenDigitsWrong)

/-- 'zzlaws_driver_b1.FnHideBeforeMatchesByteAutomaton': WHATEVER THE INPUT: true; the input reads as it did. -/
def fnHideBeforeMatchesByteAutomatonSpec : ChangeSpec := { name := "fnHideBeforeMatchesByteAutomaton", fn := fun _ => fun
  | [d1, d2, d3, d4, d5, d6, d7] => { results := [.lit (.bool true)], args := [d1, d2, d3, d4, d5, d6, d7] }
  | _ => none }
def fnHideBeforeMatchesByteAutomatonRow : OpenClaim := { program := "qxb6601914amods", sum := "0c60f826ccb4e512bf739c7e81fe4bac12264734dcf86f273b4408ddb64af1fc", func := "example.com/hawser/hawser/zzlaws_driver_b1.FnHideBeforeMatchesByteAutomaton", spec := "fnHideBeforeMatchesByteAutomaton", inPlace := ["internal/abi.NoEscape", "internal/bytealg.IndexByte", "internal/bytealg.MakeNoZero"], make := .lifted ["publicsums"], apart := false }
def FnHideBeforeMatchesByteAutomatonSaid : Prop := fnHideBeforeMatchesByteAutomatonRow.holds Trym.pinned (OpenSpec.ofChange fnHideBeforeMatchesByteAutomatonSpec)

/-- ITS FALSE NEIGHBOUR: 'it returns false'. Refute it at one input. -/
def fnHideBeforeMatchesByteAutomatonWrong : ChangeSpec := { name := "fnHideBeforeMatchesByteAutomaton", fn := fun _ => fun
  | [d1, d2, d3, d4, d5, d6, d7] => { results := [.lit (.bool false)], args := [d1, d2, d3, d4, d5, d6, d7] }
  | _ => none }
def FnHideBeforeMatchesByteAutomatonWrongFalsely : Prop := fnHideBeforeMatchesByteAutomatonRow.holds Trym.pinned (OpenSpec.ofChange fnHideBeforeMatchesByteAutomatonWrong)

/-- 'zzlaws_driver_b1.FnHideBeforeInStepsEqualsAtOnce': WHATEVER THE INPUT: true; the input reads as it did. -/
def fnHideBeforeInStepsEqualsAtOnceSpec : ChangeSpec := { name := "fnHideBeforeInStepsEqualsAtOnce", fn := fun _ => fun
  | [d1, d2, d3, d4, d5, d6, d7, d8] => { results := [.lit (.bool true)], args := [d1, d2, d3, d4, d5, d6, d7, d8] }
  | _ => none }
def fnHideBeforeInStepsEqualsAtOnceRow : OpenClaim := { program := "qxb6601914amods", sum := "0c60f826ccb4e512bf739c7e81fe4bac12264734dcf86f273b4408ddb64af1fc", func := "example.com/hawser/hawser/zzlaws_driver_b1.FnHideBeforeInStepsEqualsAtOnce", spec := "fnHideBeforeInStepsEqualsAtOnce", inPlace := ["internal/abi.NoEscape", "internal/bytealg.IndexByte", "internal/bytealg.MakeNoZero"], make := .lifted ["publicsums"], apart := false }
def FnHideBeforeInStepsEqualsAtOnceSaid : Prop := fnHideBeforeInStepsEqualsAtOnceRow.holds Trym.pinned (OpenSpec.ofChange fnHideBeforeInStepsEqualsAtOnceSpec)

/-- ITS FALSE NEIGHBOUR: 'it returns false'. Refute it at one input. -/
def fnHideBeforeInStepsEqualsAtOnceWrong : ChangeSpec := { name := "fnHideBeforeInStepsEqualsAtOnce", fn := fun _ => fun
  | [d1, d2, d3, d4, d5, d6, d7, d8] => { results := [.lit (.bool false)], args := [d1, d2, d3, d4, d5, d6, d7, d8] }
  | _ => none }
def FnHideBeforeInStepsEqualsAtOnceWrongFalsely : Prop := fnHideBeforeInStepsEqualsAtOnceRow.holds Trym.pinned (OpenSpec.ofChange fnHideBeforeInStepsEqualsAtOnceWrong)

/-- 'zzlaws_driver_b1.FnHideBeforeWholeMessageRedactsRuns': WHATEVER THE INPUT: true; the input reads as it did. -/
def fnHideBeforeWholeMessageRedactsRunsSpec : ChangeSpec := { name := "fnHideBeforeWholeMessageRedactsRuns", fn := fun _ => fun
  | [d1, d2] => { results := [.lit (.bool true)], args := [d1, d2] }
  | _ => none }
def fnHideBeforeWholeMessageRedactsRunsRow : OpenClaim := { program := "qxb6601914amods", sum := "0c60f826ccb4e512bf739c7e81fe4bac12264734dcf86f273b4408ddb64af1fc", func := "example.com/hawser/hawser/zzlaws_driver_b1.FnHideBeforeWholeMessageRedactsRuns", spec := "fnHideBeforeWholeMessageRedactsRuns", inPlace := ["internal/abi.NoEscape", "internal/bytealg.IndexByte", "internal/bytealg.MakeNoZero"], make := .lifted ["publicsums"], apart := false }
def FnHideBeforeWholeMessageRedactsRunsSaid : Prop := fnHideBeforeWholeMessageRedactsRunsRow.holds Trym.pinned (OpenSpec.ofChange fnHideBeforeWholeMessageRedactsRunsSpec)

/-- ITS FALSE NEIGHBOUR: 'it returns false'. Refute it at one input. -/
def fnHideBeforeWholeMessageRedactsRunsWrong : ChangeSpec := { name := "fnHideBeforeWholeMessageRedactsRuns", fn := fun _ => fun
  | [d1, d2] => { results := [.lit (.bool false)], args := [d1, d2] }
  | _ => none }
def FnHideBeforeWholeMessageRedactsRunsWrongFalsely : Prop := fnHideBeforeWholeMessageRedactsRunsRow.holds Trym.pinned (OpenSpec.ofChange fnHideBeforeWholeMessageRedactsRunsWrong)

/-- 'zzlaws_driver_b1.FnBranchMatchesCaseTable': WHATEVER THE INPUT: true; the input reads as it did. -/
def fnBranchMatchesCaseTableSpec : ChangeSpec := { name := "fnBranchMatchesCaseTable", fn := fun _ => fun
  | [d1, d2, d3, d4, d5] => { results := [.lit (.bool true)], args := [d1, d2, d3, d4, d5] }
  | _ => none }
def fnBranchMatchesCaseTableRow : OpenClaim := { program := "qxb6601914amods", sum := "0c60f826ccb4e512bf739c7e81fe4bac12264734dcf86f273b4408ddb64af1fc", func := "example.com/hawser/hawser/zzlaws_driver_b1.FnBranchMatchesCaseTable", spec := "fnBranchMatchesCaseTable", inPlace := ["internal/bytealg.IndexByte", "internal/bytealg.Index"], named := ["internal/bytealg.MaxLen"], make := .lifted ["publicsums"], apart := false }
def FnBranchMatchesCaseTableSaid : Prop := fnBranchMatchesCaseTableRow.holds Trym.pinned (OpenSpec.ofChange fnBranchMatchesCaseTableSpec)

/-- ITS FALSE NEIGHBOUR: 'it returns false'. Refute it at one input. -/
def fnBranchMatchesCaseTableWrong : ChangeSpec := { name := "fnBranchMatchesCaseTable", fn := fun _ => fun
  | [d1, d2, d3, d4, d5] => { results := [.lit (.bool false)], args := [d1, d2, d3, d4, d5] }
  | _ => none }
def FnBranchMatchesCaseTableWrongFalsely : Prop := fnBranchMatchesCaseTableRow.holds Trym.pinned (OpenSpec.ofChange fnBranchMatchesCaseTableWrong)

/-- 'zzlaws_driver_b1.FnBranchTwiceAddsNothing': WHATEVER THE INPUT: true; the input reads as it did. -/
def fnBranchTwiceAddsNothingSpec : ChangeSpec := { name := "fnBranchTwiceAddsNothing", fn := fun _ => fun
  | [d1, d2, d3, d4, d5] => { results := [.lit (.bool true)], args := [d1, d2, d3, d4, d5] }
  | _ => none }
def fnBranchTwiceAddsNothingRow : OpenClaim := { program := "qxb6601914amods", sum := "0c60f826ccb4e512bf739c7e81fe4bac12264734dcf86f273b4408ddb64af1fc", func := "example.com/hawser/hawser/zzlaws_driver_b1.FnBranchTwiceAddsNothing", spec := "fnBranchTwiceAddsNothing", inPlace := ["internal/bytealg.IndexByte", "internal/bytealg.Index"], named := ["internal/bytealg.MaxLen"], make := .lifted ["publicsums"], apart := false }
def FnBranchTwiceAddsNothingSaid : Prop := fnBranchTwiceAddsNothingRow.holds Trym.pinned (OpenSpec.ofChange fnBranchTwiceAddsNothingSpec)

/-- ITS FALSE NEIGHBOUR: 'it returns false'. Refute it at one input. -/
def fnBranchTwiceAddsNothingWrong : ChangeSpec := { name := "fnBranchTwiceAddsNothing", fn := fun _ => fun
  | [d1, d2, d3, d4, d5] => { results := [.lit (.bool false)], args := [d1, d2, d3, d4, d5] }
  | _ => none }
def FnBranchTwiceAddsNothingWrongFalsely : Prop := fnBranchTwiceAddsNothingRow.holds Trym.pinned (OpenSpec.ofChange fnBranchTwiceAddsNothingWrong)

end Rows
end Go.Proofs.Qxb6601914aMods
