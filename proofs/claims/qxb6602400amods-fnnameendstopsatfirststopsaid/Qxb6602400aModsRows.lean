/-
  No cell of these rows narrows 'for every input' (looked for: loops, veiled, ifaces, maps, wideKeys, modest, calm, conditions, laid).
  DERIVED. THE GIVEN ROWS OF THIS SEAT. 7 by the template 'for every input the law returns true; each argument reads behind the call as it read before'; 0 by the template 'total and deterministic' (their statements: Qxb6602400aModsTotals.lean).
  GIVEN WITH THE SEED: the statements are not yours to turn. If you find one false, say at which input.
  Laid BY PROGRAM, IN A SANDBOX (cutbox-rows.mjs): the forced cells as the released guide's own fill.sh prints them over the translation a4542b47ee575982… (all of the seat's roots in one cut). By AI agents, Wed Nov 11 2026. No macro, syntax, notation, axiom, sorry.
-/
import Derived.Test.Qxb6602400aModsChecked
import GoSem.Claim
import GoSem.ClaimJoined
import GoSem.ClaimMapViews
import Derived.JoinedTies
import Derived.KernelRfl
namespace Go.Proofs.Qxb6602400aMods
/- THE CELL 'sum', in the pinned program and in every row, IS THE sha256 OF THE DUMP (.gsa) THAT Qxb6602400aModsProg.lean LOADS. Nothing in Lean hashes anything: it is a label: what it is worth is what the hold of that sum in a sandbox is worth. -/
noncomputable def Trym.pinned : Pinned := { name := "qxb6602400amods", sum := "a4542b47ee5759829f42d74018c32416f2909783ee072d0cc7bb14c6498920a3", checked := Trym.checked }
namespace Rows
def none {H : Type} : Left H := { results := [], args := [] }

/-- 'zzlaws_cloud_b1.FnNameEndStopsAtFirstStop': WHATEVER THE INPUT: true; the input reads as it did. -/
def fnNameEndStopsAtFirstStopSpec : ChangeSpec := { name := "fnNameEndStopsAtFirstStop", fn := fun _ => fun
  | [d] => { results := [.lit (.bool true)], args := [d] }
  | _ => none }
def fnNameEndStopsAtFirstStopRow : OpenClaim := { program := "qxb6602400amods", sum := "a4542b47ee5759829f42d74018c32416f2909783ee072d0cc7bb14c6498920a3", func := "example.com/offclock/offclock/zzlaws_cloud_b1.FnNameEndStopsAtFirstStop", spec := "fnNameEndStopsAtFirstStop", make := .lifted ["publicsums"], apart := false }
def FnNameEndStopsAtFirstStopSaid : Prop := fnNameEndStopsAtFirstStopRow.holds Trym.pinned (OpenSpec.ofChange fnNameEndStopsAtFirstStopSpec)

/-- ITS FALSE NEIGHBOUR: 'it returns false'. Refute it at one input. -/
def fnNameEndStopsAtFirstStopWrong : ChangeSpec := { name := "fnNameEndStopsAtFirstStop", fn := fun _ => fun
  | [d] => { results := [.lit (.bool false)], args := [d] }
  | _ => none }
def FnNameEndStopsAtFirstStopWrongFalsely : Prop := fnNameEndStopsAtFirstStopRow.holds Trym.pinned (OpenSpec.ofChange fnNameEndStopsAtFirstStopWrong)

/-- 'zzlaws_cloud_b1.FnNameEndOfPrefix': WHATEVER THE INPUT: true; the input reads as it did. -/
def fnNameEndOfPrefixSpec : ChangeSpec := { name := "fnNameEndOfPrefix", fn := fun _ => fun
  | [d1, d2] => { results := [.lit (.bool true)], args := [d1, d2] }
  | _ => none }
def fnNameEndOfPrefixRow : OpenClaim := { program := "qxb6602400amods", sum := "a4542b47ee5759829f42d74018c32416f2909783ee072d0cc7bb14c6498920a3", func := "example.com/offclock/offclock/zzlaws_cloud_b1.FnNameEndOfPrefix", spec := "fnNameEndOfPrefix", make := .lifted ["publicsums"], apart := false }
def FnNameEndOfPrefixSaid : Prop := fnNameEndOfPrefixRow.holds Trym.pinned (OpenSpec.ofChange fnNameEndOfPrefixSpec)

/-- ITS FALSE NEIGHBOUR: 'it returns false'. Refute it at one input. -/
def fnNameEndOfPrefixWrong : ChangeSpec := { name := "fnNameEndOfPrefix", fn := fun _ => fun
  | [d1, d2] => { results := [.lit (.bool false)], args := [d1, d2] }
  | _ => none }
def FnNameEndOfPrefixWrongFalsely : Prop := fnNameEndOfPrefixRow.holds Trym.pinned (OpenSpec.ofChange fnNameEndOfPrefixWrong)

/-- 'zzlaws_cloud_b1.FnQuotedEndMatchesSkippingModel': WHATEVER THE INPUT: true; the input reads as it did. -/
def fnQuotedEndMatchesSkippingModelSpec : ChangeSpec := { name := "fnQuotedEndMatchesSkippingModel", fn := fun _ => fun
  | [d] => { results := [.lit (.bool true)], args := [d] }
  | _ => none }
def fnQuotedEndMatchesSkippingModelRow : OpenClaim := { program := "qxb6602400amods", sum := "a4542b47ee5759829f42d74018c32416f2909783ee072d0cc7bb14c6498920a3", func := "example.com/offclock/offclock/zzlaws_cloud_b1.FnQuotedEndMatchesSkippingModel", spec := "fnQuotedEndMatchesSkippingModel", make := .lifted ["publicsums"], apart := false }
def FnQuotedEndMatchesSkippingModelSaid : Prop := fnQuotedEndMatchesSkippingModelRow.holds Trym.pinned (OpenSpec.ofChange fnQuotedEndMatchesSkippingModelSpec)

/-- ITS FALSE NEIGHBOUR: 'it returns false'. Refute it at one input. -/
def fnQuotedEndMatchesSkippingModelWrong : ChangeSpec := { name := "fnQuotedEndMatchesSkippingModel", fn := fun _ => fun
  | [d] => { results := [.lit (.bool false)], args := [d] }
  | _ => none }
def FnQuotedEndMatchesSkippingModelWrongFalsely : Prop := fnQuotedEndMatchesSkippingModelRow.holds Trym.pinned (OpenSpec.ofChange fnQuotedEndMatchesSkippingModelWrong)

/-- 'zzlaws_cloud_b1.FnQuotedEndOfPrefix': WHATEVER THE INPUT: true; the input reads as it did. -/
def fnQuotedEndOfPrefixSpec : ChangeSpec := { name := "fnQuotedEndOfPrefix", fn := fun _ => fun
  | [d1, d2] => { results := [.lit (.bool true)], args := [d1, d2] }
  | _ => none }
def fnQuotedEndOfPrefixRow : OpenClaim := { program := "qxb6602400amods", sum := "a4542b47ee5759829f42d74018c32416f2909783ee072d0cc7bb14c6498920a3", func := "example.com/offclock/offclock/zzlaws_cloud_b1.FnQuotedEndOfPrefix", spec := "fnQuotedEndOfPrefix", make := .lifted ["publicsums"], apart := false }
def FnQuotedEndOfPrefixSaid : Prop := fnQuotedEndOfPrefixRow.holds Trym.pinned (OpenSpec.ofChange fnQuotedEndOfPrefixSpec)

/-- ITS FALSE NEIGHBOUR: 'it returns false'. Refute it at one input. -/
def fnQuotedEndOfPrefixWrong : ChangeSpec := { name := "fnQuotedEndOfPrefix", fn := fun _ => fun
  | [d1, d2] => { results := [.lit (.bool false)], args := [d1, d2] }
  | _ => none }
def FnQuotedEndOfPrefixWrongFalsely : Prop := fnQuotedEndOfPrefixRow.holds Trym.pinned (OpenSpec.ofChange fnQuotedEndOfPrefixWrong)

/-- 'zzlaws_cloud_b1.FnQuotedEndQuoteSwapInvariant': WHATEVER THE INPUT: true; the input reads as it did. -/
def fnQuotedEndQuoteSwapInvariantSpec : ChangeSpec := { name := "fnQuotedEndQuoteSwapInvariant", fn := fun _ => fun
  | [d] => { results := [.lit (.bool true)], args := [d] }
  | _ => none }
def fnQuotedEndQuoteSwapInvariantRow : OpenClaim := { program := "qxb6602400amods", sum := "a4542b47ee5759829f42d74018c32416f2909783ee072d0cc7bb14c6498920a3", func := "example.com/offclock/offclock/zzlaws_cloud_b1.FnQuotedEndQuoteSwapInvariant", spec := "fnQuotedEndQuoteSwapInvariant", make := .lifted ["publicsums"], apart := false }
def FnQuotedEndQuoteSwapInvariantSaid : Prop := fnQuotedEndQuoteSwapInvariantRow.holds Trym.pinned (OpenSpec.ofChange fnQuotedEndQuoteSwapInvariantSpec)

/-- ITS FALSE NEIGHBOUR: 'it returns false'. Refute it at one input. -/
def fnQuotedEndQuoteSwapInvariantWrong : ChangeSpec := { name := "fnQuotedEndQuoteSwapInvariant", fn := fun _ => fun
  | [d] => { results := [.lit (.bool false)], args := [d] }
  | _ => none }
def FnQuotedEndQuoteSwapInvariantWrongFalsely : Prop := fnQuotedEndQuoteSwapInvariantRow.holds Trym.pinned (OpenSpec.ofChange fnQuotedEndQuoteSwapInvariantWrong)

/-- 'zzlaws_cloud_b1.FnLocalPartSplitsAtFirstColon': WHATEVER THE INPUT: true; the input reads as it did. -/
def fnLocalPartSplitsAtFirstColonSpec : ChangeSpec := { name := "fnLocalPartSplitsAtFirstColon", fn := fun _ => fun
  | [d] => { results := [.lit (.bool true)], args := [d] }
  | _ => none }
def fnLocalPartSplitsAtFirstColonRow : OpenClaim := { program := "qxb6602400amods", sum := "a4542b47ee5759829f42d74018c32416f2909783ee072d0cc7bb14c6498920a3", func := "example.com/offclock/offclock/zzlaws_cloud_b1.FnLocalPartSplitsAtFirstColon", spec := "fnLocalPartSplitsAtFirstColon", inPlace := ["internal/bytealg.IndexByte"], make := .lifted ["publicsums"], apart := false }
def FnLocalPartSplitsAtFirstColonSaid : Prop := fnLocalPartSplitsAtFirstColonRow.holds Trym.pinned (OpenSpec.ofChange fnLocalPartSplitsAtFirstColonSpec)

/-- ITS FALSE NEIGHBOUR: 'it returns false'. Refute it at one input. -/
def fnLocalPartSplitsAtFirstColonWrong : ChangeSpec := { name := "fnLocalPartSplitsAtFirstColon", fn := fun _ => fun
  | [d] => { results := [.lit (.bool false)], args := [d] }
  | _ => none }
def FnLocalPartSplitsAtFirstColonWrongFalsely : Prop := fnLocalPartSplitsAtFirstColonRow.holds Trym.pinned (OpenSpec.ofChange fnLocalPartSplitsAtFirstColonWrong)

/-- 'zzlaws_cloud_b1.FnLocalPartRecoversAfterQualifier': WHATEVER THE INPUT: true; the input reads as it did. -/
def fnLocalPartRecoversAfterQualifierSpec : ChangeSpec := { name := "fnLocalPartRecoversAfterQualifier", fn := fun _ => fun
  | [d1, d2] => { results := [.lit (.bool true)], args := [d1, d2] }
  | _ => none }
def fnLocalPartRecoversAfterQualifierRow : OpenClaim := { program := "qxb6602400amods", sum := "a4542b47ee5759829f42d74018c32416f2909783ee072d0cc7bb14c6498920a3", func := "example.com/offclock/offclock/zzlaws_cloud_b1.FnLocalPartRecoversAfterQualifier", spec := "fnLocalPartRecoversAfterQualifier", inPlace := ["internal/bytealg.IndexByte"], make := .lifted ["publicsums"], apart := false }
def FnLocalPartRecoversAfterQualifierSaid : Prop := fnLocalPartRecoversAfterQualifierRow.holds Trym.pinned (OpenSpec.ofChange fnLocalPartRecoversAfterQualifierSpec)

/-- ITS FALSE NEIGHBOUR: 'it returns false'. Refute it at one input. -/
def fnLocalPartRecoversAfterQualifierWrong : ChangeSpec := { name := "fnLocalPartRecoversAfterQualifier", fn := fun _ => fun
  | [d1, d2] => { results := [.lit (.bool false)], args := [d1, d2] }
  | _ => none }
def FnLocalPartRecoversAfterQualifierWrongFalsely : Prop := fnLocalPartRecoversAfterQualifierRow.holds Trym.pinned (OpenSpec.ofChange fnLocalPartRecoversAfterQualifierWrong)

end Rows
end Go.Proofs.Qxb6602400aMods
