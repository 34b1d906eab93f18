/-
  No cell of these rows narrows 'for every input' (looked for: loops, veiled, ifaces, maps, wideKeys, modest, calm, conditions, laid).
  DERIVED. THE GIVEN ROWS OF THIS SEAT. 4 by the template 'for every input the law returns true; each argument reads behind the call as it read before'; 0 by the template 'total and deterministic' (their statements: Qxb6601955aModsTotals.lean).
  GIVEN WITH THE SEED: the statements are not yours to turn. If you find one false, say at which input.
  Laid BY PROGRAM, IN A SANDBOX (cutbox-rows.mjs): the forced cells as the released guide's own fill.sh prints them over the translation a274af7669700b84… (all of the seat's roots in one cut). By AI agents, Wed Nov 11 2026. No macro, syntax, notation, axiom, sorry.
-/
import Derived.Test.Qxb6601955aModsChecked
import GoSem.Claim
import GoSem.ClaimJoined
import GoSem.ClaimMapViews
import Derived.JoinedTies
import Derived.KernelRfl
namespace Go.Proofs.Qxb6601955aMods
/- THE CELL 'sum', in the pinned program and in every row, IS THE sha256 OF THE DUMP (.gsa) THAT Qxb6601955aModsProg.lean LOADS. Nothing in Lean hashes anything: it is a label: what it is worth is what the hold of that sum in a sandbox is worth. -/
noncomputable def Trym.pinned : Pinned := { name := "qxb6601955amods", sum := "a274af7669700b844c9c3009cad88977e9ceb43a1e2f43acde8af5cb44b2f47b", checked := Trym.checked }
namespace Rows
def none {H : Type} : Left H := { results := [], args := [] }

/-- 'zzlaws_internal_lookup_b1.FnProgressIsTheWindowOfTheFirstKNotFailed': WHATEVER THE INPUT: true; the input reads as it did. -/
def fnProgressIsTheWindowOfTheFirstKNotFailedSpec : ChangeSpec := { name := "fnProgressIsTheWindowOfTheFirstKNotFailed", fn := fun _ => fun
  | [d] => { results := [.lit (.bool true)], args := [d] }
  | _ => none }
def fnProgressIsTheWindowOfTheFirstKNotFailedRow : OpenClaim := { program := "qxb6601955amods", sum := "a274af7669700b844c9c3009cad88977e9ceb43a1e2f43acde8af5cb44b2f47b", func := "example.com/kadsonde/kadsonde/zzlaws_internal_lookup_b1.FnProgressIsTheWindowOfTheFirstKNotFailed", spec := "fnProgressIsTheWindowOfTheFirstKNotFailed", make := .lifted ["publicsums"], apart := false }
def FnProgressIsTheWindowOfTheFirstKNotFailedSaid : Prop := fnProgressIsTheWindowOfTheFirstKNotFailedRow.holds Trym.pinned (OpenSpec.ofChange fnProgressIsTheWindowOfTheFirstKNotFailedSpec)

/-- ITS FALSE NEIGHBOUR: 'it returns false'. Refute it at one input. -/
def fnProgressIsTheWindowOfTheFirstKNotFailedWrong : ChangeSpec := { name := "fnProgressIsTheWindowOfTheFirstKNotFailed", fn := fun _ => fun
  | [d] => { results := [.lit (.bool false)], args := [d] }
  | _ => none }
def FnProgressIsTheWindowOfTheFirstKNotFailedWrongFalsely : Prop := fnProgressIsTheWindowOfTheFirstKNotFailedRow.holds Trym.pinned (OpenSpec.ofChange fnProgressIsTheWindowOfTheFirstKNotFailedWrong)

/-- 'zzlaws_internal_lookup_b1.FnProgressDoneMeansClosestIsTheWindow': WHATEVER THE INPUT: true; the input reads as it did. -/
def fnProgressDoneMeansClosestIsTheWindowSpec : ChangeSpec := { name := "fnProgressDoneMeansClosestIsTheWindow", fn := fun _ => fun
  | [d] => { results := [.lit (.bool true)], args := [d] }
  | _ => none }
def fnProgressDoneMeansClosestIsTheWindowRow : OpenClaim := { program := "qxb6601955amods", sum := "a274af7669700b844c9c3009cad88977e9ceb43a1e2f43acde8af5cb44b2f47b", func := "example.com/kadsonde/kadsonde/zzlaws_internal_lookup_b1.FnProgressDoneMeansClosestIsTheWindow", spec := "fnProgressDoneMeansClosestIsTheWindow", make := .lifted ["publicsums"], apart := false }
def FnProgressDoneMeansClosestIsTheWindowSaid : Prop := fnProgressDoneMeansClosestIsTheWindowRow.holds Trym.pinned (OpenSpec.ofChange fnProgressDoneMeansClosestIsTheWindowSpec)

/-- ITS FALSE NEIGHBOUR: 'it returns false'. Refute it at one input. -/
def fnProgressDoneMeansClosestIsTheWindowWrong : ChangeSpec := { name := "fnProgressDoneMeansClosestIsTheWindow", fn := fun _ => fun
  | [d] => { results := [.lit (.bool false)], args := [d] }
  | _ => none }
def FnProgressDoneMeansClosestIsTheWindowWrongFalsely : Prop := fnProgressDoneMeansClosestIsTheWindowRow.holds Trym.pinned (OpenSpec.ofChange fnProgressDoneMeansClosestIsTheWindowWrong)

/-- 'zzlaws_internal_lookup_b1.FnClosestIsTheFirstKAnswered': WHATEVER THE INPUT: true; the input reads as it did. -/
def fnClosestIsTheFirstKAnsweredSpec : ChangeSpec := { name := "fnClosestIsTheFirstKAnswered", fn := fun _ => fun
  | [d] => { results := [.lit (.bool true)], args := [d] }
  | _ => none }
def fnClosestIsTheFirstKAnsweredRow : OpenClaim := { program := "qxb6601955amods", sum := "a274af7669700b844c9c3009cad88977e9ceb43a1e2f43acde8af5cb44b2f47b", func := "example.com/kadsonde/kadsonde/zzlaws_internal_lookup_b1.FnClosestIsTheFirstKAnswered", spec := "fnClosestIsTheFirstKAnswered", make := .lifted ["publicsums"], apart := false }
def FnClosestIsTheFirstKAnsweredSaid : Prop := fnClosestIsTheFirstKAnsweredRow.holds Trym.pinned (OpenSpec.ofChange fnClosestIsTheFirstKAnsweredSpec)

/-- ITS FALSE NEIGHBOUR: 'it returns false'. Refute it at one input. -/
def fnClosestIsTheFirstKAnsweredWrong : ChangeSpec := { name := "fnClosestIsTheFirstKAnswered", fn := fun _ => fun
  | [d] => { results := [.lit (.bool false)], args := [d] }
  | _ => none }
def FnClosestIsTheFirstKAnsweredWrongFalsely : Prop := fnClosestIsTheFirstKAnsweredRow.holds Trym.pinned (OpenSpec.ofChange fnClosestIsTheFirstKAnsweredWrong)

/-- 'zzlaws_internal_lookup_b1.FnClosestOfAPrefixIsAPrefix': WHATEVER THE INPUT: true; the input reads as it did. -/
def fnClosestOfAPrefixIsAPrefixSpec : ChangeSpec := { name := "fnClosestOfAPrefixIsAPrefix", fn := fun _ => fun
  | [d1, d2] => { results := [.lit (.bool true)], args := [d1, d2] }
  | _ => none }
def fnClosestOfAPrefixIsAPrefixRow : OpenClaim := { program := "qxb6601955amods", sum := "a274af7669700b844c9c3009cad88977e9ceb43a1e2f43acde8af5cb44b2f47b", func := "example.com/kadsonde/kadsonde/zzlaws_internal_lookup_b1.FnClosestOfAPrefixIsAPrefix", spec := "fnClosestOfAPrefixIsAPrefix", make := .lifted ["publicsums"], apart := false }
def FnClosestOfAPrefixIsAPrefixSaid : Prop := fnClosestOfAPrefixIsAPrefixRow.holds Trym.pinned (OpenSpec.ofChange fnClosestOfAPrefixIsAPrefixSpec)

/-- ITS FALSE NEIGHBOUR: 'it returns false'. Refute it at one input. -/
def fnClosestOfAPrefixIsAPrefixWrong : ChangeSpec := { name := "fnClosestOfAPrefixIsAPrefix", fn := fun _ => fun
  | [d1, d2] => { results := [.lit (.bool false)], args := [d1, d2] }
  | _ => none }
def FnClosestOfAPrefixIsAPrefixWrongFalsely : Prop := fnClosestOfAPrefixIsAPrefixRow.holds Trym.pinned (OpenSpec.ofChange fnClosestOfAPrefixIsAPrefixWrong)

end Rows
end Go.Proofs.Qxb6601955aMods
