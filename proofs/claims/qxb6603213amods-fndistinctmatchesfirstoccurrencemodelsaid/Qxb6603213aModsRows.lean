/-
  No cell of these rows narrows 'for every input' (looked for: loops, veiled, ifaces, maps, wideKeys, modest, calm, conditions, laid).
  DERIVED. THE GIVEN ROWS OF THIS SEAT. 2 by the template 'for every input the law returns true; each argument reads behind the call as it read before'; 0 by the template 'total and deterministic' (their statements: Qxb6603213aModsTotals.lean).
  GIVEN WITH THE SEED: the statements are not yours to turn. If you find one false, say at which input.
  Laid BY PROGRAM, IN A SANDBOX (cutbox-rows.mjs): the forced cells as the released guide's own fill.sh prints them over the translation 93492c8c432fc3a0… (all of the seat's roots in one cut). By AI agents, Wed Nov 11 2026. No macro, syntax, notation, axiom, sorry.
-/
import Derived.Test.Qxb6603213aModsChecked
import GoSem.Claim
import GoSem.ClaimJoined
import GoSem.ClaimMapViews
import Derived.JoinedTies
import Derived.KernelRfl
namespace Go.Proofs.Qxb6603213aMods
/- THE CELL 'sum', in the pinned program and in every row, IS THE sha256 OF THE DUMP (.gsa) THAT Qxb6603213aModsProg.lean LOADS. Nothing in Lean hashes anything: it is a label: what it is worth is what the hold of that sum in a sandbox is worth. -/
noncomputable def Trym.pinned : Pinned := { name := "qxb6603213amods", sum := "93492c8c432fc3a0905aa7b16d37957493b33305ea1bc375f05edf5500e8ecc7", checked := Trym.checked }
namespace Rows
def none {H : Type} : Left H := { results := [], args := [] }

/-- 'zzlaws_bundle_b1.FnDistinctMatchesFirstOccurrenceModel': WHATEVER THE INPUT: true; the input reads as it did. -/
def fnDistinctMatchesFirstOccurrenceModelSpec : ChangeSpec := { name := "fnDistinctMatchesFirstOccurrenceModel", fn := fun _ => fun
  | [d] => { results := [.lit (.bool true)], args := [d] }
  | _ => none }
def fnDistinctMatchesFirstOccurrenceModelRow : OpenClaim := { program := "qxb6603213amods", sum := "93492c8c432fc3a0905aa7b16d37957493b33305ea1bc375f05edf5500e8ecc7", func := "example.com/bundlesmith/bundlesmith/zzlaws_bundle_b1.FnDistinctMatchesFirstOccurrenceModel", spec := "fnDistinctMatchesFirstOccurrenceModel", make := .lifted ["publicsums"], apart := false }
def FnDistinctMatchesFirstOccurrenceModelSaid : Prop := fnDistinctMatchesFirstOccurrenceModelRow.holds Trym.pinned (OpenSpec.ofChange fnDistinctMatchesFirstOccurrenceModelSpec)

/-- ITS FALSE NEIGHBOUR: 'it returns false'. Refute it at one input. -/
def fnDistinctMatchesFirstOccurrenceModelWrong : ChangeSpec := { name := "fnDistinctMatchesFirstOccurrenceModel", fn := fun _ => fun
  | [d] => { results := [.lit (.bool false)], args := [d] }
  | _ => none }
def FnDistinctMatchesFirstOccurrenceModelWrongFalsely : Prop := fnDistinctMatchesFirstOccurrenceModelRow.holds Trym.pinned (OpenSpec.ofChange fnDistinctMatchesFirstOccurrenceModelWrong)

/-- 'zzlaws_bundle_b1.FnDistinctIsIdempotent': WHATEVER THE INPUT: true; the input reads as it did. -/
def fnDistinctIsIdempotentSpec : ChangeSpec := { name := "fnDistinctIsIdempotent", fn := fun _ => fun
  | [d] => { results := [.lit (.bool true)], args := [d] }
  | _ => none }
def fnDistinctIsIdempotentRow : OpenClaim := { program := "qxb6603213amods", sum := "93492c8c432fc3a0905aa7b16d37957493b33305ea1bc375f05edf5500e8ecc7", func := "example.com/bundlesmith/bundlesmith/zzlaws_bundle_b1.FnDistinctIsIdempotent", spec := "fnDistinctIsIdempotent", make := .lifted ["publicsums"], apart := false }
def FnDistinctIsIdempotentSaid : Prop := fnDistinctIsIdempotentRow.holds Trym.pinned (OpenSpec.ofChange fnDistinctIsIdempotentSpec)

/-- ITS FALSE NEIGHBOUR: 'it returns false'. Refute it at one input. -/
def fnDistinctIsIdempotentWrong : ChangeSpec := { name := "fnDistinctIsIdempotent", fn := fun _ => fun
  | [d] => { results := [.lit (.bool false)], args := [d] }
  | _ => none }
def FnDistinctIsIdempotentWrongFalsely : Prop := fnDistinctIsIdempotentRow.holds Trym.pinned (OpenSpec.ofChange fnDistinctIsIdempotentWrong)

end Rows
end Go.Proofs.Qxb6603213aMods
