/-
  'Rows.FnDistinctMatchesFirstOccurrenceModelSaid': the frame follows the given shells for a law over one slice; the argument is opened by 'open_strings'; the walk: 'Dist.dist_main'.
-/
import Derived.Test.Qxb6603213aModsRows
import Derived.WalkKit
import Derived.ProofKit
import Derived.OpenShut
import Derived.ShutString
import Derived.ChangeOld
import Derived.Below
import Derived.SliceStrings
import Derived.Test.Qxb6603213aModsDistLaw
namespace Go.Proofs.Qxb6603213aMods.fnDistinctMatchesFirstOccurrenceModel
open Go.ChangeShapes Go.WideShapes Go.ChangeAt Go.RowKit
set_option linter.unusedVariables false

theorem own : ownKnob Trym.prog.godebug = none := by kernel_rfl
theorem laidOut : laidOutB Trym.prog = true := by kernel_rfl
theorem Trym.cells9 : Trym.prog.cellsOf 9 = 1 := by kernel_rfl

theorem walk (a0 : Option Addr) (len0 cap0 : Nat) (w : World)
    (h : (a0 = none ∧ len0 = 0 ∧ cap0 = 0) ∨ ∃ x P, a0 = some x ∧ len0 ≤ maxLen ∧ Dist.Strs w (some x) len0 P) :
    Calls Trym.prog 3 #[.slice a0 len0 cap0] w fun e w' => e = .returned (.bool true) ∧ Below w.heap.size w w' := by
  rcases h with ⟨rfl, rfl, rfl⟩ | ⟨x, P, rfl, hl, hs⟩
  · exact Dist.dist_main none 0 0 (fun _ => ByteArray.empty) w (fun i hi => absurd hi (by omega)) (by omega) (fun _ => Dist.copied_nil _ w)
  · exact Dist.dist_main (some x) len0 cap0 P w hs hl (fun h4 => Dist.copied_some x len0 cap0 P w h4 hs)

set_option maxRecDepth 100000 in
theorem lifted (os : Os) (started : os.Started) (H : Type) (enc : TypeId × Value → H) :
    ReturnsInHanded {} Trym.checked os 3 .any (Rows.fnDistinctMatchesFirstOccurrenceModelSpec.pre6 enc Trym.prog Trym.f3 Rows.fnDistinctMatchesFirstOccurrenceModelRow.domain false) (Rows.fnDistinctMatchesFirstOccurrenceModelSpec.post enc Trym.prog Trym.f3 false true false false) := by
  refine returnsInHanded_of_change (C := Trym.checked) own started (by kernel_rfl) Trym.func3
    (ChangeSpec.witness6 (enc := enc) (C := Trym.checked) false ⟨#[], #[.slice none 0 0], []⟩ 8 (by kernel_rfl) (by kernel_rfl) (by kernel_rfl) (by kernel_rfl)) ?_
  intro W base args ds gs before hval0 hW hcnd _
  have hval : ∀ (j : Nat) t v, Trym.f3.params[j]? = some t → args[j]? = some v → Value.okWide Trym.prog W .any base t v := hval0
  have hW' := hW
  obtain ⟨p, q, hA0, hV, rfl, hfz, hnd⟩ := hW
  have hA : DataW.TrodAll enc Trym.prog W 0 (fun _ => true) true Trym.f3.params.toList args.toList ds p := hA0
  rw [Trym.params3] at hA hval
  obtain ⟨v0, vs0, d0, ds0, p0, q0, hargs, rfl, rfl, h0, r0⟩ := trodAll_cons hA
  obtain ⟨rfl, rfl, rfl⟩ := trodAll_nil r0
  obtain rfl : args = #[v0] := by cases args; simp_all
  obtain ⟨rfl, rfl⟩ := trodVars_none hV
  obtain ⟨a0, len0, cap0, rfl⟩ := okWide_slice Trym.underlying22 (hval 0 22 v0 rfl rfl)
  have k0 := h0
  have lt0 : ∀ x ∈ p0, x.block < W.heap.size := by obtain ⟨m, hm⟩ := k0; exact DataW.trod_lt m _ _ _ hm
  have hin : (a0 = none ∧ len0 = 0 ∧ cap0 = 0) ∨ ∃ x P, a0 = some x ∧ len0 ≤ maxLen ∧ Dist.Strs W (some x) len0 P := by
    obtain ⟨fuel, hf⟩ := h0
    rcases open_strings Trym.underlying22 Trym.underlying9 Trym.cells9 hf with ⟨hcs, _⟩ | ⟨x, l, c, ss, hcs, _, hl, hm, hz, _, hcell, hws⟩
    · simp [Value.cells] at hcs
      exact .inl hcs
    · simp [Value.cells] at hcs
      obtain ⟨rfl, rfl, rfl⟩ := hcs
      have hz' : ss.length = cap0 := by simpa using hz
      refine .inr ⟨x, fun i => ss.getD i ByteArray.empty, rfl, by omega, fun i hi => ?_⟩
      obtain ⟨b, off, spot⟩ := x
      have hs : spot = none := by simpa [Addr.add] using World.cell?_spot (hcell 0 (by omega))
      subst hs
      have hc := hcell i (by omega)
      rw [add_plain] at hc
      have hmem : ss.getD i ByteArray.empty ∈ ss := by
        rw [show ss.getD i ByteArray.empty = ss[i]'(by omega) from by simp [List.getD, show i < ss.length from by omega]]; exact List.getElem_mem _
      exact ⟨b, off, rfl, World.block_lt_of_cell? W _ hc, hc, hws _ hmem⟩
  clear hA0 hval0
  refine (walk a0 len0 cap0 W hin).mono fun e W' ⟨he, bel⟩ => ?_
  subst he
  exact ⟨_, rfl, _, _, _, [], _, [], hW', trodAll_mk1 (shut_bool Trym.underlying4 _), (trodAll_cons_mk (Below.trod laidOut (by kernel_rfl) (of_decide_eq_true (by kernel_rfl)) k0 bel lt0) trodAll_mk0), rfl, bel.frame _, fun h => by cases h⟩

theorem over : Rows.fnDistinctMatchesFirstOccurrenceModelRow.holds Trym.pinned (OpenSpec.ofChange Rows.fnDistinctMatchesFirstOccurrenceModelSpec) :=
  OpenClaim.holds_of_wide 3 Trym.f3 rfl rfl rfl rfl rfl rfl rfl ⟨rfl, rfl, rfl, rfl, rfl⟩ rfl rfl rfl rfl rfl (by kernel_rfl) Trym.func3 (by kernel_rfl)
    (of_decide_eq_true (by kernel_rfl)) (by unfold Func.isWrapper; first | (rw [if_pos (by decide +kernel)]; kernel_rfl) | (rw [if_neg (by decide +kernel)]; exact ⟨rfl, rfl⟩))
    (fun os started H enc _ => lifted os started H enc)

/-- THE STATEMENT -/
theorem proved : Rows.FnDistinctMatchesFirstOccurrenceModelSaid := over
#print axioms proved
end Go.Proofs.Qxb6603213aMods.fnDistinctMatchesFirstOccurrenceModel
