/-
  FROM THE READING OF THE ARGUMENT TO 'Cands': a slice of structs of three one-cell fields, opened.
-/
import Derived.Test.Qxb6601955aModsKadBase
import Derived.ProofKit
import Derived.Deep.Slices
import Derived.Deep.Strs
namespace Go.Proofs.Qxb6601955aMods.Kad
open Go.RowKit Go.ChangeShapes Go.WideShapes

theorem Trym.cells37 : Trym.prog.cellsOf 37 = 3 := by kernel_rfl
theorem Trym.cells9 : Trym.prog.cellsOf 9 = 1 := by kernel_rfl
theorem Trym.cells3 : Trym.prog.cellsOf 3 = 1 := by kernel_rfl

theorem open_cands {H : Type} {enc : TypeId × Value → H} {W : World} {base : Nat} {spare : Nat → Bool} {held : Bool} {fuel len cap : Nat} {a0 : Option Addr} {x : DataW H × List MemPlace}
    (h : DataW.trod enc Trym.prog W base spare held fuel 22 [.slice a0 len cap] = some x) : ∃ I S N, Cands W a0 len I S N ∧ len ≤ maxLen := by
  rcases Deep.open_slice Trym.underlying22 h with ⟨hcs, _⟩ | ⟨a, len', cap', m, n, D, Pl, hcs, _, hl, hm, hmm, _, hx⟩
  · simp at hcs
    obtain ⟨rfl, rfl, rfl⟩ := hcs
    exact ⟨fun _ => ByteArray.empty, fun _ => ByteArray.empty, fun _ => 0, fun i hi => absurd hi (by omega), Nat.zero_le _⟩
  · simp at hcs
    obtain ⟨rfl, rfl, rfl⟩ := hcs
    have hlm : len ≤ m := by rw [hmm]; split <;> omega
    have each : ∀ i, i < len → ∃ q : ByteArray × ByteArray × Int, W.cell? (a.add (i * 3)) = some (.string q.1) ∧ W.cell? (a.add (i * 3 + 1)) = some (.string q.2.1) ∧ W.cell? (a.add (i * 3 + 2)) = some (.int .i64 q.2.2) := by
      intro i hi
      obtain ⟨cs', h1, h2⟩ := hx i (by omega)
      rw [Trym.cells37] at h1
      obtain ⟨_, hlen, hcell⟩ := World.cells?_some h1
      obtain ⟨y0, y1, y2, k, _, _, g0, g1, g2⟩ := Deep.trod_struct3 Trym.underlying37 h2
      match cs', hlen with
      | [v0, v1, v2], _ =>
        simp [Trym.cells9, Trym.cells3] at g0 g1 g2
        obtain ⟨s0, e0, _⟩ := DataW.trod_string Trym.underlying9 g0
        obtain ⟨s1, e1, _⟩ := DataW.trod_string Trym.underlying9 g1
        obtain ⟨z, e2, _⟩ := DataW.trod_int Trym.underlying3 g2
        simp at e0 e1 e2
        subst e0 e1 e2
        have f0 := hcell 0 (by omega)
        have f1 := hcell 1 (by omega)
        have f2 := hcell 2 (by omega)
        rw [Deep.add_add] at f0 f1 f2
        exact ⟨(s0, s1, z), by simpa using f0, by simpa using f1, by simpa using f2⟩
    obtain ⟨q, hq⟩ := Deep.choose_lt each
    refine ⟨fun i => (q i).1, fun i => (q i).2.1, fun i => (q i).2.2, fun i hi => ?_, by omega⟩
    obtain ⟨b, off, spot⟩ := a
    have hs : spot = none := by
      have := (hq 0 (by omega)).1
      simpa [Addr.add] using World.cell?_spot this
    subst hs
    obtain ⟨h0, h1, h2⟩ := hq i hi
    rw [add_plain] at h0 h1 h2
    exact ⟨b, off, rfl, World.block_lt_of_cell? W _ h0, h0, h1, h2⟩

end Go.Proofs.Qxb6601955aMods.Kad
