/-
  WHAT THE THREE LAWS OVER THE LOOKUP SHARE: the slice of candidates as it came in ('Cands'), facts on types, small lemmas.
-/
import Derived.Test.Qxb6601955aModsProg
import Derived.WalkKit
import Derived.WalkSpells
import Derived.WalkLawsBesides
import Derived.Deep.OwnRows
namespace Go.Proofs.Qxb6601955aMods.Kad
open Go.RowKit

/-- THE CANDIDATES THAT CAME IN: element i is three cells: an id, a state, a number of addresses. (Of an empty slice nothing is known.) -/
def Cands (w : World) (a : Option Addr) (len : Nat) (I S : Nat → ByteArray) (N : Nat → Int) : Prop :=
  ∀ i, i < len → ∃ b off, a = some ⟨b, off, none⟩ ∧ b < w.heap.size ∧ w.cell? ⟨b, off + i * 3, none⟩ = some (.string (I i)) ∧ w.cell? ⟨b, off + i * 3 + 1, none⟩ = some (.string (S i)) ∧ w.cell? ⟨b, off + i * 3 + 2, none⟩ = some (.int .i64 (N i))

theorem Cands.below {w w' : World} {a : Option Addr} {len : Nat} {I S : Nat → ByteArray} {N : Nat → Int} (h : Cands w a len I S N) (hb : Below w.heap.size w w') : Cands w' a len I S N := fun i hi => by
  obtain ⟨b, off, h1, h2, h3, h4, h5⟩ := h i hi
  exact ⟨b, off, h1, Nat.lt_of_lt_of_le h2 hb.size, (hb.cell (by exact h2)).trans h3, (hb.cell (by exact h2)).trans h4, (hb.cell (by exact h2)).trans h5⟩

/-- Some bool is returned. -/
def SomeBool (e : Ending) : Prop := ∃ bo, e = .returned (.bool bo)
theorem SomeBool.mk (bo : Bool) : SomeBool (.returned (.bool bo)) := ⟨bo, rfl⟩

theorem ret_bool {a b : Bool} (h : a = b) : Ending.returned (.bool a) = .returned (.bool b) := by rw [h]

end Go.Proofs.Qxb6601955aMods.Kad
