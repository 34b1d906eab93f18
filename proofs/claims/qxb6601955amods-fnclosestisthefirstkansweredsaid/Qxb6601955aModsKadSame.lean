/-
  sameAsCandLookupB1 (function 16): an AddrInfo against the candidate that it was taken from.
-/
import Derived.Test.Qxb6601955aModsKadMake
import Derived.Deep.QuietTactic
import Derived.BigQuiet
import Derived.LaidEqlPtr
namespace Go.Proofs.Qxb6601955aMods.Kad
open Go.RowKit

theorem Trym.some60 : (Trym.prog.info? 60).isSome = true := by kernel_rfl

set_option maxHeartbeats 1600000 in
theorem same_some (id : ByteArray) (g L b : Nat) (w : World) (hL : 0 < L) (hb : b < w.heap.size) (c0 : w.cell? ⟨b, 0, none⟩ = some (.string id)) (c1 : w.cell? ⟨b, 1, none⟩ = some (.slice (some ⟨g, 0, none⟩) L L)) :
    Calls Trym.prog 16 #[.agg #[.string id, .slice (some ⟨g, 0, none⟩) L L], .pointer (some ⟨b, 0, none⟩)] w fun e w' => e = .returned (.bool true) ∧ Below w.heap.size w w' := by
  obtain ⟨j60, hj60⟩ := Option.isSome_iff_exists.1 Trym.some60
  have hpe := fun (w : World) (x : Addr) => run_eql_ptr_same (P := Trym.prog) w x Trym.underlying58 hj60
  have hnn := fun (w : World) (a : Option Addr) (n c n' c' : Nat) => Lib.run_eql_slice_nil (P := Trym.prog) w 43 60 a n c n' c' Trym.underlying43
  have t1 : (!id.toList == id.toList) = false := by simp
  have t2 : ((L : Int) != (L : Int)) = false := by simp
  have t3 : ((L : Int) == 0) = false := by simp; omega
  have t4 : (0 : Int) < (L : Int) := by omega
  clear hj60
  go_enter Trym.func16, Trym.ntmps16
  go_wp2
  go_quiet (fail)
  go_wp2
  go_quiet (fail)
  go_wp2
  go_ret
  exact ⟨rfl, below_drewN (below_drewN ((Below.refl _ _).alloc (Nat.le_refl _) _) _) _⟩

set_option maxHeartbeats 1600000 in
theorem same_none (id : ByteArray) (b : Nat) (w : World) (hb : b < w.heap.size) (c0 : w.cell? ⟨b, 0, none⟩ = some (.string id)) (c1 : w.cell? ⟨b, 1, none⟩ = some (.slice none 0 0)) :
    Calls Trym.prog 16 #[.agg #[.string id, .slice none 0 0], .pointer (some ⟨b, 0, none⟩)] w fun e w' => e = .returned (.bool true) ∧ Below w.heap.size w w' := by
  have hnn := fun (w : World) (a : Option Addr) (n c n' c' : Nat) => Lib.run_eql_slice_nil (P := Trym.prog) w 43 60 a n c n' c' Trym.underlying43
  have t1 : (!id.toList == id.toList) = false := by simp
  go_enter Trym.func16, Trym.ntmps16
  go_wp2
  go_quiet (fail)
  go_wp2
  go_quiet (fail)
  go_wp2
  go_ret
  exact ⟨rfl, below_drewN (below_drewN ((Below.refl _ _).alloc (Nat.le_refl _) _) _) _⟩

theorem same_any (id : ByteArray) (A : Option Addr) (L b : Nat) (w : World) (hA : A = none ∧ L = 0 ∨ ∃ g, A = some ⟨g, 0, none⟩ ∧ 0 < L) (hb : b < w.heap.size) (c0 : w.cell? ⟨b, 0, none⟩ = some (.string id)) (c1 : w.cell? ⟨b, 1, none⟩ = some (.slice A L L)) :
    Calls Trym.prog 16 #[.agg #[.string id, .slice A L L], .pointer (some ⟨b, 0, none⟩)] w fun e w' => e = .returned (.bool true) ∧ Below w.heap.size w w' := by
  rcases hA with ⟨rfl, rfl⟩ | ⟨g, rfl, hL⟩
  · exact same_none id b w hb c0 c1
  · exact same_some id g L b w hL hb c0 c1

end Go.Proofs.Qxb6601955aMods.Kad
