/-
  PLAIN MATHEMATICS OF THE WINDOW: the three states; the first twenty candidates that have not failed; those that answered. No Go in sight.
-/
import Derived.Test.Qxb6601955aModsKadWindow
namespace Go.Proofs.Qxb6601955aMods.Kad

def fl (s : ByteArray) : Bool := s.toList == [102, 97, 105, 108, 101, 100]
def an (s : ByteArray) : Bool := s.toList == [97, 110, 115, 119, 101, 114, 101, 100]
def hd (s : ByteArray) : Bool := s.toList == [104, 101, 97, 114, 100]

def nf (S : Nat → ByteArray) (i : Nat) : Bool := !fl (S i)
def isA (S : Nat → ByteArray) (i : Nat) : Bool := an (S i)
def isH (S : Nat → ByteArray) (i : Nat) : Bool := hd (S i)

/-- The window: the first twenty that have not failed. -/
def win (S : Nat → ByteArray) (n : Nat) : List Nat := (upTo (nf S) n).take 20
/-- The first twenty that answered. -/
def ans (S : Nat → ByteArray) (n : Nat) : List Nat := (upTo (isA S) n).take 20

theorem upTo_add (p : Nat → Bool) (k d : Nat) : ∃ r, upTo p (k + d) = upTo p k ++ r := by
  induction d with
  | zero => exact ⟨[], by simp⟩
  | succ d ih =>
    obtain ⟨r, hr⟩ := ih
    cases h : p (k + d) with
    | true => exact ⟨r ++ [k + d], by rw [← Nat.add_assoc, upTo_hit h, hr, List.append_assoc]⟩
    | false => exact ⟨r, by rw [← Nat.add_assoc, upTo_miss h, hr]⟩
theorem take_stop {p : Nat → Bool} {k n : Nat} (hk : k ≤ n) (h : (upTo p k).length = 20) : (upTo p n).take 20 = upTo p k := by
  obtain ⟨r, hr⟩ := upTo_add p k (n - k)
  rw [show k + (n - k) = n from by omega] at hr
  rw [hr, ← h]; simp
theorem take_all {p : Nat → Bool} {n : Nat} (h : (upTo p n).length ≤ 20) : (upTo p n).take 20 = upTo p n := List.take_of_length_le h
theorem mem_upTo {p : Nat → Bool} {n i : Nat} (h : i ∈ upTo p n) : i < n ∧ p i = true := by
  unfold upTo at h; simpa using h
theorem mem_take_upTo {p : Nat → Bool} {n i : Nat} (h : i ∈ (upTo p n).take 20) : i < n ∧ p i = true := mem_upTo (List.mem_of_mem_take h)

/-- A window all of whose candidates answered is the first twenty that answered. -/
theorem an_not_fl (s : ByteArray) (h : an s = true) : fl s = false := by
  unfold an at h; unfold fl
  rw [beq_iff_eq] at h
  rw [h]; rfl

end Go.Proofs.Qxb6601955aMods.Kad
