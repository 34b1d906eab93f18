/-
  PLAIN MATHEMATICS FOR THE TWO LAWS OVER hexCodePoint: no Go in sight.
  'hexv c': the value of a hex digit's byte, -1 where it is none. 'ev l': the number that the digits l spell. 'good l': each is a digit.
-/
import Derived.WalkKit
namespace Go.Proofs.Qxb6601914aMods.Hex

def hexv (c : Int) : Int :=
  if 48 ≤ c ∧ c ≤ 57 then c - 48 else if 97 ≤ c ∧ c ≤ 102 then c - 87 else if 65 ≤ c ∧ c ≤ 70 then c - 55 else -1

def ev : List Int → Int
  | [] => 0
  | c :: l => hexv c * 16 ^ l.length + ev l

def good (l : List Int) : Prop := ∀ c ∈ l, 0 ≤ hexv c

theorem hexv_lt (c : Int) : -1 ≤ hexv c ∧ hexv c < 16 := by
  unfold hexv; split
  · omega
  · split
    · omega
    · split <;> omega

theorem ev_snoc (l : List Int) (c : Int) : ev (l ++ [c]) = ev l * 16 + hexv c := by
  induction l with
  | nil => simp [ev]
  | cons x l ih =>
    simp only [List.cons_append, ev, ih, List.length_append, List.length_cons, List.length_nil, Int.pow_succ]
    rw [Int.add_mul, Int.mul_assoc]
    have : (16 : Int) ^ (l.length + 0) * 16 = 16 ^ l.length * 16 := by simp
    omega

theorem take_snoc {l : List Int} {k : Nat} (h : k < l.length) : l.take (k + 1) = l.take k ++ [l.getD k 0] := by
  rw [List.take_succ_eq_append_getElem h]; simp [List.getD, h]

theorem ev_take {l : List Int} {k : Nat} (h : k < l.length) : ev (l.take (k + 1)) = ev (l.take k) * 16 + hexv (l.getD k 0) := by
  rw [take_snoc h, ev_snoc]

theorem ev_drop {l : List Int} {k : Nat} (h : k < l.length) : ev (l.drop k) = hexv (l.getD k 0) * 16 ^ (l.length - (k + 1)) + ev (l.drop (k + 1)) := by
  rw [List.drop_eq_getElem_cons h]
  simp [ev, List.getD, h]

/-- 'v<<4 | d' on a uint32, d a hex digit. -/
theorem step32 (v d : Int) : (v % 4294967296 * 16 + d) % 4294967296 = (v * 16 + d) % 4294967296 := by omega

end Go.Proofs.Qxb6601914aMods.Hex
