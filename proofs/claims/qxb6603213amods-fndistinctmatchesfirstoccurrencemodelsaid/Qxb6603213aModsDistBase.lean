/-
  WHAT THE LAW OVER distinct SHARES: the slice of strings as it came in ('Strs'), the plain mathematics of first occurrences, a law for a look-up in a map[string]bool that the call made.
-/
import Derived.Test.Qxb6603213aModsProg
import Derived.WalkKit
import Derived.WalkSpells
import Derived.WalkLawsBesides
import Derived.Deep.OwnRows
import Derived.Maps.Own
import Derived.Maps.OwnOps
import Derived.Maps.OwnSet
namespace Go.Proofs.Qxb6603213aMods.Dist
open Go.RowKit Go.Maps

/-- THE PHRASES THAT CAME IN. (Of an empty slice nothing is known.) -/
def Strs (w : World) (a : Option Addr) (len : Nat) (P : Nat → ByteArray) : Prop :=
  ∀ i, i < len → ∃ b off, a = some ⟨b, off, none⟩ ∧ b < w.heap.size ∧ w.cell? ⟨b, off + i, none⟩ = some (.string (P i)) ∧ (P i).size ≤ maxLen
theorem Strs.below {w w' : World} {a : Option Addr} {len : Nat} {P : Nat → ByteArray} (h : Strs w a len P) (hb : Below w.heap.size w w') : Strs w' a len P := fun i hi => by
  obtain ⟨b, off, h1, h2, h3, h4⟩ := h i hi
  exact ⟨b, off, h1, Nat.lt_of_lt_of_le h2 hb.size, (hb.cell (by exact h2)).trans h3, h4⟩

def SomeBool (e : Ending) : Prop := ∃ bo, e = .returned (.bool bo)
theorem SomeBool.mk (bo : Bool) : SomeBool (.returned (.bool bo)) := ⟨bo, rfl⟩
def SomeInt (e : Ending) : Prop := ∃ t : Int, e = .returned (.int .i64 t)
theorem SomeInt.mk (t : Int) : SomeInt (.returned (.int .i64 t)) := ⟨t, rfl⟩
theorem ret_bool {a b : Bool} (h : a = b) : Ending.returned (.bool a) = .returned (.bool b) := by rw [h]

/-! ### First occurrences -/
/-- Is s among the first k phrases? -/
def seen (P : Nat → ByteArray) (k : Nat) (s : List UInt8) : Bool := (List.range k).any fun i => (P i).toList == s
/-- Does phrase i stand at its first occurrence? -/
def isFirst (P : Nat → ByteArray) (i : Nat) : Bool := !seen P i (P i).toList
/-- The first occurrences among the first k. -/
def firsts (P : Nat → ByteArray) (k : Nat) : List Nat := (List.range k).filter (isFirst P)

theorem seen_succ (P : Nat → ByteArray) (k : Nat) (s : List UInt8) : seen P (k + 1) s = (seen P k s || ((P k).toList == s)) := by simp [seen, List.range_succ]
theorem seen_zero (P : Nat → ByteArray) (s : List UInt8) : seen P 0 s = false := rfl
theorem seen_again {P : Nat → ByteArray} {k : Nat} (h : seen P k (P k).toList = true) (s : List UInt8) : seen P (k + 1) s = seen P k s := by
  rw [seen_succ]
  by_cases e : (P k).toList = s
  · rw [← e, h]; rfl
  · rw [beq_eq_false_iff_ne.2 e, Bool.or_false]
theorem firsts_hit {P : Nat → ByteArray} {k : Nat} (h : seen P k (P k).toList = false) : firsts P (k + 1) = firsts P k ++ [k] := by
  have e : isFirst P k = true := by unfold isFirst; rw [h]; rfl
  simp [firsts, List.range_succ, List.filter_append, e]
theorem firsts_miss {P : Nat → ByteArray} {k : Nat} (h : seen P k (P k).toList = true) : firsts P (k + 1) = firsts P k := by
  have e : isFirst P k = false := by unfold isFirst; rw [h]; rfl
  simp [firsts, List.range_succ, List.filter_append, e]
theorem firsts_le (P : Nat → ByteArray) (k : Nat) : (firsts P k).length ≤ k := by
  have := List.length_filter_le (isFirst P) (List.range k); simpa [firsts] using this
theorem seen_of {P : Nat → ByteArray} {k m : Nat} {s : List UInt8} (h : m < k) (e : (P m).toList = s) : seen P k s = true := by
  unfold seen; rw [List.any_eq_true]; exact ⟨m, by simpa using h, by simp [e]⟩
theorem seen_not {P : Nat → ByteArray} {k : Nat} {s : List UInt8} (h : ∀ m, m < k → (P m).toList ≠ s) : seen P k s = false := by
  unfold seen; rw [List.any_eq_false]; intro m hm; simpa using h m (by simpa using hm)
theorem firsts_add (P : Nat → ByteArray) (k d : Nat) : ∃ r, firsts P (k + d) = firsts P k ++ r := by
  induction d with
  | zero => exact ⟨[], by simp⟩
  | succ d ih =>
    obtain ⟨r, hr⟩ := ih
    cases h : seen P (k + d) (P (k + d)).toList with
    | true => exact ⟨r, by rw [← Nat.add_assoc, firsts_miss h, hr]⟩
    | false => exact ⟨r ++ [k + d], by rw [← Nat.add_assoc, firsts_hit h, hr, List.append_assoc]⟩
/-- A first occurrence stands among all of them just where it was met. -/
theorem firsts_at {P : Nat → ByteArray} {k n : Nat} (hk : k < n) (h : seen P k (P k).toList = false) : (firsts P k).length < (firsts P n).length ∧ (firsts P n).getD (firsts P k).length 0 = k := by
  obtain ⟨r, hr⟩ := firsts_add P (k + 1) (n - (k + 1))
  rw [show k + 1 + (n - (k + 1)) = n from by omega, firsts_hit h] at hr
  rw [hr]
  exact ⟨by simp, by simp [List.getD]⟩

/-! ### 'seen[phrase]' in a map[string]bool that the call made -/
theorem plainElem_bool_inv {H : Type} {P : Program} {e : TypeId} (he : P.underlying e = some .bool) {v : Value} {z : DataW H × List MemPlace} (h : plainElem P e v = some z) : ∃ x, v = .bool x ∧ z = (.lit (.bool x), []) := by
  unfold plainElem at h
  rw [he] at h
  cases v <;> simp at h
  exact ⟨_, rfl, h.symm⟩

theorem wpList_lookup_own_bool {H : Type} {P : Program} (w : World) {ops : Array Oper} {rest : List Oper} {o : Oper} {a : Act} {Q : Exit → Act → World → Prop}
    (hg : o.guard = none) (m x : Operand) (t : TypeId) (hop : o.op = Op.lookup t m x false)
    (k e : TypeId) (K : Keyed P k) (ht : P.underlying t = some (.map k e)) (he : P.underlying e = some .bool) (hz : (zeroValue e).run P w = .ok (.bool false) w) (b n : Nat) (D : DataW H)
    (hm : a.eval m = .map (some b)) (hown : w.ownsMap P k (plainElem P e) b n D) (key : Value) (kl : Lit) (hx : a.eval x = key) (hkey : keyOf P k key = some kl) (c : Bool) (hat : D.atKey kl (.lit (.bool false)) = .lit (.bool c))
    (hK : wpList P ops Q rest (a.put o.dst (.bool c)) w) :
    wpList P ops Q (o :: rest) a w := by
  refine wpList_plain hg fun K' hK' => ?_
  obtain ⟨v, ps, hrun, hv⟩ := hown.lookup K ht hz (plainElem_bool he false) hkey
  obtain ⟨x', rfl, hc⟩ := plainElem_bool_inv he hv
  simp only [Prod.mk.injEq] at hc
  rw [hat] at hc
  obtain rfl : c = x' := by simpa using hc.1
  unfold Oper.wp
  simp [execOp, hop, hm, hx, hrun, Result.andThen]
  exact hK' _ _ hK

end Go.Proofs.Qxb6603213aMods.Dist
