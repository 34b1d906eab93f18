/-
  PLAIN MATHEMATICS OF THE TWO SCANNERS: no Go in sight.
  'stop c': the bytes that end a name. 'qscan q l': the place of the first '>' outside quotes in l, q the open quote's byte (0: none is open). 'Q l q i': the answer that is reached from place i on.
-/
import Derived.WalkKit
namespace Go.Proofs.Qxb6602400aMods.Scan

def Stop (c : Int) : Prop := c ≤ 32 ∨ c = 47 ∨ c = 62

def qscan : Int → List Int → Option Nat
  | _, [] => Option.none
  | q, c :: l =>
    if q ≠ 0 then (if c = q then (qscan 0 l).map (· + 1) else (qscan q l).map (· + 1))
    else if c = 34 ∨ c = 39 then (qscan c l).map (· + 1)
    else if c = 62 then some 0
    else (qscan 0 l).map (· + 1)

def at_ (i : Nat) : Option Nat → Int
  | Option.none => -1
  | some n => (i : Int) + (n : Int)
theorem at_step (i : Nat) (o : Option Nat) : at_ i (o.map (· + 1)) = at_ (i + 1) o := by
  cases o with
  | none => rfl
  | some n => simp [at_]; omega

def Q (l : List Int) (q : Int) (i : Nat) : Int := at_ i (qscan q (l.drop i))

theorem drop_at {l : List Int} {i : Nat} (h : i < l.length) : l.drop i = l.getD i 0 :: l.drop (i + 1) := by
  rw [List.drop_eq_getElem_cons h]; simp [List.getD, h]

theorem Q_end {l : List Int} {q : Int} {i : Nat} (h : l.length ≤ i) : Q l q i = -1 := by
  unfold Q; rw [List.drop_of_length_le h]; rfl
theorem Q_close {l : List Int} {q : Int} {i : Nat} (h : i < l.length) (hq : q ≠ 0) (hc : l.getD i 0 = q) : Q l q i = Q l 0 (i + 1) := by
  unfold Q; rw [drop_at h, qscan, if_pos hq, if_pos hc, at_step]
theorem Q_in {l : List Int} {q : Int} {i : Nat} (h : i < l.length) (hq : q ≠ 0) (hc : l.getD i 0 ≠ q) : Q l q i = Q l q (i + 1) := by
  unfold Q; rw [drop_at h, qscan, if_pos hq, if_neg hc, at_step]
theorem Q_open {l : List Int} {i : Nat} (h : i < l.length) (hc : l.getD i 0 = 34 ∨ l.getD i 0 = 39) : Q l 0 i = Q l (l.getD i 0) (i + 1) := by
  unfold Q; rw [drop_at h, qscan, if_neg (by simp), if_pos hc, at_step]
theorem Q_hit {l : List Int} {i : Nat} (h : i < l.length) (hc : l.getD i 0 = 62) : Q l 0 i = (i : Int) := by
  unfold Q; rw [drop_at h, qscan, if_neg (by simp), if_neg (by omega), if_pos hc]; simp [at_]
theorem Q_pass {l : List Int} {i : Nat} (h : i < l.length) (hc : ¬ (l.getD i 0 = 34 ∨ l.getD i 0 = 39)) (hd : l.getD i 0 ≠ 62) : Q l 0 i = Q l 0 (i + 1) := by
  unfold Q; rw [drop_at h, qscan, if_neg (by simp), if_neg hc, if_neg hd, at_step]
/-- Within quotes nothing but the closing quote counts. -/
theorem Q_skip {l : List Int} {q : Int} (hq : q ≠ 0) : ∀ (d i : Nat), i + d ≤ l.length → (∀ j, i ≤ j → j < i + d → l.getD j 0 ≠ q) → Q l q i = Q l q (i + d)
  | 0, i, _, _ => rfl
  | d + 1, i, h, hn => by
    rw [Q_in (by omega) hq (hn i (Nat.le_refl _) (by omega)), Q_skip hq d (i + 1) (by omega) (fun j h1 h2 => hn j (by omega) (by omega)), show i + 1 + d = i + (d + 1) from by omega]

end Go.Proofs.Qxb6602400aMods.Scan
