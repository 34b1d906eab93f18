/-
  indicesWhereLookupB1 (function 13), firstKLookupB1 (12): the window's indices, in a slice of ints.
-/
import Derived.Test.Qxb6601955aModsKadSplit
namespace Go.Proofs.Qxb6601955aMods.Kad
open Go.RowKit

/-- A slice of indices: nil or not, its elements lie in new memory. -/
def Win (w : World) (v : Value) (L : List Nat) : Prop :=
  ∃ a cap, v = .slice a L.length cap ∧ L.length ≤ cap ∧ cap ≤ 9223372036854775807 ∧ ∀ j, j < L.length → ∃ g, a = some ⟨g, 0, none⟩ ∧ g < w.heap.size ∧ w.cell? ⟨g, j, none⟩ = some (.int .i64 ((L.getD j 0 : Nat) : Int))

theorem Win.below {w w' : World} {v : Value} {L : List Nat} (h : Win w v L) (hb : Below w.heap.size w w') : Win w' v L := by
  obtain ⟨a, cap, h1, h2, h3, h4⟩ := h
  refine ⟨a, cap, h1, h2, h3, fun j hj => ?_⟩
  obtain ⟨g, g1, g2, g3⟩ := h4 j hj
  exact ⟨g, g1, Nat.lt_of_lt_of_le g2 hb.size, (hb.cell (by exact g2)).trans g3⟩

def nums (L : List Nat) : List Value := L.map (fun i => Value.int .i64 ((i : Nat) : Int))
theorem nums_snoc (L : List Nat) (i : Nat) : nums (L ++ [i]) = nums L ++ [.int .i64 (i : Int)] := by simp [nums]
theorem nums_length (L : List Nat) : (nums L).length = L.length := by simp [nums]

theorem Win.of_own {w : World} {base : Nat} {v : Value} {L : List Nat} (h : w.ownsRow base 3 1 v L.length (nums L)) : Win w v L := by
  obtain ⟨h1, ⟨rfl, h2⟩ | ⟨g, cap, cur, rfl, h3, h4, h5, h6, h7, h8⟩⟩ := h
  · exact ⟨none, 0, by rw [h2], by omega, by omega, fun j hj => absurd hj (by omega)⟩
  · refine ⟨_, cap, rfl, h5, by unfold maxLen at h6; omega, fun j hj => ⟨g, rfl, ?_, ?_⟩⟩
    · exact (Array.getElem?_eq_some_iff.1 h4).1
    · have := World.ownsRow.cellAt ⟨h1, .inr ⟨g, cap, cur, rfl, h3, h4, h5, h6, h7, h8⟩⟩ j (by omega)
      rw [this]
      simp [nums, List.getD, hj]

def upTo (p : Nat → Bool) (k : Nat) : List Nat := (List.range k).filter p
theorem upTo_hit {p : Nat → Bool} {k : Nat} (h : p k = true) : upTo p (k + 1) = upTo p k ++ [k] := by simp [upTo, List.range_succ, List.filter_append, h]
theorem upTo_miss {p : Nat → Bool} {k : Nat} (h : p k = false) : upTo p (k + 1) = upTo p k := by simp [upTo, List.range_succ, List.filter_append, h]
theorem upTo_le (p : Nat → Bool) (k : Nat) : (upTo p k).length ≤ k := by
  have := List.length_filter_le p (List.range k); simpa [upTo] using this

/-- What an append of one new element leaves. -/
theorem push_below {w wr w1 : World} {o : Obj} {B : Nat} {v : Value} {e size n : Nat} {xs : List Value} (hown : wr.ownsRow B e size v n xs) (hnx : Below B w wr) (hB : B ≤ wr.heap.size)
    (hg : (wr.alloc o).grownBy w1 v.ownBlock) : Below B w w1 :=
  (hnx.alloc hB o).grown hg (by simp; omega) (fun j hj => (hown.lt j hj).1)

set_option maxHeartbeats 800000 in
theorem idx_not (a : Option Addr) (len cap : Nat) (I S : Nat → ByteArray) (N : Nat → Int) (s : ByteArray) (w : World) (hc : Cands w a len I S N) (hl : len ≤ 65536) (p : Nat → Bool) (hp : Hid (∀ i, p i = (!((S i).toList == s.toList)))) :
    Calls Trym.prog 13 #[.slice a len cap, .string s, .bool false] w fun e w' => ∃ v, e = .returned v ∧ Win w' v (upTo p len) ∧ Below w.heap.size w w' := by
  obtain ⟨i0, hi, hz0, hz1, hz2⟩ := info_parts Trym.info3
  have HC : Hid (Cands w a len I S N) := hc
  clear hc
  go_enter Trym.func13, Trym.ntmps13
  go_wp2
  go_loopw [7, 8] (fun z i wr => ∃ (k : Nat) (L : List Nat), k ≤ len ∧ i = .int .i64 k ∧ wr.ownsRow w.heap.size 3 1 z L.length (nums L) ∧ Below w.heap.size w wr ∧ L.length ≤ k ∧ L = upTo p k) (fun _ i _ => len - (intOf i).toNat)
  case atStart => exact ⟨0, [], Nat.zero_le _, rfl, World.ownsRow_nil _ _ _ _, Below.refl _ _, Nat.zero_le _, rfl⟩
  case round =>
    obtain ⟨k, L, hk, rfl, hown, hnx, hLk, hL⟩ := hrel
    have HL : Hid (L = upTo p k) := hL
    have HB : Hid (Below w.heap.size w wr) := hnx
    have hsz := hnx.size
    clear hL
    by_cases hlt : k < len
    · obtain ⟨b, off, rfl, hb, c0, c1, c2⟩ := HC.out.below hnx k hlt
      clear hnx
      by_cases ht : (!((S k).toList == s.toList)) = true
      · have HP : Hid (p k = true) := (hp.out k).trans ht
        go_wp2_with (at_builtin; go_must (refine wpList_append_own _ rfl _ _ 25 rfl w.heap.size 3 i0 (.int .i64 0) 1 8 Trym.underlying25 hi hz0 hz1 hz2 rfl (by decide) _ _ _ rfl (hown.alloc _) ⟨wr.heap.size, 0, none⟩ 1 1 [.int .i64 (k : Int)] rfl rfl (cell_one_new _ _ _) (ints_oneCell .i64 [(k : Int)]) (by unfold maxLen; omega) (by omega) (by simp; omega) ?_); intro v' w1 hown' hgrow _)
        have HN : Hid (Below w.heap.size w w1) := push_below hown HB.out hsz hgrow
        have HO : Hid (w1.ownsRow w.heap.size 3 1 v' (L ++ [k]).length (nums (L ++ [k]))) := by rw [nums_snoc, List.length_append]; exact hown'
        clear hown hown' hgrow
        go_wp2
        go_roundw
        case rel => exact ⟨k + 1, L ++ [k], by omega, by go_num, HO.out, HN.out, by simp; omega, by rw [upTo_hit HP.out, HL.out]⟩
        case measure => simp [intOf]; omega
      · have ht' : (!((S k).toList == s.toList)) = false := by simpa using ht
        clear ht
        have HP : Hid (p k = false) := (hp.out k).trans ht'
        go_wp2
        go_roundw
        case rel => exact ⟨k + 1, L, by omega, by go_num, hown, HB.out, by omega, by rw [upTo_miss HP.out, HL.out]⟩
        case measure => simp [intOf]; omega
    · have hkl : k = len := by omega
      have HK : Hid (k = len) := hkl
      clear hkl hnx
      go_wp2
      go_ret
      refine ⟨_, rfl, ?_, HB.out⟩
      have := Win.of_own hown
      rw [HL.out, HK.out] at this
      exact this

set_option maxHeartbeats 800000 in
theorem idx_is (a : Option Addr) (len cap : Nat) (I S : Nat → ByteArray) (N : Nat → Int) (s : ByteArray) (w : World) (hc : Cands w a len I S N) (hl : len ≤ 65536) (p : Nat → Bool) (hp : Hid (∀ i, p i = ((S i).toList == s.toList))) :
    Calls Trym.prog 13 #[.slice a len cap, .string s, .bool true] w fun e w' => ∃ v, e = .returned v ∧ Win w' v (upTo p len) ∧ Below w.heap.size w w' := by
  obtain ⟨i0, hi, hz0, hz1, hz2⟩ := info_parts Trym.info3
  have HC : Hid (Cands w a len I S N) := hc
  clear hc
  go_enter Trym.func13, Trym.ntmps13
  go_wp2
  go_loopw [7, 8] (fun z i wr => ∃ (k : Nat) (L : List Nat), k ≤ len ∧ i = .int .i64 k ∧ wr.ownsRow w.heap.size 3 1 z L.length (nums L) ∧ Below w.heap.size w wr ∧ L.length ≤ k ∧ L = upTo p k) (fun _ i _ => len - (intOf i).toNat)
  case atStart => exact ⟨0, [], Nat.zero_le _, rfl, World.ownsRow_nil _ _ _ _, Below.refl _ _, Nat.zero_le _, rfl⟩
  case round =>
    obtain ⟨k, L, hk, rfl, hown, hnx, hLk, hL⟩ := hrel
    have HL : Hid (L = upTo p k) := hL
    have HB : Hid (Below w.heap.size w wr) := hnx
    have hsz := hnx.size
    clear hL
    by_cases hlt : k < len
    · obtain ⟨b, off, rfl, hb, c0, c1, c2⟩ := HC.out.below hnx k hlt
      clear hnx
      by_cases ht : ((S k).toList == s.toList) = true
      · have HP : Hid (p k = true) := (hp.out k).trans ht
        go_wp2_with (at_builtin; go_must (refine wpList_append_own _ rfl _ _ 25 rfl w.heap.size 3 i0 (.int .i64 0) 1 8 Trym.underlying25 hi hz0 hz1 hz2 rfl (by decide) _ _ _ rfl (hown.alloc _) ⟨wr.heap.size, 0, none⟩ 1 1 [.int .i64 (k : Int)] rfl rfl (cell_one_new _ _ _) (ints_oneCell .i64 [(k : Int)]) (by unfold maxLen; omega) (by omega) (by simp; omega) ?_); intro v' w1 hown' hgrow _)
        have HN : Hid (Below w.heap.size w w1) := push_below hown HB.out hsz hgrow
        have HO : Hid (w1.ownsRow w.heap.size 3 1 v' (L ++ [k]).length (nums (L ++ [k]))) := by rw [nums_snoc, List.length_append]; exact hown'
        clear hown hown' hgrow
        go_wp2
        go_roundw
        case rel => exact ⟨k + 1, L ++ [k], by omega, by go_num, HO.out, HN.out, by simp; omega, by rw [upTo_hit HP.out, HL.out]⟩
        case measure => simp [intOf]; omega
      · have ht' : ((S k).toList == s.toList) = false := by simpa using ht
        clear ht
        have HP : Hid (p k = false) := (hp.out k).trans ht'
        go_wp2
        go_roundw
        case rel => exact ⟨k + 1, L, by omega, by go_num, hown, HB.out, by omega, by rw [upTo_miss HP.out, HL.out]⟩
        case measure => simp [intOf]; omega
    · have hkl : k = len := by omega
      have HK : Hid (k = len) := hkl
      clear hkl hnx
      go_wp2
      go_ret
      refine ⟨_, rfl, ?_, HB.out⟩
      have := Win.of_own hown
      rw [HL.out, HK.out] at this
      exact this

/-! ### firstKLookupB1 -/
theorem firstK (v : Value) (L : List Nat) (w : World) (h : Win w v L) :
    Calls Trym.prog 12 #[v] w fun e w' => ∃ v', e = .returned v' ∧ Win w v' (L.take 20) ∧ w' = w := by
  obtain ⟨a, cap, rfl, h2, h3, h4⟩ := h
  by_cases hl : 20 < L.length
  · obtain ⟨g, rfl, hg, _⟩ := h4 0 (by omega)
    have HW : Hid (Win w (.slice (some ⟨g, 0, none⟩) 20 cap) (L.take 20)) := by
      refine ⟨_, cap, by rw [List.length_take, Nat.min_eq_left (by omega)], by simp; omega, h3, fun j hj => ?_⟩
      rw [List.length_take, Nat.min_eq_left (by omega)] at hj
      obtain ⟨g', e1, e2, e3⟩ := h4 j (by omega)
      exact ⟨g', e1, e2, by rw [e3]; simp [List.getD, hj]⟩
    have hl' : (20 : Int) < (L.length : Int) := by omega
    clear h4
    go_enter Trym.func12, Trym.ntmps12
    go_wp2
    go_ret
    exact ⟨_, rfl, HW.out, rfl⟩
  · have HW : Hid (Win w (.slice a L.length cap) (L.take 20)) := by
      rw [List.take_of_length_le (by omega)]
      exact ⟨_, cap, rfl, h2, h3, h4⟩
    clear h4
    go_enter Trym.func12, Trym.ntmps12
    go_wp2
    go_ret
    exact ⟨_, rfl, HW.out, rfl⟩

end Go.Proofs.Qxb6601955aMods.Kad
