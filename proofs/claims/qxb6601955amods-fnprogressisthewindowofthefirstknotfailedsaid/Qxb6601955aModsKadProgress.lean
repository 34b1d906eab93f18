/-
  progress (function 20), ZZProgressB1 (11).
-/
import Derived.Test.Qxb6601955aModsKadPlain
import Derived.Test.Qxb6601955aModsKadMake
namespace Go.Proofs.Qxb6601955aMods.Kad
open Go.RowKit

/-- What progress answers: the slice of those to ask, and whether all of the window answered. -/
def Progressed (w w' : World) (f : Nat → Value) (S : Nat → ByteArray) (len : Nat) (e : Ending) : Prop :=
  ∃ v W, e = .returned (.tuple #[v, .bool ((win S len).all (isA S))]) ∧ W = (win S len).filter (isH S) ∧ w'.ownsRow w.heap.size 38 1 v W.length (W.map f) ∧ (W = [] → v = .slice none 0 0) ∧ Below w.heap.size w w'

theorem filter_snoc_yes {p : Nat → Bool} {F : List Nat} {k : Nat} (h : p k = true) : (F ++ [k]).filter p = F.filter p ++ [k] := by simp [List.filter_append, h]
theorem filter_snoc_no {p : Nat → Bool} {F : List Nat} {k : Nat} (h : p k = false) : (F ++ [k]).filter p = F.filter p := by simp [List.filter_append, h]
theorem all_snoc_yes {p : Nat → Bool} {F : List Nat} {k : Nat} (h : p k = true) : (F ++ [k]).all p = F.all p := by simp [h]
theorem all_snoc_no {p : Nat → Bool} {F : List Nat} {k : Nat} (h : p k = false) : (F ++ [k]).all p = false := by simp [h]
theorem map_snoc' {f : Nat → Value} (W : List Nat) (k : Nat) : (W ++ [k]).map f = W.map f ++ [f k] := by simp
theorem one_pointer (a : Option Addr) : ∀ u ∈ [Value.pointer a], u.oneCell' = true := by intro u hu; simp at hu; subst hu; rfl

/-- The end of the loop: the window is what has been gathered. -/
theorem progressed_end {w wr : World} {f : Nat → Value} {S : Nat → ByteArray} {len k : Nat} {F W : List Nat} {dn : Bool} {v : Value} (hk : k ≤ len) (hF : F.length = 20 ∨ (k = len ∧ F.length ≤ 20))
    (hown : wr.ownsRow w.heap.size 38 1 v W.length (W.map f)) (hnil : W = [] → v = .slice none 0 0) (hnx : Below w.heap.size w wr) (h : F = upTo (nf S) k ∧ W = F.filter (isH S) ∧ dn = F.all (isA S)) :
    Progressed w wr f S len (.returned (.tuple #[v, .bool dn])) := by
  obtain ⟨h1, h2, h3⟩ := h
  have e : win S len = F := by
    unfold win
    rcases hF with hF | ⟨rfl, hF⟩
    · rw [h1]; exact take_stop hk (by rw [← h1]; exact hF)
    · rw [h1]; exact take_all (by rw [← h1]; exact hF)
  exact ⟨v, W, by rw [e, h3], by rw [e, h2], hown, hnil, hnx⟩

set_option maxHeartbeats 1600000 in
theorem progress_any (lk sb len C : Nat) (f ad : Nat → Value) (I S : Nat → ByteArray) (w : World) (hl : len ≤ 65536) (hc : w.cell? ⟨lk, 33, none⟩ = some (.slice (some ⟨sb, 0, none⟩) len len)) (hrow : w.rowIs sb 38 len f) (hm : Made w C f ad len I S) :
    Calls Trym.prog 20 #[.pointer (some ⟨lk, 0, none⟩)] w fun e w' => Progressed w w' f S len e := by
  obtain ⟨i0, hi, hz0, hz1, hz2⟩ := info_parts Trym.info38
  have HM : Hid (w.rowIs sb 38 len f ∧ Made w C f ad len I S) := ⟨hrow, hm⟩
  clear hrow hm
  go_enter Trym.func20, Trym.ntmps20
  go_wp2
  go_loopw [2, 3, 4, 12] (fun v d n i wr => ∃ (k : Nat) (F W : List Nat) (dn : Bool), k ≤ len ∧ F.length ≤ 20 ∧ W.length ≤ F.length ∧ i = .int .i64 k ∧ n = .int .i64 (F.length : Nat) ∧ d = .bool dn ∧
      wr.ownsRow w.heap.size 38 1 v W.length (W.map f) ∧ (W = [] → v = .slice none 0 0) ∧ Below w.heap.size w wr ∧ Hid (F = upTo (nf S) k ∧ W = F.filter (isH S) ∧ dn = F.all (isA S))) (fun _ _ _ i _ => len - (intOf i).toNat)
  case atStart => exact ⟨0, [], [], true, Nat.zero_le _, Nat.zero_le _, Nat.le_refl _, rfl, rfl, rfl, World.ownsRow_nil _ _ _ _, fun _ => rfl, Below.refl _ _, ⟨rfl, rfl, rfl⟩⟩
  case round =>
    obtain ⟨k, F, W, dn, hk, hF, hWF, rfl, rfl, rfl, hown, hnil, hnx, HE⟩ := hrel
    have HB : Hid (Below w.heap.size w wr ∧ (W = [] → _)) := ⟨hnx, hnil⟩
    have hsz := hnx.size
    clear hc
    by_cases hlt : k < len
    · obtain ⟨b, A, L, hf, ha, hA, hCb, hb, c0, c1, c34⟩ := HM.out.2 k hlt
      have cr := (hnx.cell (p := ⟨sb, k, none⟩) (by exact HM.out.1.lt)).trans (HM.out.1.cell hlt)
      rw [hf] at cr
      have d34 := (hnx.cell (p := ⟨b, 34, none⟩) (by exact hb)).trans c34
      have HK : Hid (f k = .pointer (some ⟨b, 0, none⟩)) := hf
      clear hf ha hA c0 c1 c34 hnx hnil
      by_cases h20 : F.length = 20
      · have hq : ((F.length : Int) == 20) = true := by simp; omega
        have HQ : Hid (F.length = 20) := h20
        clear h20
        go_wp2
        go_ret2
        exact progressed_end (by omega) (.inl HQ.out) hown HB.out.2 HB.out.1 HE.out
      · have hq : ((F.length : Int) == 20) = false := by simp; omega
        have hF' : F.length < 20 := by omega
        clear h20
        by_cases t1 : ((S k).toList == [102, 97, 105, 108, 101, 100]) = true
        · have HP : Hid (nf S k = false) := by show (!fl (S k)) = false; unfold fl; rw [t1]; rfl
          go_wp2
          go_roundw
          case rel => exact ⟨k + 1, F, W, dn, by omega, hF, hWF, by go_num, rfl, rfl, hown, HB.out.2, HB.out.1, ⟨by rw [upTo_miss HP.out]; exact HE.out.1, HE.out.2.1, HE.out.2.2⟩⟩
          case measure => simp [intOf]; omega
        · have t1' : ((S k).toList == [102, 97, 105, 108, 101, 100]) = false := by simpa using t1
          have HP : Hid (nf S k = true) := by show (!fl (S k)) = true; unfold fl; rw [t1']; rfl
          clear t1
          by_cases t2 : ((S k).toList == [97, 110, 115, 119, 101, 114, 101, 100]) = true
          · have HA : Hid (isA S k = true) := t2
            by_cases t3 : ((S k).toList == [104, 101, 97, 114, 100]) = true
            · exfalso
              rw [beq_iff_eq] at t2 t3
              rw [t2] at t3
              exact absurd t3 (by decide)
            · have t3' : ((S k).toList == [104, 101, 97, 114, 100]) = false := by simpa using t3
              have HH : Hid (isH S k = false) := t3'
              clear t3
              go_wp2
              go_roundw
              case rel =>
                exact ⟨k + 1, F ++ [k], W, dn, by omega, by simp; omega, by simp; omega, by go_num, by simp, rfl, hown, HB.out.2, HB.out.1,
                  ⟨by rw [upTo_hit HP.out, HE.out.1], by rw [filter_snoc_no HH.out]; exact HE.out.2.1, by rw [all_snoc_yes HA.out]; exact HE.out.2.2⟩⟩
              case measure => simp [intOf]; omega
          · have t2' : ((S k).toList == [97, 110, 115, 119, 101, 114, 101, 100]) = false := by simpa using t2
            have HA : Hid (isA S k = false) := t2'
            clear t2
            by_cases t3 : ((S k).toList == [104, 101, 97, 114, 100]) = true
            · have HH : Hid (isH S k = true) := t3
              go_wp2_with (at_builtin; go_must (refine wpList_append_own _ rfl _ _ 29 rfl w.heap.size 38 i0 (.pointer none) 1 8 Trym.underlying29 hi hz0 hz1 hz2 rfl (by decide) _ _ _ rfl (hown.alloc _) ⟨wr.heap.size, 0, none⟩ 1 1 [.pointer (some ⟨b, 0, none⟩)] rfl rfl (cell_one_new _ _ _) (one_pointer _) (by unfold maxLen; omega) (by omega) (by simp; omega) ?_); intro v' w1 hown' hgrow _)
              have HN : Hid (Below w.heap.size w w1) := push_below hown HB.out.1 hsz hgrow
              have HO : Hid (w1.ownsRow w.heap.size 38 1 v' (W ++ [k]).length ((W ++ [k]).map f)) := by rw [map_snoc', List.length_append, HK.out]; exact hown'
              clear hown hown' hgrow
              go_wp2
              go_roundw
              case rel =>
                exact ⟨k + 1, F ++ [k], W ++ [k], false, by omega, by simp; omega, by simp; omega, by go_num, by simp, rfl, HO.out, fun h => absurd h (by simp), HN.out,
                  ⟨by rw [upTo_hit HP.out, HE.out.1], by rw [filter_snoc_yes HH.out, ← HE.out.2.1], by rw [all_snoc_no HA.out]⟩⟩
              case measure => simp [intOf]; omega
            · have t3' : ((S k).toList == [104, 101, 97, 114, 100]) = false := by simpa using t3
              have HH : Hid (isH S k = false) := t3'
              clear t3
              go_wp2
              go_roundw
              case rel =>
                exact ⟨k + 1, F ++ [k], W, false, by omega, by simp; omega, by simp; omega, by go_num, by simp, rfl, hown, HB.out.2, HB.out.1,
                  ⟨by rw [upTo_hit HP.out, HE.out.1], by rw [filter_snoc_no HH.out]; exact HE.out.2.1, by rw [all_snoc_no HA.out]⟩⟩
              case measure => simp [intOf]; omega
    · have hkl : k = len := by omega
      have HKL : Hid (k = len) := hkl
      clear hkl hnx hnil
      go_wp2
      go_ret2
      exact progressed_end hk (.inr ⟨HKL.out, hF⟩) hown HB.out.2 HB.out.1 HE.out

theorem zzprogress (lk sb len C : Nat) (f ad : Nat → Value) (I S : Nat → ByteArray) (w : World) (hl : len ≤ 65536) (hc : w.cell? ⟨lk, 33, none⟩ = some (.slice (some ⟨sb, 0, none⟩) len len)) (hrow : w.rowIs sb 38 len f) (hm : Made w C f ad len I S) :
    Calls Trym.prog 11 #[.pointer (some ⟨lk, 0, none⟩)] w fun e w' => Progressed w w' f S len e := by
  have HM : Hid (w.rowIs sb 38 len f ∧ Made w C f ad len I S ∧ w.cell? ⟨lk, 33, none⟩ = some (.slice (some ⟨sb, 0, none⟩) len len)) := ⟨hrow, hm, hc⟩
  clear hrow hm hc
  go_enter Trym.func11, Trym.ntmps11
  go_wp2_with fail
  refine (progress_any lk sb len C f ad I S _ hl HM.out.2.2 HM.out.1 HM.out.2.1).mono ?_
  rintro e w1 ⟨v, W, rfl, hW, hown, hnil, hb⟩
  have HP : Hid (W = (win S len).filter (isH S) ∧ w1.ownsRow w.heap.size 38 1 v W.length (W.map f) ∧ (W = [] → v = .slice none 0 0) ∧ Below w.heap.size w w1) := ⟨hW, hown, hnil, hb⟩
  clear hW hown hnil hb
  go_wp2
  go_ret2
  exact ⟨v, W, rfl, HP.out.1, HP.out.2.1, HP.out.2.2.1, HP.out.2.2.2⟩

end Go.Proofs.Qxb6601955aMods.Kad
