/-
  closest (function 21), ZZClosestB1 (15).
-/
import Derived.Test.Qxb6601955aModsKadPlain
import Derived.Test.Qxb6601955aModsKadMake
namespace Go.Proofs.Qxb6601955aMods.Kad
open Go.RowKit

theorem Trym.info45 : (Trym.prog.info? 45).map (fun i => (i.zero, i.size, i.bytes)) = some (some (.agg #[.string ByteArray.empty, .slice none 0 0]), 2, 40) := by kernel_rfl

/-- The cells of the answered candidates' AddrInfos. -/
def infos (I : Nat → ByteArray) (ad : Nat → Value) (G : List Nat) : List Value := G.flatMap fun i => [Value.string (I i), ad i]
theorem infos_snoc {I : Nat → ByteArray} {ad : Nat → Value} (G : List Nat) (k : Nat) : infos I ad (G ++ [k]) = infos I ad G ++ [.string (I k), ad k] := by simp [infos]

/-- What closest answers. -/
def Closest (w w' : World) (I : Nat → ByteArray) (ad : Nat → Value) (S : Nat → ByteArray) (len : Nat) (e : Ending) : Prop :=
  ∃ a cap, e = .returned (.slice a (ans S len).length cap) ∧ w'.ownsRow w.heap.size 45 2 (.slice a (ans S len).length cap) (ans S len).length (infos I ad (ans S len)) ∧ (ans S len = [] → a = none) ∧ Below w.heap.size w w'

theorem two_new (w : World) (x y : Value) (t : TypeId) : ∀ j u, [x, y][j]? = some u → (w.alloc (.cells #[x, y] t)).cell? ((⟨w.heap.size, 0, none⟩ : Addr).add j) = some u := fun j u hj => by
  have e : (⟨w.heap.size, 0, none⟩ : Addr).add j = ⟨w.heap.size, j, none⟩ := by unfold Addr.add; split <;> simp_all
  rw [e]
  exact cell_new (by simpa using hj)
theorem two_one (s : ByteArray) (A : Option Addr) (L : Nat) : ∀ u ∈ [Value.string s, Value.slice A L L], u.oneCell' = true := by
  intro u hu; simp at hu; rcases hu with rfl | rfl <;> rfl
theorem shape_of_own {w : World} {B e size n : Nat} {v : Value} {xs : List Value} (h : w.ownsRow B e size v n xs) : ∃ a cap, v = .slice a n cap := by
  obtain ⟨_, ⟨rfl, rfl⟩ | ⟨g, cap, cur, rfl, _⟩⟩ := h
  · exact ⟨_, _, rfl⟩
  · exact ⟨_, _, rfl⟩

theorem own_slice {w : World} {B e size n cap : Nat} {v : Value} {a : Option Addr} {xs : List Value} (h : w.ownsRow B e size v n xs) (hv : v = .slice a n cap) : w.ownsRow B e size (.slice a n cap) n xs := hv ▸ h

theorem closest_end {w wr : World} {I : Nat → ByteArray} {ad : Nat → Value} {S : Nat → ByteArray} {len k cap : Nat} {G : List Nat} {a : Option Addr} (hk : k ≤ len) (hG : G.length = 20 ∨ (k = len ∧ G.length ≤ 20))
    (hown : wr.ownsRow w.heap.size 45 2 (.slice a G.length cap) G.length (infos I ad G)) (hnil : G = [] → a = none) (hnx : Below w.heap.size w wr) (h : G = upTo (isA S) k) : Closest w wr I ad S len (.returned (.slice a G.length cap)) := by
  have e : ans S len = G := by
    unfold ans
    rcases hG with hG | ⟨rfl, hG⟩
    · rw [h]; exact take_stop hk (by rw [← h]; exact hG)
    · rw [h]; exact take_all (by rw [← h]; exact hG)
  exact ⟨a, cap, by rw [e], by rw [e]; exact hown, by rw [e]; exact hnil, hnx⟩

set_option maxHeartbeats 1600000 in
theorem closest_any (lk sb len C : Nat) (f ad : Nat → Value) (I S : Nat → ByteArray) (w : World) (hl : len ≤ 65536) (hc : w.cell? ⟨lk, 33, none⟩ = some (.slice (some ⟨sb, 0, none⟩) len len)) (hrow : w.rowIs sb 38 len f) (hm : Made w C f ad len I S) :
    Calls Trym.prog 21 #[.pointer (some ⟨lk, 0, none⟩)] w fun e w' => Closest w w' I ad S len e := by
  obtain ⟨i0, hi, hz0, hz1, hz2⟩ := info_parts Trym.info45
  have HM : Hid (w.rowIs sb 38 len f ∧ Made w C f ad len I S) := ⟨hrow, hm⟩
  clear hrow hm
  go_enter Trym.func21, Trym.ntmps21
  go_wp2
  go_loopw [3, 11] (fun v i wr => ∃ (k : Nat) (G : List Nat) (a : Option Addr) (cap : Nat), k ≤ len ∧ G.length ≤ 20 ∧ i = .int .i64 k ∧ v = .slice a G.length cap ∧
      wr.ownsRow w.heap.size 45 2 (.slice a G.length cap) G.length (infos I ad G) ∧ Below w.heap.size w wr ∧ Hid (G = upTo (isA S) k ∧ (G = [] → a = none))) (fun _ i _ => len - (intOf i).toNat)
  case atStart => exact ⟨0, [], none, 0, Nat.zero_le _, Nat.zero_le _, rfl, rfl, World.ownsRow_nil _ _ _ _, Below.refl _ _, ⟨rfl, fun _ => rfl⟩⟩
  case round =>
    obtain ⟨k, G, a, cap, hk, hG, rfl, rfl, hown, hnx, HE⟩ := hrel
    have HB : Hid (Below w.heap.size w wr) := hnx
    have hsz := hnx.size
    clear hc
    by_cases hlt : k < len
    · obtain ⟨b, A, L, hf, ha, hA, hCb, hb, c0, c1, c34⟩ := HM.out.2 k hlt
      have cr := (hnx.cell (p := ⟨sb, k, none⟩) (by exact HM.out.1.lt)).trans (HM.out.1.cell hlt)
      rw [hf] at cr
      have d0 := (hnx.cell (p := ⟨b, 0, none⟩) (by exact hb)).trans c0
      have d1 := (hnx.cell (p := ⟨b, 1, none⟩) (by exact hb)).trans c1
      have d34 := (hnx.cell (p := ⟨b, 34, none⟩) (by exact hb)).trans c34
      have HK : Hid (ad k = .slice A L L) := ha
      clear hf ha hA c0 c1 c34 hnx
      by_cases h20 : G.length = 20
      · have hq : ((G.length : Int) == 20) = true := by simp; omega
        have HQ : Hid (G.length = 20) := h20
        clear h20
        go_wp2
        go_ret
        exact closest_end (by omega) (.inl HQ.out) hown HE.out.2 HB.out HE.out.1
      · have hq : ((G.length : Int) == 20) = false := by simp; omega
        have hG' : G.length < 20 := by omega
        clear h20
        by_cases t2 : ((S k).toList == [97, 110, 115, 119, 101, 114, 101, 100]) = true
        · have HA : Hid (isA S k = true) := t2
          go_wp2_with (at_builtin; go_must (refine wpList_append_own _ rfl _ _ 39 rfl w.heap.size 45 i0 (.agg #[.string ByteArray.empty, .slice none 0 0]) 2 40 Trym.underlying39 hi hz0 hz1 hz2 rfl (by decide) _ _ _ rfl (hown.alloc _) ⟨wr.heap.size, 0, none⟩ 1 1 [.string (I k), .slice A L L] rfl rfl (two_new _ _ _ _) (two_one _ _ _) (by unfold maxLen; omega) (by omega) (by simp; omega) ?_); intro v' w1 hown' hgrow _)
          have HN : Hid (Below w.heap.size w w1) := push_below hown HB.out hsz hgrow
          obtain ⟨a', cap', hv⟩ := shape_of_own hown'
          have HO : Hid (v' = .slice a' (G ++ [k]).length cap' ∧ w1.ownsRow w.heap.size 45 2 (.slice a' (G ++ [k]).length cap') (G ++ [k]).length (infos I ad (G ++ [k]))) := by
            rw [infos_snoc, List.length_append, HK.out]; exact ⟨hv, own_slice hown' hv⟩
          clear hown hown' hgrow hv
          go_wp2
          go_roundw
          case rel => exact ⟨k + 1, G ++ [k], a', cap', by omega, by simp; omega, by go_num, HO.out.1, HO.out.2, HN.out, ⟨by rw [upTo_hit HA.out, HE.out.1], fun h => absurd h (by simp)⟩⟩
          case measure => simp [intOf]; omega
        · have t2' : ((S k).toList == [97, 110, 115, 119, 101, 114, 101, 100]) = false := by simpa using t2
          have HA : Hid (isA S k = false) := t2'
          clear t2
          go_wp2
          go_roundw
          case rel => exact ⟨k + 1, G, a, cap, by omega, by omega, by go_num, rfl, hown, HB.out, ⟨by rw [upTo_miss HA.out]; exact HE.out.1, HE.out.2⟩⟩
          case measure => simp [intOf]; omega
    · have hkl : k = len := by omega
      have HKL : Hid (k = len) := hkl
      clear hkl hnx
      go_wp2
      go_ret
      exact closest_end hk (.inr ⟨HKL.out, hG⟩) hown HE.out.2 HB.out HE.out.1

theorem zzclosest (lk sb len C : Nat) (f ad : Nat → Value) (I S : Nat → ByteArray) (w : World) (hl : len ≤ 65536) (hc : w.cell? ⟨lk, 33, none⟩ = some (.slice (some ⟨sb, 0, none⟩) len len)) (hrow : w.rowIs sb 38 len f) (hm : Made w C f ad len I S) :
    Calls Trym.prog 15 #[.pointer (some ⟨lk, 0, none⟩)] w fun e w' => Closest w w' I ad S len e := by
  have HM : Hid (w.rowIs sb 38 len f ∧ Made w C f ad len I S ∧ w.cell? ⟨lk, 33, none⟩ = some (.slice (some ⟨sb, 0, none⟩) len len)) := ⟨hrow, hm, hc⟩
  clear hrow hm hc
  go_enter Trym.func15, Trym.ntmps15
  go_wp2_with fail
  refine (closest_any lk sb len C f ad I S _ hl HM.out.2.2 HM.out.1 HM.out.2.1).mono ?_
  rintro e w1 ⟨a, cap, rfl, hown, hnil, hb⟩
  have HP : Hid (w1.ownsRow w.heap.size 45 2 (.slice a (ans S len).length cap) (ans S len).length (infos I ad (ans S len)) ∧ (ans S len = [] → a = none) ∧ Below w.heap.size w w1) := ⟨hown, hnil, hb⟩
  clear hown hnil hb
  go_wp2
  go_ret
  exact ⟨a, cap, rfl, HP.out.1, HP.out.2.1, HP.out.2.2⟩

end Go.Proofs.Qxb6601955aMods.Kad
