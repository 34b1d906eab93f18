/-
  THE WALK OF FnDistinctMatchesFirstOccurrenceModel (function 3).
-/
import Derived.Test.Qxb6603213aModsDistWalks
import Derived.Deep.QuietTactic
import Derived.BigQuiet
namespace Go.Proofs.Qxb6603213aMods.Dist
open Go.RowKit

/-- A slice of one-cell elements in new memory: nil or not; element j holds 'F j'. -/
def Row1 (w : World) (a : Option Addr) (n : Nat) (F : Nat → Value) : Prop := ∀ j, j < n → ∃ g, a = some ⟨g, 0, none⟩ ∧ g < w.heap.size ∧ w.cell? ⟨g, j, none⟩ = some (F j)
theorem Row1.below {w w' : World} {a : Option Addr} {n : Nat} {F : Nat → Value} (h : Row1 w a n F) (hb : Below w.heap.size w w') : Row1 w' a n F := fun j hj => by
  obtain ⟨g, h1, h2, h3⟩ := h j hj
  exact ⟨g, h1, Nat.lt_of_lt_of_le h2 hb.size, (hb.cell (by exact h2)).trans h3⟩
theorem Row1.of_own {w : World} {B e : Nat} {v : Value} {W : List Nat} {f : Nat → Value} (h : w.ownsRow B e 1 v W.length (W.map f)) (hnil : W = [] → v = .slice none 0 0) :
    ∃ a cap, v = .slice a W.length cap ∧ (W = [] → a = none) ∧ Row1 w a W.length (fun j => f (W.getD j 0)) := by
  have h' := h
  obtain ⟨_, ⟨rfl, h0⟩ | ⟨g, cap, cur, rfl, _, hg, _⟩⟩ := h
  · exact ⟨none, 0, by rw [h0], fun _ => rfl, fun j hj => absurd hj (by omega)⟩
  · refine ⟨_, cap, rfl, fun e => by have := hnil e; simp at this, fun j hj => ⟨g, rfl, (Array.getElem?_eq_some_iff.1 hg).1, ?_⟩⟩
    rw [h'.cellAt j (by omega)]
    simp [List.getD, hj]

/-- What the copy leaves. -/
def Copied (w w' : World) (len : Nat) (P : Nat → ByteArray) (e : Ending) : Prop := ∃ ta, e = .returned (.slice ta len len) ∧ Strs w' ta len P ∧ Below w.heap.size w w'
theorem copied_nil (P : Nat → ByteArray) (w : World) : Calls Trym.prog 7 #[.slice none 0 0] w fun e w' => Copied w w' 0 P e := by
  refine (copy_nil w).mono ?_
  rintro e w' ⟨rfl, rfl⟩
  exact ⟨none, rfl, fun j hj => absurd hj (by omega), Below.refl _ _⟩
theorem copied_some (x : Addr) (len cap : Nat) (P : Nat → ByteArray) (w : World) (hm : len ≤ 4096) (hc : Strs w (some x) len P) : Calls Trym.prog 7 #[.slice (some x) len cap] w fun e w' => Copied w w' len P e := by
  refine (copy_some x len cap P w hm hc).mono ?_
  rintro e w' ⟨rfl, hrow, hbel⟩
  exact ⟨_, rfl, fun j hj => ⟨w.heap.size, 0, rfl, hrow.lt, by rw [Nat.zero_add]; exact hrow.cell hj, (hc j hj).elim fun b h => h.elim fun off h => h.2.2.2⟩, hbel⟩

set_option maxHeartbeats 1600000 in
theorem dist_main (a : Option Addr) (len cap : Nat) (P : Nat → ByteArray) (w : World) (hc : Strs w a len P) (hl : len ≤ 9223372036854775807) (hcopy : len ≤ 4096 → Calls Trym.prog 7 #[.slice a len cap] w fun e w' => Copied w w' len P e) :
    Calls Trym.prog 3 #[.slice a len cap] w fun e w' => e = .returned (.bool true) ∧ Below w.heap.size w w' := by
  have HC : Hid (Strs w a len P) := hc
  have HY : Hid (len ≤ 4096 → Calls Trym.prog 7 #[.slice a len cap] w fun e w' => Copied w w' len P e) := hcopy
  clear hc hcopy
  have hq := fun (w : World) (a : Option Addr) (n c n' c' : Nat) => Lib.run_eql_slice_nil (P := Trym.prog) w 22 9 a n c n' c' Trym.underlying22
  by_cases h4 : len ≤ 4096
  · have t1 : decide ((4096 : Int) < (len : Int)) = false := decide_eq_false (by omega)
    go_enter Trym.func3, Trym.ntmps3
    go_wp2_with fail
    refine (bytes5 a len cap P _ HC.out hl).mono ?_
    rintro e w0 ⟨⟨bo, rfl⟩, rfl⟩
    cases bo
    · go_wp2
      go_ret
      exact ⟨rfl, Below.refl _ _⟩
    go_wp2_with fail
    refine (bytes6 a len cap P _ HC.out h4).mono ?_
    rintro e w0 ⟨⟨t, rfl⟩, rfl⟩
    by_cases ht : 1048576 < t
    · go_wp2
      go_ret
      exact ⟨rfl, Below.refl _ _⟩
    have t2 : decide ((1048576 : Int) < t) = false := decide_eq_false ht
    clear ht
    go_wp2_with fail
    refine Calls.mono (HY.out h4) ?_
    rintro e w1 ⟨ta, rfl, hs1, hb1⟩
    have HS : Hid (Strs w1 ta len P ∧ Below w0.heap.size w0 w1) := ⟨hs1, hb1⟩
    clear hs1 hb1 HC HY
    go_wp2_with fail
    refine (zzdistinct ta len len P _ h4 HS.out.1).mono ?_
    rintro e w2 ⟨v, rfl, hown, hnil, hb2⟩
    obtain ⟨av, cv, rfl, hav, hrow⟩ := Row1.of_own hown hnil
    obtain ⟨L, hL⟩ : ∃ L, firsts P len = L := ⟨_, rfl⟩
    rw [hL] at hav hrow ⊢
    have HK : Hid (firsts P len = L ∧ (L = [] → av = none) ∧ Row1 w2 av L.length (fun j => .string (P (L.getD j 0))) ∧ Strs w2 ta len P ∧ Below w0.heap.size w0 w2) :=
      ⟨hL, hav, hrow, HS.out.1.below hb2, HS.out.2.trans (hb2.mono HS.out.2.size)⟩
    have hLl : L.length ≤ len := by rw [← hL]; exact firsts_le P len
    clear hown hnil hb2 hav hrow hL HS
    by_cases h0 : len = 0
    · have hL0 : L = [] := List.eq_nil_of_length_eq_zero (by omega)
      have hav := HK.out.2.1 hL0
      subst hav
      have q0 : ((len : Int) == 0) = true := by simp [h0]
      clear hL0 h0
      go_wp2
      go_ret
      exact ⟨rfl, HK.out.2.2.2.2⟩
    · have q0 : ((len : Int) == 0) = false := by simp [h0]
      clear h0
      go_wp2_with fail
      go_loopw [4, 5] (fun kv iv wr => ∃ (i kk : Nat), i ≤ len ∧ kk ≤ i ∧ kv = .int .i64 kk ∧ iv = .int .i64 i ∧ Below w2.heap.size w2 wr ∧ Hid (kk = (firsts P i).length)) (fun _ iv _ => len - (intOf iv).toNat)
      case atStart => exact ⟨0, 0, Nat.zero_le _, Nat.le_refl _, rfl, rfl, Below.refl _ _, (rfl : 0 = (firsts P 0).length)⟩
      case round =>
        obtain ⟨i, kk, hi, hkk, rfl, rfl, hnx, HE⟩ := hrel
        have HB : Hid (Below w2.heap.size w2 wr) := hnx
        clear hnx
        by_cases hlt : i < len
        · obtain ⟨b, off, hta, hb, ci, _⟩ := HK.out.2.2.2.1 i hlt
          subst hta
          go_wp2_with fail
          go_loopw [6, 7] (fun fv jv wr => ∃ m : Nat, m ≤ i ∧ fv = .bool true ∧ jv = .int .i64 m ∧ Below w2.heap.size w2 wr ∧ Hid (∀ m', m' < m → (P m').toList ≠ (P i).toList)) (fun _ jv _ => i - (intOf jv).toNat)
          case atStart => exact ⟨0, Nat.zero_le _, rfl, rfl, HB.out, fun m' h => absurd h (by omega)⟩
          case round =>
            clear HB
            obtain ⟨m, hm, rfl, rfl, hnx, HN⟩ := hrel
            have HB : Hid (Below w2.heap.size w2 wr) := hnx
            have ci' := (hnx.cell (p := ⟨b, off + i, none⟩) (by exact hb)).trans ci
            by_cases hmi : m < i
            · obtain ⟨b', off', hta, hb', cm, _⟩ := HK.out.2.2.2.1 m (by omega)
              simp at hta
              obtain ⟨rfl, rfl⟩ := hta
              have cm' := (hnx.cell (p := ⟨b, off + m, none⟩) (by exact hb)).trans cm
              have g1 : (m : Int) < (len : Int) := by omega
              have g2 : (i : Int) < (len : Int) := by omega
              clear cm hnx
              by_cases hs : (P m).toList = (P i).toList
              · have s1 : ((P m).toList == (P i).toList) = true := by simp [hs]
                have HSE : Hid (seen P i (P i).toList = true) := seen_of hmi hs
                clear hs
                go_wp2
                go_quiet (fail)
                go_wp2
                go_roundw
                case rel => exact ⟨i + 1, kk, by omega, by omega, rfl, by go_num, below_drewN HB.out _, (show kk = _ by rw [firsts_miss HSE.out]; exact HE.out)⟩
                case measure => simp [intOf]; omega
              · have s1 : ((P m).toList == (P i).toList) = false := by simp [hs]
                have HNE : Hid ((P m).toList ≠ (P i).toList) := hs
                clear hs
                go_wp2
                go_quiet (fail)
                go_wp2
                go_roundw
                case rel => exact ⟨m + 1, by omega, rfl, by go_num, below_drewN HB.out _, fun m' h => by
                  by_cases e : m' = m
                  · rw [e]; exact HNE.out
                  · exact HN.out m' (by omega)⟩
                case measure => simp [intOf]; omega
            · have HSE : Hid (seen P i (P i).toList = false) := seen_not fun m' h => HN.out m' (by omega)
              have hat := firsts_at hlt HSE.out
              rw [HK.out.1, ← HE.out] at hat
              obtain ⟨hk1, hk2⟩ := hat
              obtain ⟨g, rfl, hg, cg⟩ := HK.out.2.2.1 kk hk1
              have cg' : wr.cell? ⟨g, kk, none⟩ = some (.string (P (L.getD kk 0))) := (hnx.cell (p := ⟨g, kk, none⟩) (by exact hg)).trans cg
              rw [hk2] at cg'
              clear hnx cg hk2
              have g1 : decide ((L.length : Int) ≤ (kk : Int)) = false := decide_eq_false (by omega)
              have g2 : (kk : Int) < (L.length : Int) := by omega
              have g3 : (i : Int) < (len : Int) := by omega
              have s1 : (!(P i).toList == (P i).toList) = false := by simp
              go_wp2
              go_quiet (fail)
              go_wp2
              go_roundw
              case rel => exact ⟨i + 1, kk + 1, by omega, by omega, by go_num, by go_num, below_drewN HB.out _, (show kk + 1 = _ by rw [firsts_hit HSE.out, List.length_append, ← HE.out]; rfl)⟩
              case measure => simp [intOf]; omega
        · have hil : i = len := by omega
          have hkL : kk = L.length := by rw [HE.out, hil, HK.out.1]
          have q1 : ((kk : Int) == (L.length : Int)) = true := by simp [hkL]
          clear hil hkL
          go_wp2
          go_ret
          exact ⟨rfl, HK.out.2.2.2.2.trans (HB.out.mono HK.out.2.2.2.2.size)⟩
  · go_enter Trym.func3, Trym.ntmps3
    go_wp2_with fail
    refine (bytes5 a len cap P _ HC.out hl).mono ?_
    rintro e w0 ⟨⟨bo, rfl⟩, rfl⟩
    cases bo
    · go_wp2
      go_ret
      exact ⟨rfl, Below.refl _ _⟩
    · go_wp2
      go_ret
      exact ⟨rfl, Below.refl _ _⟩

end Go.Proofs.Qxb6603213aMods.Dist
