/-
  THE WALKS OF FnNameEndStopsAtFirstStop (function 3) AND FnQuotedEndMatchesSkippingModel (5), the copy given in one form ('Lies').
-/
import Derived.Test.Qxb6602400aModsScanWalks
namespace Go.Proofs.Qxb6602400aMods.Scan
open Go.RowKit

theorem Lies.below {w w' : World} {a : Option Addr} {n : Nat} {zs : List Int} (h : Lies w a n zs) (hb : Below w.heap.size w w') : Lies w' a n zs := fun j hj => by
  obtain ⟨g, h1, h2, h3, h4⟩ := h j hj
  exact ⟨g, h1, Nat.lt_of_lt_of_le h2 hb.size, (hb.cell (by exact h2)).trans h3, h4⟩

/-- What the copy leaves. -/
def Copied (w w' : World) (len : Nat) (zs : List Int) (e : Ending) : Prop := ∃ ta, e = .returned (.slice ta len len) ∧ Lies w' ta len zs ∧ Below w.heap.size w w'

set_option maxHeartbeats 400000 in
theorem name_main (a : Option Addr) (len cap : Nat) (zs : List Int) (w : World) (hm : len ≤ 1048576) (hcopy : Calls Trym.prog 11 #[.slice a len cap] w fun e w' => Copied w w' len zs e) :
    Calls Trym.prog 3 #[.slice a len cap] w fun e w' => e = .returned (.bool true) ∧ Below w.heap.size w w' := by
  have HC : Hid (Calls Trym.prog 11 #[.slice a len cap] w fun e w' => Copied w w' len zs e) := hcopy
  clear hcopy
  have t1 : decide ((1048576 : Int) < (len : Int)) = false := decide_eq_false (by omega)
  go_enter Trym.func3, Trym.ntmps3
  go_wp2_with fail
  refine (guard10_yes _ _ _ _ hm).mono ?_
  rintro e w0 ⟨rfl, rfl⟩
  go_wp2_with fail
  refine Calls.mono HC.out ?_
  rintro e w1 ⟨ta, rfl, hlies, hbel⟩
  have HL : Hid (Lies w1 ta len zs ∧ Below w0.heap.size w0 w1) := ⟨hlies, hbel⟩
  clear hlies hbel HC
  go_wp2_with fail
  refine (zzNameEnd ta len len zs _ hm HL.out.1).mono ?_
  rintro e w2 ⟨⟨n, rfl, hn, hno, hst⟩, rfl⟩
  have HN : Hid ((∀ j, j < n → ¬ Stop (zs.getD j 0)) ∧ (n < len → Stop (zs.getD n 0))) := ⟨hno, hst⟩
  have t2 : decide ((n : Int) < 0) = false := decide_eq_false (by omega)
  have t3 : decide ((len : Int) < (n : Int)) = false := decide_eq_false (by omega)
  have t3' : decide (len < n) = false := decide_eq_false (by omega)
  clear hno hst
  go_wp2_with fail
  go_loopw [4] (fun i wr => ∃ k : Nat, k ≤ n ∧ i = .int .i64 k ∧ Below w2.heap.size w2 wr) (fun i _ => n - (intOf i).toNat)
  case atStart => exact ⟨0, Nat.zero_le _, rfl, Below.refl _ _⟩
  case round =>
    obtain ⟨k, hk, rfl, hnx⟩ := hrel
    have HB : Hid (Below w2.heap.size w2 wr) := hnx
    clear hnx
    by_cases hlt : k < n
    · obtain ⟨g, hta, hg, hcell, hz0, hz1⟩ := HL.out.1.below HB.out k (by omega)
      subst hta
      obtain ⟨c, hcc⟩ : ∃ c, zs.getD k 0 = c := ⟨_, rfl⟩
      have HS : Hid (¬ Stop c) := by rw [← hcc]; exact HN.out.1 k hlt
      rw [hcc] at hcell hz0 hz1
      clear hcc
      go_wp2_with (go_at_call 13; refine (stop_no c _ HS.out).mono ?_; rintro e w3 ⟨rfl, rfl⟩)
      go_roundw
      case rel => exact ⟨k + 1, by omega, by go_num, HB.out⟩
      case measure => simp [intOf]; omega
    · by_cases hnl : n = len
      · have q1 : ((n : Int) == (len : Int)) = true := by simp [hnl]
        clear hnl
        go_wp2_with fail
        go_ret
        exact ⟨rfl, HL.out.2.trans (HB.out.mono HL.out.2.size)⟩
      · have q1 : ((n : Int) == (len : Int)) = false := by simp; omega
        have hnlt : n < len := by omega
        clear hnl
        obtain ⟨g, hta, hg, hcell, hz0, hz1⟩ := HL.out.1.below HB.out n hnlt
        subst hta
        obtain ⟨c, hcc⟩ : ∃ c, zs.getD n 0 = c := ⟨_, rfl⟩
        have HS : Hid (Stop c) := by rw [← hcc]; exact HN.out.2 hnlt
        rw [hcc] at hcell hz0 hz1
        clear hcc
        go_wp2_with (go_at_call 13; refine (stop_yes c _ HS.out).mono ?_; rintro e w3 ⟨rfl, rfl⟩)
        go_ret
        exact ⟨rfl, HL.out.2.trans (HB.out.mono HL.out.2.size)⟩

theorem name_long (a : Option Addr) (len cap : Nat) (w : World) (hm : ¬ len ≤ 1048576) :
    Calls Trym.prog 3 #[.slice a len cap] w fun e w' => e = .returned (.bool true) ∧ Below w.heap.size w w' := by
  go_enter Trym.func3, Trym.ntmps3
  go_wp2_with fail
  refine (guard10_no _ _ _ _ hm).mono ?_
  rintro e w0 ⟨rfl, rfl⟩
  go_wp2
  go_ret
  exact ⟨rfl, Below.refl _ _⟩

set_option maxHeartbeats 400000 in
theorem quoted_main (a : Option Addr) (len cap : Nat) (zs : List Int) (w : World) (hm : len ≤ 1048576) (hz : len = zs.length) (hcopy : Calls Trym.prog 11 #[.slice a len cap] w fun e w' => Copied w w' len zs e) :
    Calls Trym.prog 5 #[.slice a len cap] w fun e w' => e = .returned (.bool true) ∧ Below w.heap.size w w' := by
  have HC : Hid (Calls Trym.prog 11 #[.slice a len cap] w fun e w' => Copied w w' len zs e) := hcopy
  have HZ : Hid (len = zs.length) := hz
  clear hcopy hz
  go_enter Trym.func5, Trym.ntmps5
  go_wp2_with fail
  refine (guard15_yes _ _ _ _ hm).mono ?_
  rintro e w0 ⟨rfl, rfl⟩
  go_wp2_with fail
  refine Calls.mono HC.out ?_
  rintro e w1 ⟨ta, rfl, hlies, hbel⟩
  have HL : Hid (Lies w1 ta len zs ∧ Below w0.heap.size w0 w1) := ⟨hlies, hbel⟩
  clear hlies hbel HC
  go_wp2_with fail
  refine (zzQuotedEnd ta len len zs _ hm HZ.out HL.out.1).mono ?_
  rintro e w2 ⟨rfl, rfl⟩
  go_wp2_with fail
  refine (model_any ta len len zs _ hm HZ.out HL.out.1).mono ?_
  rintro e w3 ⟨rfl, rfl⟩
  go_wp2
  go_ret
  exact ⟨by simp, HL.out.2⟩
theorem quoted_long (a : Option Addr) (len cap : Nat) (w : World) (hm : ¬ len ≤ 1048576) :
    Calls Trym.prog 5 #[.slice a len cap] w fun e w' => e = .returned (.bool true) ∧ Below w.heap.size w w' := by
  go_enter Trym.func5, Trym.ntmps5
  go_wp2_with fail
  refine (guard15_no _ _ _ _ hm).mono ?_
  rintro e w0 ⟨rfl, rfl⟩
  go_wp2
  go_ret
  exact ⟨rfl, Below.refl _ _⟩

end Go.Proofs.Qxb6602400aMods.Scan
