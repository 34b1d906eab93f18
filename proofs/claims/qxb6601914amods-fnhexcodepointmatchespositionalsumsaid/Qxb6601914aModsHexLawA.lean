/-
  THE WALK OF FnHexCodePointMatchesPositionalSum (function 3), at a slice that is not nil: the digits that are asked for lie within it ('walk_some'), or not ('walk_short').
-/
import Derived.Test.Qxb6601914aModsHexWalks
namespace Go.Proofs.Qxb6601914aMods.Hex
open Go.RowKit

theorem sum_step {l : List Int} {m : Nat} (h : m < l.length) :
    (ev (l.drop (m + 1)) % 4294967296 + hexv (l.getD m 0) * (16 ^ (l.length - (m + 1)) % 4294967296) % 4294967296) % 4294967296 = ev (l.drop m) % 4294967296 := by
  have e : hexv (l.getD m 0) * (16 ^ (l.length - (m + 1)) % 4294967296) % 4294967296 = hexv (l.getD m 0) * 16 ^ (l.length - (m + 1)) % 4294967296 := by
    rw [Int.mul_emod, Int.emod_emod_of_dvd _ (Int.dvd_refl _), ← Int.mul_emod]
  rw [ev_drop h, e, ← Int.add_emod, Int.add_comm]
theorem pow_step {n q : Nat} (h : q + 1 ≤ n) : (16 : Int) ^ (n - (q + 1)) % 4294967296 * 16 % 4294967296 = 16 ^ (n - q) % 4294967296 := by
  rw [show n - q = n - (q + 1) + 1 from by omega, Int.pow_succ, Int.mul_emod ((16 : Int) ^ (n - (q + 1))), Int.mul_emod ((16 : Int) ^ (n - (q + 1)) % 4294967296), Int.emod_emod_of_dvd _ (Int.dvd_refl _)]
theorem good_at {l : List Int} {q : Nat} (h : good l) (hq : q < l.length) : 0 ≤ hexv (l.getD q 0) := by
  refine h _ ?_
  rw [show l.getD q 0 = l[q] from by simp [List.getD, hq]]
  exact List.getElem_mem _
theorem take_getD {zs : List Int} {n q : Nat} (h : q < n) : (zs.take n).getD q 0 = zs.getD q 0 := by
  simp [List.getD, h]
theorem good_drop {l : List Int} {q : Nat} (hq : q < l.length) (h : 0 ≤ hexv (l.getD q 0)) (g : good (l.drop (q + 1))) : good (l.drop q) := by
  rw [List.drop_eq_getElem_cons hq]
  intro x hx
  rcases List.mem_cons.1 hx with rfl | hx
  · rw [show l.getD q 0 = l[q] from by simp [List.getD, hq]] at h; exact h
  · exact g x hx

set_option maxHeartbeats 400000 in
theorem walk_some (b off len cap : Nat) (spot : Option Nat) (zs : List Int) (d : Int) (w : World) (hm : len ≤ 1048576) (hz : len ≤ zs.length) (hd0 : 0 ≤ d) (hd1 : d ≤ len) (hb : 0 < len → b < w.heap.size)
    (hc : ∀ j, j < len → spot = none ∧ w.cell? ⟨b, off + j, none⟩ = some (.int .u8 (zs.getD j 0))) (hwf : ∀ j, j < len → 0 ≤ zs.getD j 0 ∧ zs.getD j 0 ≤ 255) :
    Calls Trym.prog 3 #[.slice (some ⟨b, off, spot⟩) len cap, .int .i64 d] w fun e w' => e = .returned (.bool true) ∧ Below w.heap.size w w' := by
  obtain ⟨n, rfl⟩ := Int.eq_ofNat_of_zero_le hd0
  have hn : n ≤ len := by omega
  have HC : Hid (∀ j, j < len → spot = none ∧ w.cell? ⟨b, off + j, none⟩ = some (.int .u8 (zs.getD j 0))) := hc
  have HW : Hid (∀ j, j < len → 0 ≤ zs.getD j 0 ∧ zs.getD j 0 ≤ 255) := hwf
  clear hc hwf
  have t1 : decide ((1048576 : Int) < (len : Int)) = false := decide_eq_false (by omega)
  have t2 : decide ((n : Int) < 0) = false := decide_eq_false (by omega)
  have t3 : decide (len < n) = false := decide_eq_false (by omega)
  go_enter Trym.func3, Trym.ntmps3
  go_wp2_with fail
  refine (guard10_yes _ _ _ _ _ hm).mono ?_
  rintro e w' ⟨rfl, rfl⟩
  go_wp2_with fail
  refine (copy_some b off len cap spot zs _ hm hb HC.out).mono ?_
  rintro e w1 ⟨rfl, hrow, hbel⟩
  go_wp2_with fail
  have HR : Hid (∀ j, j < len → w1.cell? ⟨w'.heap.size, 0 + j, none⟩ = some (.int .u8 (zs.getD j 0))) := fun j hj => by rw [Nat.zero_add]; exact hrow.cell hj
  refine (zz_some w'.heap.size 0 len len n zs w1 hn (Nat.le_refl _) hz (by omega) HR.out).mono ?_
  rintro e w2 ⟨⟨hg, rfl⟩ | ⟨hg, rfl⟩, rfl⟩
  · have HG : Hid (good (zs.take n)) := hg
    clear hg
    go_wp2_with fail
    go_loopw [7, 8, 9] (fun v g k wr => ∃ (m : Nat) (vi gi : Int), m ≤ n ∧ v = .int .u32 vi ∧ g = .int .u32 gi ∧ vi = ev ((zs.take n).drop m) % 4294967296 ∧ gi = 16 ^ (n - m) % 4294967296 ∧ ((∃ q : Nat, m = q + 1 ∧ k = .int .i64 (q : Int)) ∨ (m = 0 ∧ k = .int .i64 (-1))) ∧ wr.rowIs w'.heap.size 5 len (fun j => .int .u8 (zs.getD j 0)) ∧ Below w'.heap.size w' wr)
      (fun _ _ k _ => (intOf k + 1).toNat)
    case atStart =>
      refine ⟨n, 0, 1, Nat.le_refl _, rfl, rfl, by simp [ev], by simp, ?_, hrow, hbel⟩
      rcases Nat.eq_zero_or_eq_succ_pred n with h | h
      · right; subst h; exact ⟨rfl, rfl⟩
      · left; exact ⟨n - 1, h, by rw [h]; go_num⟩
    case round =>
      clear hrow hbel HR HC
      obtain ⟨m, v, g, hmn, rfl, rfl, hv, hgg, hk, hrow, hbel⟩ := hrel
      have HB : Hid (Below w'.heap.size w' wr ∧ wr.rowIs w'.heap.size 5 len (fun j => .int .u8 (zs.getD j 0))) := ⟨hbel, hrow⟩
      clear hbel
      have b1 : 0 ≤ v ∧ v < 4294967296 := by omega
      have b2 : 0 ≤ g ∧ g < 4294967296 := by omega
      have HV : Hid (v = ev ((zs.take n).drop m) % 4294967296) := hv
      have HGG : Hid (g = 16 ^ (n - m) % 4294967296) := hgg
      clear hv hgg
      obtain ⟨b1a, b1b⟩ := b1
      obtain ⟨b2a, b2b⟩ := b2
      rcases hk with ⟨q, rfl, rfl⟩ | ⟨rfl, rfl⟩
      · have hcq := hrow.cell (i := q) (by omega)
        have hwq := HW.out q (by omega)
        obtain ⟨c, hcc⟩ : ∃ c, c = zs.getD q 0 := ⟨_, rfl⟩
        rw [← hcc] at hcq hwq
        obtain ⟨hw0, hw1⟩ := hwq
        obtain ⟨hxa, hxb⟩ := hexv_lt c
        have HCC : Hid ((zs.take n).getD q 0 = c) := by rw [hcc]; exact take_getD (by omega)
        have HL : Hid (q < (zs.take n).length) := by show q < (zs.take n).length; simp; omega
        have HS : Hid ((v + hexv c * g % 4294967296) % 4294967296 = ev ((zs.take n).drop q) % 4294967296) := by
          have := sum_step (l := zs.take n) (m := q) HL.out
          rw [HCC.out, List.length_take, Nat.min_eq_left (by omega)] at this
          rw [HV.out, HGG.out]
          exact this
        have HP : Hid (g * 16 % 4294967296 = 16 ^ (n - q) % 4294967296) := by rw [HGG.out]; exact pow_step hmn
        have HK : Hid (((∃ q_1 : Nat, q = q_1 + 1 ∧ Value.int IntKind.i64 ((q : Int) - 1) = Value.int IntKind.i64 (q_1 : Int)) ∨ (q = 0 ∧ Value.int IntKind.i64 ((q : Int) - 1) = Value.int IntKind.i64 (-1)))) := by
          rcases Nat.eq_zero_or_eq_succ_pred q with h | h
          · right; subst h; exact ⟨rfl, rfl⟩
          · left; exact ⟨q - 1, h, by rw [h]; go_num⟩
        clear hrow hcc HV HGG
        have hx0 : 0 ≤ hexv c := by
          have := good_at HG.out HL.out
          rwa [HCC.out] at this
        have hdig := fun w => digit_any c w hw0 hw1
        generalize hexv c = d at *
        have HDG : Hid (∀ w, Calls Trym.prog 13 #[.int .u8 c] w fun e w' => e = .returned (.int .i64 d) ∧ w' = w) := hdig
        clear hdig
        go_wp2_with (go_at_call 13; refine Calls.mono (HDG.out _) ?_; rintro e w3 ⟨rfl, rfl⟩)
        go_roundw
        case rel => exact ⟨q, _, _, by omega, rfl, rfl, HS.out, HP.out, HK.out, HB.out.2, HB.out.1⟩
        case measure => simp [intOf]
      · go_wp2
        go_ret
        refine ⟨?_, HB.out.1⟩
        show Ending.returned (.bool (wrap32 (ev (List.take n zs) % 4294967296) == wrap32 v)) = _
        rw [HV.out]; simp
  · have HG : Hid (∃ c ∈ zs.take n, hexv c < 0) := hg
    clear hg
    go_wp2_with fail
    go_loopw [7, 8, 9] (fun v g k wr => ∃ (m : Nat) (vi gi : Int), m ≤ n ∧ v = .int .u32 vi ∧ g = .int .u32 gi ∧ vi = ev ((zs.take n).drop m) % 4294967296 ∧ gi = 16 ^ (n - m) % 4294967296 ∧ ((∃ q : Nat, m = q + 1 ∧ k = .int .i64 (q : Int)) ∨ (m = 0 ∧ k = .int .i64 (-1))) ∧ wr.rowIs w'.heap.size 5 len (fun j => .int .u8 (zs.getD j 0)) ∧ Below w'.heap.size w' wr ∧ good ((zs.take n).drop m))
      (fun _ _ k _ => (intOf k + 1).toNat)
    case atStart =>
      refine ⟨n, 0, 1, Nat.le_refl _, rfl, rfl, by simp [ev], by simp, ?_, hrow, hbel, by intro c hcm; simp at hcm⟩
      rcases Nat.eq_zero_or_eq_succ_pred n with h | h
      · right; subst h; exact ⟨rfl, rfl⟩
      · left; exact ⟨n - 1, h, by rw [h]; go_num⟩
    case round =>
      clear hrow hbel HR HC
      obtain ⟨m, v, g, hmn, rfl, rfl, hv, hgg, hk, hrow, hbel, hgd⟩ := hrel
      have HB : Hid (Below w'.heap.size w' wr ∧ wr.rowIs w'.heap.size 5 len (fun j => .int .u8 (zs.getD j 0))) := ⟨hbel, hrow⟩
      clear hbel
      have HGD : Hid (good ((zs.take n).drop m)) := hgd
      clear hgd
      have b1 : 0 ≤ v ∧ v < 4294967296 := by omega
      have b2 : 0 ≤ g ∧ g < 4294967296 := by omega
      have HV : Hid (v = ev ((zs.take n).drop m) % 4294967296) := hv
      have HGG : Hid (g = 16 ^ (n - m) % 4294967296) := hgg
      clear hv hgg
      obtain ⟨b1a, b1b⟩ := b1
      obtain ⟨b2a, b2b⟩ := b2
      rcases hk with ⟨q, rfl, rfl⟩ | ⟨rfl, rfl⟩
      · have hcq := hrow.cell (i := q) (by omega)
        have hwq := HW.out q (by omega)
        obtain ⟨c, hcc⟩ : ∃ c, c = zs.getD q 0 := ⟨_, rfl⟩
        rw [← hcc] at hcq hwq
        obtain ⟨hw0, hw1⟩ := hwq
        obtain ⟨hxa, hxb⟩ := hexv_lt c
        have HCC : Hid ((zs.take n).getD q 0 = c) := by rw [hcc]; exact take_getD (by omega)
        have HL : Hid (q < (zs.take n).length) := by show q < (zs.take n).length; simp; omega
        have HS : Hid ((v + hexv c * g % 4294967296) % 4294967296 = ev ((zs.take n).drop q) % 4294967296) := by
          have := sum_step (l := zs.take n) (m := q) HL.out
          rw [HCC.out, List.length_take, Nat.min_eq_left (by omega)] at this
          rw [HV.out, HGG.out]
          exact this
        have HP : Hid (g * 16 % 4294967296 = 16 ^ (n - q) % 4294967296) := by rw [HGG.out]; exact pow_step hmn
        have HK : Hid (((∃ q_1 : Nat, q = q_1 + 1 ∧ Value.int IntKind.i64 ((q : Int) - 1) = Value.int IntKind.i64 (q_1 : Int)) ∨ (q = 0 ∧ Value.int IntKind.i64 ((q : Int) - 1) = Value.int IntKind.i64 (-1)))) := by
          rcases Nat.eq_zero_or_eq_succ_pred q with h | h
          · right; subst h; exact ⟨rfl, rfl⟩
          · left; exact ⟨q - 1, h, by rw [h]; go_num⟩
        clear hrow hcc HV HGG
        have HQ : Hid (0 ≤ hexv c → good ((zs.take n).drop q)) := fun h => good_drop HL.out (by rw [HCC.out]; exact h) HGD.out
        clear HCC
        have hdig := fun w => digit_any c w hw0 hw1
        generalize hexv c = d at *
        have HDG : Hid (∀ w, Calls Trym.prog 13 #[.int .u8 c] w fun e w' => e = .returned (.int .i64 d) ∧ w' = w) := hdig
        clear hdig
        by_cases hx0 : 0 ≤ d
        · go_wp2_with (go_at_call 13; refine Calls.mono (HDG.out _) ?_; rintro e w3 ⟨rfl, rfl⟩)
          go_roundw
          case rel => exact ⟨q, _, _, by omega, rfl, rfl, HS.out, HP.out, HK.out, HB.out.2, HB.out.1, HQ.out hx0⟩
          case measure => simp [intOf]
        · go_wp2_with (go_at_call 13; refine Calls.mono (HDG.out _) ?_; rintro e w3 ⟨rfl, rfl⟩)
          go_ret
          exact ⟨rfl, HB.out.1⟩
      · obtain ⟨c, hcm, hlt⟩ := HG.out
        have := HGD.out c (by simpa using hcm)
        omega

/-- More digits are asked for than there are bytes. -/
theorem walk_short (b off len cap : Nat) (spot : Option Nat) (zs : List Int) (d : Int) (w : World) (hm : len ≤ 1048576) (hd1 : (len : Int) < d) (hb : 0 < len → b < w.heap.size)
    (hc : ∀ j, j < len → spot = none ∧ w.cell? ⟨b, off + j, none⟩ = some (.int .u8 (zs.getD j 0))) :
    Calls Trym.prog 3 #[.slice (some ⟨b, off, spot⟩) len cap, .int .i64 d] w fun e w' => e = .returned (.bool true) ∧ Below w.heap.size w w' := by
  have HC : Hid (∀ j, j < len → spot = none ∧ w.cell? ⟨b, off + j, none⟩ = some (.int .u8 (zs.getD j 0))) := hc
  clear hc
  go_enter Trym.func3, Trym.ntmps3
  go_wp2_with fail
  refine (guard10_yes _ _ _ _ _ hm).mono ?_
  rintro e w' ⟨rfl, rfl⟩
  go_wp2_with fail
  refine (copy_some b off len cap spot zs _ hm hb HC.out).mono ?_
  rintro e w1 ⟨rfl, hrow, hbel⟩
  go_wp2_with fail
  refine (zz_short _ _ _ _ _ hd1).mono ?_
  rintro e w2 ⟨rfl, rfl⟩
  go_wp2
  go_ret
  exact ⟨rfl, hbel⟩

/-- Too long an input, or a negative number of digits: nothing is asked. -/
theorem walk_long (a : Option Addr) (len cap : Nat) (d : Int) (w : World) (hm : ¬ len ≤ 1048576) :
    Calls Trym.prog 3 #[.slice a len cap, .int .i64 d] w fun e w' => e = .returned (.bool true) ∧ Below w.heap.size w w' := by
  go_enter Trym.func3, Trym.ntmps3
  go_wp2_with fail
  refine (guard10_no _ _ _ _ _ hm).mono ?_
  rintro e w' ⟨rfl, rfl⟩
  go_wp2
  go_ret
  exact ⟨rfl, Below.refl _ _⟩
theorem walk_neg (a : Option Addr) (len cap : Nat) (d : Int) (w : World) (hm : len ≤ 1048576) (hd : d < 0) :
    Calls Trym.prog 3 #[.slice a len cap, .int .i64 d] w fun e w' => e = .returned (.bool true) ∧ Below w.heap.size w w' := by
  go_enter Trym.func3, Trym.ntmps3
  go_wp2_with fail
  refine (guard10_yes _ _ _ _ _ hm).mono ?_
  rintro e w' ⟨rfl, rfl⟩
  go_wp2
  go_ret
  exact ⟨rfl, Below.refl _ _⟩

/-- The nil slice. -/
theorem walk_nil_none (w : World) :
    Calls Trym.prog 3 #[.slice none 0 0, .int .i64 0] w fun e w' => e = .returned (.bool true) ∧ Below w.heap.size w w' := by
  go_enter Trym.func3, Trym.ntmps3
  go_wp2_with fail
  refine (guard10_yes _ _ _ _ _ (by omega)).mono ?_
  rintro e w' ⟨rfl, rfl⟩
  go_wp2_with fail
  refine (copy_nil _).mono ?_
  rintro e w' ⟨rfl, rfl⟩
  go_wp2_with fail
  refine (zz_nil _).mono ?_
  rintro e w' ⟨rfl, rfl⟩
  go_wp2_with fail
  refine wp_loop_rounds 1 ?_
  rw [rounds_succ]
  go_wp2
  go_ret
  exact ⟨rfl, Below.refl _ _⟩
theorem walk_nil_some (d : Int) (w : World) (hd : 0 < d) :
    Calls Trym.prog 3 #[.slice none 0 0, .int .i64 d] w fun e w' => e = .returned (.bool true) ∧ Below w.heap.size w w' := by
  go_enter Trym.func3, Trym.ntmps3
  go_wp2_with fail
  refine (guard10_yes _ _ _ _ _ (by omega)).mono ?_
  rintro e w' ⟨rfl, rfl⟩
  go_wp2_with fail
  refine (copy_nil _).mono ?_
  rintro e w' ⟨rfl, rfl⟩
  go_wp2_with fail
  refine (zz_short none 0 0 _ _ (by omega)).mono ?_
  rintro e w' ⟨rfl, rfl⟩
  go_wp2
  go_ret
  exact ⟨rfl, Below.refl _ _⟩

end Go.Proofs.Qxb6601914aMods.Hex
