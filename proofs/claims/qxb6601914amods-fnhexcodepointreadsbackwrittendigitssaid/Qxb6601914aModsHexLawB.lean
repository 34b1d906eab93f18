/-
  THE WALK OF FnHexCodePointReadsBackWrittenDigits (function 4).
-/
import Derived.Test.Qxb6601914aModsHexWalks
namespace Go.Proofs.Qxb6601914aMods.Hex
open Go.RowKit

/-! ### hexCharB1 (function 15) -/
def chr (nib : Int) (up : Bool) : Int := if nib < 10 then 48 + nib else if up then 55 + nib else 87 + nib

theorem chr_any (nib : Int) (up : Bool) (w : World) (h0 : 0 ≤ nib) (h1 : nib ≤ 15) :
    Calls Trym.prog 15 #[.int .u8 nib, .bool up] w fun e w' => e = .returned (.int .u8 (chr nib up)) ∧ w' = w := by
  by_cases h : nib < 10
  · go_enter Trym.func15, Trym.ntmps15
    go_wp2
    go_ret
    exact ⟨ret_int (by unfold chr; rw [if_pos h]), rfl⟩
  · cases up
    · go_enter Trym.func15, Trym.ntmps15
      go_wp2
      go_ret
      exact ⟨ret_int (by unfold chr; rw [if_neg (by omega)]; simp; omega), rfl⟩
    · go_enter Trym.func15, Trym.ntmps15
      go_wp2
      go_ret
      exact ⟨ret_int (by unfold chr; rw [if_neg (by omega)]; simp; omega), rfl⟩

theorem hexv_chr (nib : Int) (up : Bool) (h0 : 0 ≤ nib) (h1 : nib ≤ 15) : hexv (chr nib up) = nib := by
  unfold chr
  split
  · rw [hexv_ten _ (by omega) (by omega)]; omega
  · cases up
    · rw [if_neg (by simp), hexv_low _ (by omega) (by omega)]; omega
    · rw [if_pos rfl, hexv_cap _ (by omega) (by omega)]; omega

theorem chr_bounds (nib : Int) (up : Bool) (h0 : 0 ≤ nib) (h1 : nib ≤ 15) : 0 ≤ chr nib up ∧ chr nib up ≤ 255 := by
  unfold chr; split
  · omega
  · cases up <;> simp <;> omega

theorem nib_eq (v : Int) (q : Nat) (h0 : 0 ≤ v) (h1 : v < 4294967296) : bits .and .u32 (v / 2 ^ (4 * q)) 15 % 256 = v / 16 ^ q % 16 := by
  have e : (2 : Int) ^ (4 * q) = 16 ^ q := by rw [Int.pow_mul]; rfl
  have p : (0 : Int) < 16 ^ q := Int.pow_pos (by omega)
  have d0 : 0 ≤ v / 16 ^ q := Int.ediv_nonneg h0 (Int.le_of_lt p)
  have d1 : v / 16 ^ q ≤ v := Int.ediv_le_self _ h0
  have m := bits_mask .u32 32 (by decide) (fun n a b => by rw [IntKind.wrap_u32]; omega) 4 (by decide) (v / 16 ^ q) d0 (by omega)
  rw [e]
  have m' : bits .and .u32 (v / 16 ^ q) 15 = v / 16 ^ q % 16 := m
  rw [m']
  omega

theorem chr_ex (v : Int) (q : Nat) (up : Bool) (w : World) (h0 : 0 ≤ v) (h1 : v < 4294967296) :
    Calls Trym.prog 15 #[.int .u8 (bits .and .u32 (v / 2 ^ (4 * q)) 15 % 256), .bool up] w fun e w' => ∃ c, e = .returned (.int .u8 c) ∧ w' = w ∧ hexv c = v / 16 ^ q % 16 := by
  have b : 0 ≤ v / 16 ^ q % 16 ∧ v / 16 ^ q % 16 ≤ 15 := by omega
  rw [nib_eq v q h0 h1]
  refine (chr_any _ up w b.1 b.2).mono ?_
  rintro e w' ⟨rfl, rfl⟩
  exact ⟨_, rfl, rfl, hexv_chr _ _ b.1 b.2⟩

/-- One digit more. -/
theorem spell_step {v c : Int} {n m q : Nat} {l : List Int} (hn : n = m + q + 1) (hl : l.length = m ∧ good l ∧ ev l = v / 16 ^ (n - m)) (hc : hexv c = v / 16 ^ q % 16) :
    (l ++ [c]).length = m + 1 ∧ good (l ++ [c]) ∧ ev (l ++ [c]) = v / 16 ^ (n - (m + 1)) := by
  obtain ⟨h1, h2, h3⟩ := hl
  refine ⟨by simp [h1], ?_, ?_⟩
  · intro x hx
    simp at hx
    rcases hx with hx | rfl
    · exact h2 x hx
    · rw [hc]; omega
  · rw [ev_snoc, h3, hc, show n - m = q + 1 from by omega, show n - (m + 1) = q from by omega, Int.pow_succ, ← Int.ediv_ediv_of_nonneg (Int.le_of_lt (Int.pow_pos (by omega)))]
    omega

theorem map_snoc (l : List Int) (c : Int) : l.map (Value.int .u8) ++ [Value.int .u8 c] = (l ++ [c]).map (Value.int .u8) := by simp

/-- What an append of one element leaves: the old memory as it was, the row one longer. -/
theorem push_step {w1 wr w3 : World} {o : Obj} {k cap : Nat} {xs : List Value} (_hown : wr.ownsRow w1.heap.size 5 1 (.slice (some ⟨w1.heap.size, 0, none⟩) k cap) k xs) (hnx : Below w1.heap.size w1 wr)
    (hg : (wr.alloc o).grownBy w3 (some w1.heap.size)) : Below w1.heap.size w1 w3 :=
  (hnx.alloc hnx.size o).grown hg (by have := hnx.size; simp; omega) (fun j hj => by cases hj; exact Nat.le_refl _)

/-- The copied tail: its bytes, wherever they lie. -/
def Lies (w : World) (a : Option Addr) (n : Nat) (zs : List Int) : Prop :=
  ∀ j, j < n → ∃ g, a = some ⟨g, 0, none⟩ ∧ g < w.heap.size ∧ w.cell? ⟨g, j, none⟩ = some (.int .u8 (zs.getD j 0))

/-- No digit yet. -/
theorem spell_start {v : Int} {n : Nat} (h0 : 0 ≤ v) (h : v < 16 ^ n) : ([] : List Int).length = 0 ∧ good [] ∧ ev [] = v / 16 ^ (n - 0) := by
  refine ⟨rfl, fun x hx => by simp at hx, ?_⟩
  rw [Nat.sub_zero, Int.ediv_eq_zero_of_lt h0 h]; rfl
theorem below_made {w1 w2 : World} (h : w1.grownBy w2 none) : Below w1.heap.size w1 w2 := (Below.refl _ _).grown h (Nat.le_refl _) (fun j hj => by cases hj)
theorem cells_of_own {w : World} {g k cap : Nat} {l : List Int} (h : w.ownsRow g 5 1 (.slice (some ⟨g, 0, none⟩) k cap) k (l.map (Value.int .u8))) (hl : l.length = k) :
    ∀ j, j < k → w.cell? ⟨g, 0 + j, none⟩ = some (.int .u8 (l.getD j 0)) := fun j hj => by
  rw [Nat.zero_add, h.cellAt j (by omega)]
  simp [List.getD, show j < l.length from by omega]

set_option maxHeartbeats 400000 in
theorem back_main (v : Int) (n : Nat) (mask : Int) (a : Option Addr) (len cap : Nat) (zs : List Int) (w : World) (hm : len ≤ 1048576) (hz : len ≤ zs.length) (hv0 : 0 ≤ v) (hv1 : v < 4294967296) (_hm0 : 0 ≤ mask) (_hm1 : mask ≤ 255)
   (hd1 : n ≤ 8) (hvn : v < 16 ^ n) (hg : decide ((n : Int) < 8) = false ∨ (decide ((n : Int) < 8) = true ∧ decide (IntKind.u64.wrap (2 ^ (4 * n)) ≤ v) = false))
   (hcopy : Calls Trym.prog 11 #[.slice a len cap] w fun e w' => ∃ ta, e = .returned (.slice ta len len) ∧ Lies w' ta len zs ∧ Below w.heap.size w w') :
    Calls Trym.prog 4 #[.int .u32 v, .int .i64 n, .int .u8 mask, .slice a len cap] w fun e w' => e = .returned (.bool true) ∧ Below w.heap.size w w' := by
  obtain ⟨i0, hi, hz0, hz1, hz2⟩ := info_parts Trym.info5
  have HI : Hid (i0.bytes = 1) := hz2
  have HV : Hid (v < 16 ^ n) := hvn
  clear hvn
  clear hz2
  have t1 : decide ((1048576 : Int) < (len : Int)) = false := decide_eq_false (by omega)
  have t2 : decide ((n : Int) < 0) = false := decide_eq_false (by omega)
  have t3 : decide ((8 : Int) < (n : Int)) = false := decide_eq_false (by omega)
  have HC : Hid (Calls Trym.prog 11 #[.slice a len cap] w fun e w' => ∃ ta, e = .returned (.slice ta len len) ∧ Lies w' ta len zs ∧ Below w.heap.size w w') := hcopy
  clear hcopy
  rcases hg with hg1 | ⟨hg1, hg2⟩
  all_goals
    go_enter Trym.func4, Trym.ntmps4
    go_wp2_with fail
    refine (guard14_yes _ _ _ _ _ _ _ hm).mono ?_
    rintro e w' ⟨rfl, rfl⟩
    go_wp2_with fail
    refine Calls.mono HC.out ?_
    rintro e w1 ⟨ta, rfl, hlies, hbel⟩
    have HLB : Hid (Lies w1 ta len zs ∧ Below w'.heap.size w' w1) := ⟨hlies, hbel⟩
    clear hlies hbel HC
    go_wp2_with (first | (at_make; refine wpList_make_own _ rfl _ _ 22 rfl w1.heap.size 5 i0 (.int .u8 0) 1 Trym.underlying22 hi hz0 hz1 .i64 .i64 _ (n + len) rfl rfl (by omega) (by rw [HI.out]; omega) (by unfold maxLen; omega) (Nat.le_refl _) ?_; intro w2 hown2 hgrow2))
    go_loopw [9, 10] (fun buf k wr => ∃ (m : Nat) (l : List Int), m ≤ n ∧ l.length = m ∧ good l ∧ ev l = v / 16 ^ (n - m) ∧ buf = .slice (some ⟨w1.heap.size, 0, none⟩) m (n + len) ∧
       wr.ownsRow w1.heap.size 5 1 (.slice (some ⟨w1.heap.size, 0, none⟩) m (n + len)) m (l.map (Value.int .u8)) ∧ Below w1.heap.size w1 wr ∧ ((∃ q : Nat, n = m + q + 1 ∧ k = .int .i64 (q : Int)) ∨ (m = n ∧ k = .int .i64 (-1))))
      (fun _ k _ => (intOf k + 1).toNat)
    case atStart =>
      refine ⟨0, [], Nat.zero_le _, rfl, (spell_start hv0 HV.out).2.1, (spell_start hv0 HV.out).2.2, rfl, hown2, below_made hgrow2, ?_⟩
      rcases Nat.eq_zero_or_eq_succ_pred n with h | h
      · right; exact ⟨h.symm, by rw [h]; rfl⟩
      · left; exact ⟨n - 1, by omega, by rw [h]; go_num⟩
    case round =>
      obtain ⟨m, l, hmn, hl, hgd, hev, rfl, hown, hnx, hk⟩ := hrel
      have HH : Hid (l.length = m ∧ good l ∧ ev l = v / 16 ^ (n - m) ∧ Below w1.heap.size w1 wr) := ⟨hl, hgd, hev, hnx⟩
      clear hl hgd hev hnx hown2 hgrow2
      rcases hk with ⟨q, hnq, rfl⟩ | ⟨hmn', rfl⟩
      · have hq : q < n := by omega
        have hmlt : m < n := by omega
        have HQ : Hid (n = m + q + 1) := hnq
        clear hnq
        go_wp2_with fail
        refine (chr_ex v q _ _ hv0 hv1).mono ?_
        rintro e w3 ⟨c, rfl, rfl, hcx⟩
        have HX : Hid (hexv c = v / 16 ^ q % 16) := hcx
        clear hcx
        go_wp2_with (at_builtin; go_must (refine wpList_append_fits _ rfl _ _ 22 rfl w1.heap.size 5 i0 1 Trym.underlying22 hi hz1 w1.heap.size m (n + len) _ rfl (hown.alloc _) ⟨w3.heap.size, 0, none⟩ 1 1 [.int .u8 c] rfl rfl (cell_one_new _ _ _) (ints_oneCell .u8 [c]) (by omega) ?_); intro w4 hown4 hgrow4)
        have HN : Hid (Below w1.heap.size w1 w4) := push_step hown HH.out.2.2.2 hgrow4
        have HO : Hid (w4.ownsRow w1.heap.size 5 1 (.slice (some ⟨w1.heap.size, 0, none⟩) (m + 1) (n + len)) (m + 1) ((l ++ [c]).map (Value.int .u8))) := by rw [← map_snoc]; exact hown4
        clear hown hown4 hgrow4
        go_wp2
        go_roundw
        case rel =>
          have S := spell_step HQ.out ⟨HH.out.1, HH.out.2.1, HH.out.2.2.1⟩ HX.out
          refine ⟨m + 1, l ++ [c], by omega, S.1, S.2.1, S.2.2, rfl, HO.out, HN.out, ?_⟩
          have e := HQ.out
          rcases Nat.eq_zero_or_eq_succ_pred q with h | h
          · right; exact ⟨by omega, by rw [h]; rfl⟩
          · left; exact ⟨q - 1, by omega, by rw [h]; go_num⟩
        case measure => simp [intOf]
      · have HMN : Hid (m = n) := hmn'
        have hmn2 : n ≤ m := by omega
        clear hmn'
        go_wp2_with fail
        go_loopw [9, 13] (fun buf k wr => ∃ i : Nat, i ≤ len ∧ k = .int .i64 (i : Int) ∧ buf = .slice (some ⟨w1.heap.size, 0, none⟩) (m + i) (n + len) ∧
            wr.ownsRow w1.heap.size 5 1 (.slice (some ⟨w1.heap.size, 0, none⟩) (m + i) (n + len)) (m + i) ((l ++ zs.take i).map (Value.int .u8)) ∧ Below w1.heap.size w1 wr)
          (fun _ k _ => len - (intOf k).toNat)
        case atStart => exact ⟨0, Nat.zero_le _, rfl, rfl, by simpa using hown, HH.out.2.2.2⟩
        case round =>
          clear hown
          obtain ⟨i, hil, rfl, rfl, hown, hnx⟩ := hrel
          have HNX : Hid (Below w1.heap.size w1 wr) := hnx
          by_cases hlt : i < len
          · obtain ⟨g, hta, hglt, hcell⟩ := HLB.out.1 i hlt
            subst hta
            have hcx : wr.cell? ⟨g, i, none⟩ = some (.int .u8 (zs.getD i 0)) := (hnx.cell (by exact hglt)).trans hcell
            obtain ⟨c, hcc⟩ : ∃ c, c = zs.getD i 0 := ⟨_, rfl⟩
            rw [← hcc] at hcx
            have HT : Hid (zs.take (i + 1) = zs.take i ++ [c]) := by rw [hcc]; exact take_snoc (by omega)
            clear hcc hcell hnx
            go_wp2_with (at_builtin; go_must (refine wpList_append_fits _ rfl _ _ 22 rfl w1.heap.size 5 i0 1 Trym.underlying22 hi hz1 w1.heap.size (m + i) (n + len) _ rfl (hown.alloc _) ⟨wr.heap.size, 0, none⟩ 1 1 [.int .u8 c] rfl rfl (cell_one_new _ _ _) (ints_oneCell .u8 [c]) (by omega) ?_); intro w4 hown4 hgrow4)
            have HN : Hid (Below w1.heap.size w1 w4) := push_step hown HNX.out hgrow4
            have HO : Hid (w4.ownsRow w1.heap.size 5 1 (.slice (some ⟨w1.heap.size, 0, none⟩) (m + i + 1) (n + len)) (m + i + 1) ((l ++ zs.take (i + 1)).map (Value.int .u8))) := by
              rw [HT.out, ← List.append_assoc, ← map_snoc]; exact hown4
            clear hown hown4 hgrow4
            go_wp2
            go_roundw
            case rel => exact ⟨i + 1, by omega, by go_num, rfl, HO.out, HN.out⟩
            case measure => simp [intOf]; omega
          · have hil' : i = len := by omega
            have HIL : Hid (i = len) := hil'
            have hge : len ≤ i := by omega
            clear hil' hnx
            have HZ : Hid (l.length = m) := HH.out.1
            go_wp2_with fail
            have hlen2 : (l ++ zs.take i).length = m + i := by rw [List.length_append, HZ.out, List.length_take, Nat.min_eq_left (by omega)]
            refine (zz_some w1.heap.size 0 (m + i) (n + len) n (l ++ zs.take i) _ (by omega) (by omega) (by omega) (by omega) (cells_of_own hown hlen2)).mono ?_
            have htk : (l ++ zs.take i).take n = l := by
              have e1 := HZ.out
              have e2 := HMN.out
              rw [List.take_append_of_le_length (by omega), List.take_of_length_le (by omega)]
            rw [htk]
            have hev : ev l = v := by rw [HH.out.2.2.1, HMN.out, Nat.sub_self, Int.pow_zero, Int.ediv_one]
            rintro e w5 ⟨⟨hg', rfl⟩ | ⟨⟨c, hcm, hcl⟩, rfl⟩, rfl⟩
            · rw [hev]
              clear hev htk hlen2
              go_wp2
              go_ret
              refine ⟨?_, HLB.out.2.trans (HNX.out.mono HLB.out.2.size)⟩
              show Ending.returned (.bool (wrap32 (v % 4294967296) == wrap32 v)) = _
              rw [Int.emod_eq_of_lt hv0 hv1]; simp
            · have := HH.out.2.1 c hcm
              omega

/-! ### The other ways: nothing is written -/
theorem back_long (v m mask : Int) (a : Option Addr) (len cap : Nat) (w : World) (hm : ¬ len ≤ 1048576) :
    Calls Trym.prog 4 #[.int .u32 v, .int .i64 m, .int .u8 mask, .slice a len cap] w fun e w' => e = .returned (.bool true) ∧ Below w.heap.size w w' := by
  go_enter Trym.func4, Trym.ntmps4
  go_wp2_with fail
  refine (guard14_no _ _ _ _ _ _ _ hm).mono ?_
  rintro e w' ⟨rfl, rfl⟩
  go_wp2
  go_ret
  exact ⟨rfl, Below.refl _ _⟩
theorem back_wide (v m mask : Int) (a : Option Addr) (len cap : Nat) (w : World) (hm : len ≤ 1048576) (h : m < 0 ∨ 8 < m) :
    Calls Trym.prog 4 #[.int .u32 v, .int .i64 m, .int .u8 mask, .slice a len cap] w fun e w' => e = .returned (.bool true) ∧ Below w.heap.size w w' := by
  rcases h with h | h
  · go_enter Trym.func4, Trym.ntmps4
    go_wp2_with fail
    refine (guard14_yes _ _ _ _ _ _ _ hm).mono ?_
    rintro e w' ⟨rfl, rfl⟩
    go_wp2
    go_ret
    exact ⟨rfl, Below.refl _ _⟩
  · go_enter Trym.func4, Trym.ntmps4
    go_wp2_with fail
    refine (guard14_yes _ _ _ _ _ _ _ hm).mono ?_
    rintro e w' ⟨rfl, rfl⟩
    go_wp2
    go_ret
    exact ⟨rfl, Below.refl _ _⟩
theorem back_great (v : Int) (n : Nat) (mask : Int) (a : Option Addr) (len cap : Nat) (w : World) (hm : len ≤ 1048576) (hv0 : 0 ≤ v) (hv1 : v < 4294967296) (hn : n < 8) (h : IntKind.u64.wrap (2 ^ (4 * n)) ≤ v) :
    Calls Trym.prog 4 #[.int .u32 v, .int .i64 n, .int .u8 mask, .slice a len cap] w fun e w' => e = .returned (.bool true) ∧ Below w.heap.size w w' := by
  go_enter Trym.func4, Trym.ntmps4
  go_wp2_with fail
  refine (guard14_yes _ _ _ _ _ _ _ hm).mono ?_
  rintro e w' ⟨rfl, rfl⟩
  go_wp2
  go_ret
  exact ⟨rfl, Below.refl _ _⟩

/-- '1 << (4 * n)' as a uint64. -/
theorem wrap_pow (n : Nat) (h : n < 8) : IntKind.u64.wrap (2 ^ (4 * n)) = 16 ^ n := by
  match n, h with
  | 0, _ => rfl
  | 1, _ => rfl
  | 2, _ => rfl
  | 3, _ => rfl
  | 4, _ => rfl
  | 5, _ => rfl
  | 6, _ => rfl
  | 7, _ => rfl
  | n + 8, h => omega

/-- The copy in one form for a nil slice and any other. -/
theorem lies_nil (w : World) : Calls Trym.prog 11 #[.slice none 0 0] w fun e w' => ∃ ta, e = .returned (.slice ta 0 0) ∧ Lies w' ta 0 [] ∧ Below w.heap.size w w' := by
  refine (copy_nil w).mono ?_
  rintro e w' ⟨rfl, rfl⟩
  exact ⟨none, rfl, fun j hj => absurd hj (by omega), Below.refl _ _⟩
theorem lies_some (b off len cap : Nat) (spot : Option Nat) (zs : List Int) (w : World) (hm : len ≤ 1048576) (hb : 0 < len → b < w.heap.size)
    (hc : ∀ j, j < len → spot = none ∧ w.cell? ⟨b, off + j, none⟩ = some (.int .u8 (zs.getD j 0))) :
    Calls Trym.prog 11 #[.slice (some ⟨b, off, spot⟩) len cap] w fun e w' => ∃ ta, e = .returned (.slice ta len len) ∧ Lies w' ta len zs ∧ Below w.heap.size w w' := by
  refine (copy_some b off len cap spot zs w hm hb hc).mono ?_
  rintro e w' ⟨rfl, hrow, hbel⟩
  exact ⟨_, rfl, fun j hj => ⟨w.heap.size, rfl, hrow.lt, hrow.cell hj⟩, hbel⟩

/-- Every way, the copy given. -/
theorem back_any (v m mask : Int) (a : Option Addr) (len cap : Nat) (zs : List Int) (w : World) (hz : len ≤ zs.length) (hv0 : 0 ≤ v) (hv1 : v < 4294967296) (hm0 : 0 ≤ mask) (hm1 : mask ≤ 255)
    (hcopy : len ≤ 1048576 → Calls Trym.prog 11 #[.slice a len cap] w fun e w' => ∃ ta, e = .returned (.slice ta len len) ∧ Lies w' ta len zs ∧ Below w.heap.size w w') :
    Calls Trym.prog 4 #[.int .u32 v, .int .i64 m, .int .u8 mask, .slice a len cap] w fun e w' => e = .returned (.bool true) ∧ Below w.heap.size w w' := by
  by_cases hm : len ≤ 1048576
  · by_cases hw : m < 0 ∨ 8 < m
    · exact back_wide v m mask a len cap w hm hw
    · obtain ⟨n, rfl⟩ := Int.eq_ofNat_of_zero_le (show 0 ≤ m from by omega)
      by_cases h8 : n < 8
      · by_cases hg : IntKind.u64.wrap (2 ^ (4 * n)) ≤ v
        · exact back_great v n mask a len cap w hm hv0 hv1 h8 hg
        · exact back_main v n mask a len cap zs w hm hz hv0 hv1 hm0 hm1 (by omega) (by rw [← wrap_pow n h8]; omega) (.inr ⟨decide_eq_true (by omega), decide_eq_false hg⟩) (hcopy hm)
      · have e : n = 8 := by omega
        exact back_main v n mask a len cap zs w hm hz hv0 hv1 hm0 hm1 (by omega) (by rw [e]; exact hv1) (.inl (decide_eq_false (by omega))) (hcopy hm)
  · exact back_long v m mask a len cap w hm

end Go.Proofs.Qxb6601914aMods.Hex
