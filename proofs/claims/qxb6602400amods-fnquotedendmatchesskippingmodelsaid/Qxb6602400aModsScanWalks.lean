/-
  THE WALKS OF THE TWO LAWS OVER THE TAG SCANNERS: the size guards, the copy, nameEnd, isStop, quotedEnd, the model and its search.
-/
import Derived.Test.Qxb6602400aModsProg
import Derived.Test.Qxb6602400aModsScanPlain
import Derived.WalkKit
import Derived.WalkSpells
import Derived.WalkLawsBesides
import Derived.Deep.OwnRows
namespace Go.Proofs.Qxb6602400aMods.Scan
open Go.RowKit

theorem Trym.info5 : (Trym.prog.info? 5).map (fun i => (i.zero, i.size, i.bytes)) = some (some (.int .u8 0), 1, 1) := by kernel_rfl

theorem ret_int {k : IntKind} {a b : Int} (h : a = b) : Ending.returned (.int k a) = .returned (.int k b) := by rw [h]

/-! ### The size guards (functions 10 and 15) -/
theorem guard10_yes (a : Option Addr) (n c : Nat) (w : World) (h : n ≤ 1048576) :
    Calls Trym.prog 10 #[.slice a n c] w fun e w' => e = .returned (.bool true) ∧ w' = w := by
  go_enter Trym.func10, Trym.ntmps10
  go_wp2
  go_ret
  exact ⟨rfl, rfl⟩
theorem guard10_no (a : Option Addr) (n c : Nat) (w : World) (h : ¬ n ≤ 1048576) :
    Calls Trym.prog 10 #[.slice a n c] w fun e w' => e = .returned (.bool false) ∧ w' = w := by
  go_enter Trym.func10, Trym.ntmps10
  go_wp2
  go_ret
  exact ⟨rfl, rfl⟩
theorem guard15_yes (a : Option Addr) (n c : Nat) (w : World) (h : n ≤ 1048576) :
    Calls Trym.prog 15 #[.slice a n c] w fun e w' => e = .returned (.bool true) ∧ w' = w := by
  go_enter Trym.func15, Trym.ntmps15
  go_wp2
  go_ret
  exact ⟨rfl, rfl⟩
theorem guard15_no (a : Option Addr) (n c : Nat) (w : World) (h : ¬ n ≤ 1048576) :
    Calls Trym.prog 15 #[.slice a n c] w fun e w' => e = .returned (.bool false) ∧ w' = w := by
  go_enter Trym.func15, Trym.ntmps15
  go_wp2
  go_ret
  exact ⟨rfl, rfl⟩

/-! ### The copy (function 11) -/
theorem copy_nil (w : World) : Calls Trym.prog 11 #[.slice none 0 0] w fun e w' => e = .returned (.slice none 0 0) ∧ w' = w := by
  have hq := fun (w : World) (a : Option Addr) (n c n' c' : Nat) => Lib.run_eql_slice_nil (P := Trym.prog) w 22 5 a n c n' c' Trym.underlying22
  go_enter Trym.func11, Trym.ntmps11
  go_wp2
  go_ret
  exact ⟨rfl, rfl⟩

theorem copy_step {w wr : World} {len k : Nat} {zs : List Int} (h : wr.rowIs w.heap.size 5 len (fun j => .int .u8 (if j < k then zs.getD j 0 else 0))) :
    (wr.setCell ⟨w.heap.size, k, none⟩ (.int .u8 (zs.getD k 0))).rowIs w.heap.size 5 len (fun j => .int .u8 (if j < k + 1 then zs.getD j 0 else 0)) := by
  refine (h.set k _).congr fun j _ => ?_
  by_cases e : j = k
  · subst e; simp
  · simp only [e, if_false]
    by_cases hj : j < k
    · rw [if_pos hj, if_pos (by omega)]
    · rw [if_neg hj, if_neg (by omega)]

set_option maxHeartbeats 400000 in
theorem copy_some (b off len cap : Nat) (spot : Option Nat) (zs : List Int) (w : World) (hm : len ≤ 1048576) (hb : 0 < len → b < w.heap.size)
    (hc : ∀ j, j < len → spot = none ∧ w.cell? ⟨b, off + j, none⟩ = some (.int .u8 (zs.getD j 0))) :
    Calls Trym.prog 11 #[.slice (some ⟨b, off, spot⟩) len cap] w fun e w' => e = .returned (.slice (some ⟨w.heap.size, 0, none⟩) len len) ∧
      w'.rowIs w.heap.size 5 len (fun j => .int .u8 (zs.getD j 0)) ∧ Below w.heap.size w w' := by
  have hq := fun (w : World) (a : Option Addr) (n c n' c' : Nat) => Lib.run_eql_slice_nil (P := Trym.prog) w 22 5 a n c n' c' Trym.underlying22
  have hmk := run_make_row' (P := Trym.prog) 22 5 (.int .u8 0) 1 Trym.underlying22 Trym.info5 rfl .i64 .i64 len (by omega) (by omega)
  go_enter Trym.func11, Trym.ntmps11
  go_wp2
  go_loopw [4] (fun i wr => ∃ k : Nat, k ≤ len ∧ i = .int .i64 k ∧ wr.rowIs w.heap.size 5 len (fun j => .int .u8 (if j < k then zs.getD j 0 else 0)) ∧ Below w.heap.size w wr) (fun i _ => len - (intOf i).toNat)
  case atStart => exact ⟨0, Nat.zero_le _, rfl, (World.rowIs_made w (.int .u8 0) len 5).congr (fun j _ => by simp), (Below.refl _ _).alloc (Nat.le_refl _) _⟩
  case round =>
    obtain ⟨k, hk, rfl, hrow, hnx⟩ := hrel
    by_cases hlt : k < len
    · obtain ⟨hs, hck⟩ := hc k hlt
      subst hs
      have hbb := hb (by omega)
      have hcx : wr.cell? ⟨b, off + k, none⟩ = some (.int .u8 (zs.getD k 0)) := (hnx.cell (by exact hbb)).trans hck
      have hfz := hrow.frozen k
      have hcd := hrow.cell hlt
      have R := copy_step hrow
      have N := hnx.setCell (p := ⟨w.heap.size, k, none⟩) (Nat.le_refl _) (.int .u8 (zs.getD k 0))
      have HR : Hid ((wr.setCell ⟨w.heap.size, k, none⟩ (.int .u8 (zs.getD k 0))).rowIs w.heap.size 5 len (fun j => .int .u8 (if j < k + 1 then zs.getD j 0 else 0)) ∧ Below w.heap.size w (wr.setCell ⟨w.heap.size, k, none⟩ (.int .u8 (zs.getD k 0)))) := ⟨R, N⟩
      clear R N hrow hnx hck hc
      go_wp2
      go_roundw
      case rel => exact ⟨k + 1, by omega, by go_num, HR.out.1, HR.out.2⟩
      case measure => simp [intOf]; omega
    · have hkl : k = len := by omega
      subst hkl
      clear hc
      go_wp2
      go_ret
      exact ⟨rfl, hrow.congr (fun j hj => by simp [hj]), hnx⟩

/-- The copied bytes, wherever they lie. -/
def Lies (w : World) (a : Option Addr) (n : Nat) (zs : List Int) : Prop :=
  ∀ j, j < n → ∃ g, a = some ⟨g, 0, none⟩ ∧ g < w.heap.size ∧ w.cell? ⟨g, j, none⟩ = some (.int .u8 (zs.getD j 0)) ∧ 0 ≤ zs.getD j 0 ∧ zs.getD j 0 ≤ 255
theorem lies_nil (w : World) : Calls Trym.prog 11 #[.slice none 0 0] w fun e w' => ∃ ta, e = .returned (.slice ta 0 0) ∧ Lies w' ta 0 [] ∧ Below w.heap.size w w' := by
  refine (copy_nil w).mono ?_
  rintro e w' ⟨rfl, rfl⟩
  exact ⟨none, rfl, fun j hj => absurd hj (by omega), Below.refl _ _⟩
theorem lies_some (b off len cap : Nat) (spot : Option Nat) (zs : List Int) (w : World) (hm : len ≤ 1048576) (hb : 0 < len → b < w.heap.size)
    (hc : ∀ j, j < len → spot = none ∧ w.cell? ⟨b, off + j, none⟩ = some (.int .u8 (zs.getD j 0))) (hz : ∀ j, j < len → 0 ≤ zs.getD j 0 ∧ zs.getD j 0 ≤ 255) :
    Calls Trym.prog 11 #[.slice (some ⟨b, off, spot⟩) len cap] w fun e w' => ∃ ta, e = .returned (.slice ta len len) ∧ Lies w' ta len zs ∧ Below w.heap.size w w' := by
  refine (copy_some b off len cap spot zs w hm hb hc).mono ?_
  rintro e w' ⟨rfl, hrow, hbel⟩
  exact ⟨_, rfl, fun j hj => ⟨w.heap.size, rfl, hrow.lt, hrow.cell hj, hz j hj⟩, hbel⟩

/-! ### isStop (function 13) -/
theorem stop_yes (c : Int) (w : World) (h : Stop c) : Calls Trym.prog 13 #[.int .u8 c] w fun e w' => e = .returned (.bool true) ∧ w' = w := by
  by_cases h1 : c ≤ 32
  · go_enter Trym.func13, Trym.ntmps13
    go_wp2
    go_ret
    exact ⟨rfl, rfl⟩
  · rcases h with h | rfl | rfl
    · omega
    · go_enter Trym.func13, Trym.ntmps13
      go_wp2
      go_ret
      exact ⟨rfl, rfl⟩
    · go_enter Trym.func13, Trym.ntmps13
      go_wp2
      go_ret
      exact ⟨rfl, rfl⟩
theorem stop_no (c : Int) (w : World) (h : ¬ Stop c) : Calls Trym.prog 13 #[.int .u8 c] w fun e w' => e = .returned (.bool false) ∧ w' = w := by
  have h1 : ¬ c ≤ 32 := fun x => h (.inl x)
  have h2 : (c == 47) = false := by simp; exact fun x => h (.inr (.inl x))
  have h3 : (c == 62) = false := by simp; exact fun x => h (.inr (.inr x))
  clear h
  go_enter Trym.func13, Trym.ntmps13
  go_wp2
  go_ret
  exact ⟨rfl, rfl⟩

/-! ### nameEnd (function 25), ZZNameEnd (12) -/
def Ends (zs : List Int) (len : Nat) (e : Ending) : Prop :=
  ∃ n : Nat, e = .returned (.int .i64 (n : Int)) ∧ n ≤ len ∧ (∀ j, j < n → ¬ Stop (zs.getD j 0)) ∧ (n < len → Stop (zs.getD n 0))

theorem nameEnd_any (a : Option Addr) (len cap : Nat) (zs : List Int) (w : World) (hl : len ≤ 1048576) (hc : Lies w a len zs) :
    Calls Trym.prog 25 #[.slice a len cap] w fun e w' => Ends zs len e ∧ w' = w := by
  have HC : Hid (Lies w a len zs) := hc
  clear hc
  go_enter Trym.func25, Trym.ntmps25
  go_wp2
  go_loop [7] (fun i => ∃ k : Nat, k ≤ len ∧ i = .int .i64 k ∧ Hid (∀ j, j < k → ¬ Stop (zs.getD j 0))) (fun i => len - (intOf i).toNat)
  case atStart => exact ⟨0, Nat.zero_le _, rfl, fun j hj => absurd hj (by omega)⟩
  case round =>
    obtain ⟨k, hk, rfl, HN⟩ := hrel
    by_cases hlt : k < len
    · obtain ⟨g, rfl, hg, hcell, hz0, hz1⟩ := HC.out k hlt
      obtain ⟨c, hcc⟩ : ∃ c, zs.getD k 0 = c := ⟨_, rfl⟩
      rw [hcc] at hcell hz0 hz1
      have HCC : Hid (zs.getD k 0 = c) := hcc
      clear hcc
      by_cases hs : Stop c
      · have HS : Hid (Stop c) := hs
        by_cases h1 : c ≤ 32
        · clear hs
          go_wp2
          go_ret
          exact ⟨⟨k, rfl, by omega, HN.out, fun _ => by rw [HCC.out]; exact HS.out⟩, rfl⟩
        · by_cases h2 : c = 47
          · have h2' : (c == 47) = true := by simp [h2]
            clear hs h2
            go_wp2
            go_ret
            exact ⟨⟨k, rfl, by omega, HN.out, fun _ => by rw [HCC.out]; exact HS.out⟩, rfl⟩
          · have h2' : (c == 47) = false := by simp [h2]
            have h3' : (c == 62) = true := by
              rcases hs with h | h | h
              · omega
              · exact absurd h h2
              · simp [h]
            clear hs h2
            go_wp2
            go_ret
            exact ⟨⟨k, rfl, by omega, HN.out, fun _ => by rw [HCC.out]; exact HS.out⟩, rfl⟩
      · have HS : Hid (¬ Stop c) := hs
        have h1 : ¬ c ≤ 32 := fun x => hs (.inl x)
        have h2 : (c == 47) = false := by simp; exact fun x => hs (.inr (.inl x))
        have h3 : (c == 62) = false := by simp; exact fun x => hs (.inr (.inr x))
        clear hs
        go_wp2
        go_round
        case rel => exact ⟨k + 1, by omega, by go_num, fun j hj => by
          by_cases e : j = k
          · rw [e, HCC.out]; exact HS.out
          · exact HN.out j (by omega)⟩
        case measure => simp [intOf]; omega
    · have hkl : k = len := by omega
      have HK : Hid (k = len) := hkl
      clear hkl
      go_wp2
      go_ret
      exact ⟨⟨len, rfl, Nat.le_refl _, by rw [← HK.out]; exact HN.out, fun h => absurd h (by omega)⟩, rfl⟩
theorem zzNameEnd (a : Option Addr) (len cap : Nat) (zs : List Int) (w : World) (hl : len ≤ 1048576) (hc : Lies w a len zs) :
    Calls Trym.prog 12 #[.slice a len cap] w fun e w' => Ends zs len e ∧ w' = w := by
  have HC : Hid (Lies w a len zs) := hc
  clear hc
  go_enter Trym.func12, Trym.ntmps12
  go_wp2_with fail
  refine (nameEnd_any a len cap zs _ hl HC.out).mono ?_
  rintro e w' ⟨⟨n, rfl, h1, h2, h3⟩, rfl⟩
  have HE : Hid (n ≤ len ∧ (∀ j, j < n → ¬ Stop (zs.getD j 0)) ∧ (n < len → Stop (zs.getD n 0))) := ⟨h1, h2, h3⟩
  clear h1 h2 h3
  go_wp2
  go_ret
  exact ⟨⟨n, rfl, HE.out⟩, rfl⟩

/-! ### quotedEnd (function 26), ZZQuotedEnd (16) -/
set_option maxHeartbeats 400000 in
theorem quotedEnd_any (a : Option Addr) (len cap : Nat) (zs : List Int) (w : World) (hl : len ≤ 1048576) (hz : len = zs.length) (hc : Lies w a len zs) :
    Calls Trym.prog 26 #[.slice a len cap] w fun e w' => e = .returned (.int .i64 (Q zs 0 0)) ∧ w' = w := by
  have HC : Hid (Lies w a len zs ∧ len = zs.length) := ⟨hc, hz⟩
  clear hc hz
  go_enter Trym.func26, Trym.ntmps26
  go_wp2
  go_loop [3, 8] (fun qv i => ∃ (k : Nat) (q : Int), k ≤ len ∧ i = .int .i64 k ∧ qv = .int .u8 q ∧ 0 ≤ q ∧ q ≤ 255 ∧ Hid (Q zs q k = Q zs 0 0)) (fun _ i => len - (intOf i).toNat)
  case atStart => exact ⟨0, 0, Nat.zero_le _, rfl, rfl, by omega, by omega, (rfl : Q zs 0 0 = Q zs 0 0)⟩
  case round =>
    obtain ⟨k, q, hk, rfl, rfl, hq0, hq1, HQ⟩ := hrel
    by_cases hlt : k < len
    · obtain ⟨g, rfl, hg, hcell, hz0, hz1⟩ := HC.out.1 k hlt
      have HLT : Hid (k < zs.length) := by rw [← HC.out.2]; exact hlt
      obtain ⟨c, hcc⟩ : ∃ c, zs.getD k 0 = c := ⟨_, rfl⟩
      rw [hcc] at hcell hz0 hz1
      have HCC : Hid (zs.getD k 0 = c) := hcc
      clear hcc
      by_cases hq : q = 0
      · subst hq
        by_cases h1 : c = 34 ∨ c = 39
        · have HO : Hid (Q zs c (k + 1) = Q zs 0 0) := by
            have := Q_open HLT.out (by rw [HCC.out]; exact h1)
            rw [HCC.out] at this
            exact this.symm.trans HQ.out
          rcases h1 with rfl | rfl
          · go_wp2
            go_round
            case rel => exact ⟨k + 1, 34, by omega, by go_num, rfl, by omega, by omega, HO⟩
            case measure => simp [intOf]; omega
          · go_wp2
            go_round
            case rel => exact ⟨k + 1, 39, by omega, by go_num, rfl, by omega, by omega, HO⟩
            case measure => simp [intOf]; omega
        · have g1 : (c == 34) = false := by simp; omega
          have g2 : (c == 39) = false := by simp; omega
          by_cases h2 : c = 62
          · have g3 : (c == 62) = true := by simp [h2]
            have HH : Hid ((k : Int) = Q zs 0 0) := (Q_hit HLT.out (by rw [HCC.out]; exact h2)).symm.trans HQ.out
            clear h1 h2
            go_wp2
            go_ret
            exact ⟨ret_int HH.out, rfl⟩
          · have g3 : (c == 62) = false := by simp [h2]
            have HO : Hid (Q zs 0 (k + 1) = Q zs 0 0) := (Q_pass HLT.out (by rw [HCC.out]; exact h1) (by rw [HCC.out]; exact h2)).symm.trans HQ.out
            clear h1 h2
            go_wp2
            go_round
            case rel => exact ⟨k + 1, 0, by omega, by go_num, rfl, by omega, by omega, HO⟩
            case measure => simp [intOf]; omega
      · have gq : (q != 0) = true := by simp [hq]
        by_cases h1 : c = q
        · have HO : Hid (Q zs 0 (k + 1) = Q zs 0 0) := (Q_close HLT.out hq (by rw [HCC.out]; exact h1)).symm.trans HQ.out
          have g1 : (c == q) = true := by simp [h1]
          clear h1 hq
          go_wp2
          go_round
          case rel => exact ⟨k + 1, 0, by omega, by go_num, rfl, by omega, by omega, HO⟩
          case measure => simp [intOf]; omega
        · have HO : Hid (Q zs q (k + 1) = Q zs 0 0) := (Q_in HLT.out hq (by rw [HCC.out]; exact h1)).symm.trans HQ.out
          have g1 : (c == q) = false := by simp [h1]
          clear h1 hq
          go_wp2
          go_round
          case rel => exact ⟨k + 1, q, by omega, by go_num, rfl, hq0, hq1, HO⟩
          case measure => simp [intOf]; omega
    · have HE : Hid ((-1 : Int) = Q zs 0 0) := by
        have h := HC.out.2
        exact (Q_end (by omega)).symm.trans HQ.out
      go_wp2
      go_ret
      exact ⟨ret_int HE.out, rfl⟩
theorem zzQuotedEnd (a : Option Addr) (len cap : Nat) (zs : List Int) (w : World) (hl : len ≤ 1048576) (hz : len = zs.length) (hc : Lies w a len zs) :
    Calls Trym.prog 16 #[.slice a len cap] w fun e w' => e = .returned (.int .i64 (Q zs 0 0)) ∧ w' = w := by
  have HC : Hid (Lies w a len zs ∧ len = zs.length) := ⟨hc, hz⟩
  clear hc hz
  go_enter Trym.func16, Trym.ntmps16
  go_wp2_with fail
  refine (quotedEnd_any a len cap zs _ hl HC.out.2 HC.out.1).mono ?_
  rintro e w' ⟨rfl, rfl⟩
  go_wp2
  go_ret
  exact ⟨rfl, rfl⟩

/-! ### zzIndexFrom (function 27), the model (17) -/
def Found (zs : List Int) (len lo : Nat) (c : Int) (e : Ending) : Prop :=
  (∃ j : Nat, e = .returned (.int .i64 (j : Int)) ∧ lo ≤ j ∧ j < len ∧ zs.getD j 0 = c ∧ ∀ i, lo ≤ i → i < j → zs.getD i 0 ≠ c) ∨ (e = .returned (.int .i64 (-1)) ∧ ∀ i, lo ≤ i → i < len → zs.getD i 0 ≠ c)

theorem indexFrom_any (a : Option Addr) (len cap lo : Nat) (c : Int) (zs : List Int) (w : World) (hl : len ≤ 1048576) (hlo : lo ≤ len) (hc : Lies w a len zs) :
    Calls Trym.prog 27 #[.slice a len cap, .int .i64 (lo : Int), .int .u8 c] w fun e w' => Found zs len lo c e ∧ w' = w := by
  have HC : Hid (Lies w a len zs) := hc
  clear hc
  go_enter Trym.func27, Trym.ntmps27
  go_wp2
  go_loop [7] (fun i => ∃ k : Nat, lo ≤ k ∧ k ≤ len ∧ i = .int .i64 k ∧ Hid (∀ i, lo ≤ i → i < k → zs.getD i 0 ≠ c)) (fun i => len - (intOf i).toNat)
  case atStart => exact ⟨lo, Nat.le_refl _, hlo, rfl, fun i h1 h2 => absurd h2 (by omega)⟩
  case round =>
    obtain ⟨k, hk0, hk, rfl, HN⟩ := hrel
    by_cases hlt : k < len
    · obtain ⟨g, rfl, hg, hcell, hz0, hz1⟩ := HC.out k hlt
      obtain ⟨x, hx⟩ : ∃ x, zs.getD k 0 = x := ⟨_, rfl⟩
      rw [hx] at hcell hz0 hz1
      have HX : Hid (zs.getD k 0 = x) := hx
      clear hx
      by_cases h1 : x = c
      · have g1 : (x == c) = true := by simp [h1]
        have HE : Hid (x = c) := h1
        clear h1
        go_wp2
        go_ret
        exact ⟨.inl ⟨k, rfl, hk0, hlt, by rw [HX.out, HE.out], HN.out⟩, rfl⟩
      · have g1 : (x == c) = false := by simp [h1]
        have HE : Hid (x ≠ c) := h1
        clear h1
        go_wp2
        go_round
        case rel => exact ⟨k + 1, by omega, by omega, by go_num, fun i h1 h2 => by
          by_cases e : i = k
          · rw [e, HX.out]; exact HE.out
          · exact HN.out i h1 (by omega)⟩
        case measure => simp [intOf]; omega
    · have HK : Hid (len ≤ k) := by show len ≤ k; omega
      go_wp2
      go_ret
      exact ⟨.inr ⟨rfl, fun i h1 h2 => HN.out i h1 (by have := HK.out; omega)⟩, rfl⟩

/-- The closing quote is found at j: the answer is reached from behind it. -/
theorem found_next {zs : List Int} {len k j : Nat} {c R : Int} (hO : Q zs c (k + 1) = R ∧ c ≠ 0) (hz : len = zs.length) (h1 : k + 1 ≤ j) (h2 : j < len) (h3 : zs.getD j 0 = c) (h4 : ∀ i, k + 1 ≤ i → i < j → zs.getD i 0 ≠ c) : Q zs 0 (j + 1) = R := by
  have e := Q_skip (l := zs) hO.2 (j - (k + 1)) (k + 1) (by omega) (fun i a b => h4 i a (by omega))
  rw [show k + 1 + (j - (k + 1)) = j from by omega, hO.1] at e
  rw [e]; exact (Q_close (by omega) hO.2 h3).symm
/-- No closing quote. -/
theorem lost {zs : List Int} {len k : Nat} {c R : Int} (hO : Q zs c (k + 1) = R ∧ c ≠ 0) (hz : len = zs.length) (h1 : k < len) (h : ∀ i, k + 1 ≤ i → i < len → zs.getD i 0 ≠ c) : (-1 : Int) = R := by
  have e := Q_skip (l := zs) hO.2 (len - (k + 1)) (k + 1) (by omega) (fun i a b => h i a (by omega))
  rw [show k + 1 + (len - (k + 1)) = len from by omega, hO.1, Q_end (by omega)] at e
  exact e.symm

set_option maxHeartbeats 400000 in
theorem model_any (a : Option Addr) (len cap : Nat) (zs : List Int) (w : World) (hl : len ≤ 1048576) (hz : len = zs.length) (hc : Lies w a len zs) :
    Calls Trym.prog 17 #[.slice a len cap] w fun e w' => e = .returned (.int .i64 (Q zs 0 0)) ∧ w' = w := by
  have HC : Hid (Lies w a len zs ∧ len = zs.length) := ⟨hc, hz⟩
  clear hc hz
  go_enter Trym.func17, Trym.ntmps17
  go_wp2
  go_loopw [3] (fun i wr => ∃ k : Nat, k ≤ len ∧ i = .int .i64 k ∧ wr = w ∧ Hid (Q zs 0 k = Q zs 0 0)) (fun i _ => len - (intOf i).toNat)
  case atStart => exact ⟨0, Nat.zero_le _, rfl, rfl, (rfl : Q zs 0 0 = Q zs 0 0)⟩
  case round =>
    obtain ⟨k, hk, rfl, rfl, HQ⟩ := hrel
    by_cases hlt : k < len
    · have hcopy := HC.out.1
      have HL : Hid (Lies wr a len zs) := hcopy
      obtain ⟨g, hga, hg, hcell, hz0, hz1⟩ := hcopy k hlt
      clear hcopy
      have HLT : Hid (k < zs.length) := by rw [← HC.out.2]; exact hlt
      obtain ⟨c, hcc⟩ : ∃ c, zs.getD k 0 = c := ⟨_, rfl⟩
      rw [hcc] at hcell hz0 hz1
      have HCC : Hid (zs.getD k 0 = c) := hcc
      subst hga
      clear hcc
      by_cases h2 : c = 62
      · have g3 : (c == 62) = true := by simp [h2]
        have HH : Hid ((k : Int) = Q zs 0 0) := (Q_hit HLT.out (by rw [HCC.out]; exact h2)).symm.trans HQ.out
        clear h2
        go_wp2
        go_ret
        exact ⟨ret_int HH.out, rfl⟩
      · have g3 : (c == 62) = false := by simp [h2]
        by_cases h1 : c = 34 ∨ c = 39
        · have HO : Hid (Q zs c (k + 1) = Q zs 0 0 ∧ c ≠ 0) := by
            have := Q_open HLT.out (by rw [HCC.out]; exact h1)
            rw [HCC.out] at this
            exact ⟨this.symm.trans HQ.out, by omega⟩
          have HF : Hid (∀ w, Lies w (some ⟨g, 0, none⟩) len zs → Calls Trym.prog 27 #[.slice (some ⟨g, 0, none⟩) len cap, .int .i64 ((k : Int) + 1), .int .u8 c] w fun e w' => Found zs len (k + 1) c e ∧ w' = w) := fun w h =>
            indexFrom_any (some ⟨g, 0, none⟩) len cap (k + 1) c zs w hl (by omega) h
          by_cases h3 : c = 34
          · have g1 : (c == 34) = true := by simp [h3]
            clear h1 h2 h3
            go_wp2_with fail
            refine Calls.mono (HF.out _ HL.out) ?_
            rintro e w1 ⟨⟨j, rfl, hj1, hj2, hj3, hj4⟩ | ⟨rfl, hno⟩, rfl⟩
            · have HR : Hid (Q zs 0 (j + 1) = Q zs 0 0) := found_next HO.out HC.out.2 hj1 hj2 hj3 hj4
              clear hj3 hj4
              go_wp2
              go_roundw
              case rel => exact ⟨j + 1, by omega, by go_num, by first | rfl | trivial, HR⟩
              case measure => simp [intOf]; omega
            · have HR : Hid ((-1 : Int) = Q zs 0 0) := lost HO.out HC.out.2 (by omega) hno
              clear hno
              go_wp2
              go_ret
              exact ⟨ret_int HR.out, rfl⟩
          · have g1 : (c == 34) = false := by simp [h3]
            have g2 : (c == 39) = true := by simp; omega
            clear h1 h2 h3
            go_wp2_with fail
            refine Calls.mono (HF.out _ HL.out) ?_
            rintro e w1 ⟨⟨j, rfl, hj1, hj2, hj3, hj4⟩ | ⟨rfl, hno⟩, rfl⟩
            · have HR : Hid (Q zs 0 (j + 1) = Q zs 0 0) := found_next HO.out HC.out.2 hj1 hj2 hj3 hj4
              clear hj3 hj4
              go_wp2
              go_roundw
              case rel => exact ⟨j + 1, by omega, by go_num, by first | rfl | trivial, HR⟩
              case measure => simp [intOf]; omega
            · have HR : Hid ((-1 : Int) = Q zs 0 0) := lost HO.out HC.out.2 (by omega) hno
              clear hno
              go_wp2
              go_ret
              exact ⟨ret_int HR.out, rfl⟩
        · have g1 : (c == 34) = false := by simp; omega
          have g2 : (c == 39) = false := by simp; omega
          have HO : Hid (Q zs 0 (k + 1) = Q zs 0 0) := (Q_pass HLT.out (by rw [HCC.out]; exact h1) (by rw [HCC.out]; exact h2)).symm.trans HQ.out
          clear h1 h2
          go_wp2
          go_roundw
          case rel => exact ⟨k + 1, by omega, by go_num, by first | rfl | trivial, HO⟩
          case measure => simp [intOf]; omega
    · have HE : Hid ((-1 : Int) = Q zs 0 0) := by
        have h := HC.out.2
        exact (Q_end (by omega)).symm.trans HQ.out
      go_wp2
      go_ret
      exact ⟨ret_int HE.out, rfl⟩

end Go.Proofs.Qxb6602400aMods.Scan
