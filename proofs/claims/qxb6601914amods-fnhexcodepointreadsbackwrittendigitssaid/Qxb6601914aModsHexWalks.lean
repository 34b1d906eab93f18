/-
  THE WALKS THAT BOTH LAWS OVER hexCodePoint SHARE: the size guards, the copy of a slice of bytes, the digit's value, hexCodePoint itself. One contract a function.
-/
import Derived.Test.Qxb6601914aModsProg
import Derived.Test.Qxb6601914aModsHexPlain
import Derived.WalkKit
import Derived.WalkSpells
import Derived.WalkLawsBesides
import Derived.Deep.OwnRows
namespace Go.Proofs.Qxb6601914aMods.Hex
open Go.RowKit

theorem Trym.info5 : (Trym.prog.info? 5).map (fun i => (i.zero, i.size, i.bytes)) = some (some (.int .u8 0), 1, 1) := by kernel_rfl

/-! ### The byte of the constant text at place k -/
def digAt (k : Nat) : Int := if k < 10 then 48 + k else 87 + k

theorem dig_at (k : Nat) (h : k < 16) (h' : k < (ByteArray.mk #[48, 49, 50, 51, 52, 53, 54, 55, 56, 57, 97, 98, 99, 100, 101, 102]).size) :
    (((ByteArray.mk #[48, 49, 50, 51, 52, 53, 54, 55, 56, 57, 97, 98, 99, 100, 101, 102])[k]'h').toNat : Int) = digAt k := by
  match k, h with
  | 0, _ => rfl
  | 1, _ => rfl
  | 2, _ => rfl
  | 3, _ => rfl
  | 4, _ => rfl
  | 5, _ => rfl
  | 6, _ => rfl
  | 7, _ => rfl
  | 8, _ => rfl
  | 9, _ => rfl
  | 10, _ => rfl
  | 11, _ => rfl
  | 12, _ => rfl
  | 13, _ => rfl
  | 14, _ => rfl
  | 15, _ => rfl
  | n + 16, h => omega

/-- What the search in the text comes to, 'lc' the folded byte. -/
theorem fold_hit {c lc : Int} {k : Nat} (hk : k < 16) (hlc : (lc = c ∧ ¬ (65 ≤ c ∧ c ≤ 90)) ∨ (lc = c + 32 ∧ 65 ≤ c ∧ c ≤ 90)) (h : digAt k = lc) : (k : Int) = hexv c := by
  unfold digAt at h; unfold hexv
  split at h <;> split <;> first | omega | (split <;> first | omega | (split <;> omega))
theorem fold_miss {c lc : Int} (hlc : (lc = c ∧ ¬ (65 ≤ c ∧ c ≤ 90)) ∨ (lc = c + 32 ∧ 65 ≤ c ∧ c ≤ 90)) (h : ∀ j : Nat, j < 16 → digAt j ≠ lc) : (-1 : Int) = hexv c := by
  unfold hexv
  split
  · exact absurd (by unfold digAt; split <;> omega) (h (c - 48).toNat (by omega))
  · split
    · exact absurd (by unfold digAt; split <;> omega) (h (c - 87).toNat (by omega))
    · split
      · exact absurd (by unfold digAt; split <;> omega) (h (c - 55).toNat (by omega))
      · rfl

theorem ret_int {k : IntKind} {a b : Int} (h : a = b) : Ending.returned (.int k a) = .returned (.int k b) := by rw [h]

set_option maxHeartbeats 400000 in
theorem digit_any (c : Int) (w : World) (h0 : 0 ≤ c) (h1 : c ≤ 255) :
    Calls Trym.prog 13 #[.int .u8 c] w fun e w' => e = .returned (.int .i64 (hexv c)) ∧ w' = w := by
  obtain ⟨lc, hlc⟩ : ∃ lc : Int, (lc = c ∧ ¬ (65 ≤ c ∧ c ≤ 90)) ∨ (lc = c + 32 ∧ 65 ≤ c ∧ c ≤ 90) := by
    by_cases h : 65 ≤ c ∧ c ≤ 90
    · exact ⟨c + 32, .inr ⟨rfl, h.1, h.2⟩⟩
    · exact ⟨c, .inl ⟨rfl, h⟩⟩
  rcases hlc with ⟨rfl, h2⟩ | ⟨rfl, h2, h3⟩
  · by_cases h3 : 65 ≤ lc
    · have h4 : 90 < lc := by omega
      clear h2
      go_enter Trym.func13, Trym.ntmps13
      go_wp2
      go_loop [4] (fun i => ∃ k : Nat, k ≤ 16 ∧ i = .int .i64 k ∧ ∀ j : Nat, j < k → digAt j ≠ lc) (fun i => 16 - (intOf i).toNat)
      case atStart => exact ⟨0, by omega, rfl, fun j hj => absurd hj (by omega)⟩
      case round =>
        obtain ⟨k, hk, rfl, hno⟩ := hrel
        have HN : Hid (∀ j : Nat, j < k → digAt j ≠ lc) := hno
        clear hno
        go_wp2
        · have hk16 : k < 16 := by omega
          have ht : ((((ByteArray.mk #[48, 49, 50, 51, 52, 53, 54, 55, 56, 57, 97, 98, 99, 100, 101, 102])[k]'(by show k < 16; exact hk16)).toNat : Int) == lc) = true := by assumption
          rw [dig_at k hk16] at ht
          go_ret
          exact ⟨ret_int (fold_hit hk16 (.inl ⟨rfl, by omega⟩) (by simpa using ht)), rfl⟩
        · have hk16 : k < 16 := by omega
          have ht : ((((ByteArray.mk #[48, 49, 50, 51, 52, 53, 54, 55, 56, 57, 97, 98, 99, 100, 101, 102])[k]'(by show k < 16; exact hk16)).toNat : Int) == lc) = false := by assumption
          rw [dig_at k hk16] at ht
          go_round
          case rel => exact ⟨k + 1, by omega, by go_num, fun j hj => by
            by_cases e : j = k
            · subst e; simpa using ht
            · exact HN.out j (by omega)⟩
          case measure => simp [intOf]; omega
        · have hk16 : k = 16 := by omega
          subst hk16
          go_ret
          exact ⟨ret_int (fold_miss (.inl ⟨rfl, by omega⟩) HN.out), rfl⟩
    · clear h2
      go_enter Trym.func13, Trym.ntmps13
      go_wp2
      go_loop [4] (fun i => ∃ k : Nat, k ≤ 16 ∧ i = .int .i64 k ∧ ∀ j : Nat, j < k → digAt j ≠ lc) (fun i => 16 - (intOf i).toNat)
      case atStart => exact ⟨0, by omega, rfl, fun j hj => absurd hj (by omega)⟩
      case round =>
        obtain ⟨k, hk, rfl, hno⟩ := hrel
        have HN : Hid (∀ j : Nat, j < k → digAt j ≠ lc) := hno
        clear hno
        go_wp2
        · have hk16 : k < 16 := by omega
          have ht : ((((ByteArray.mk #[48, 49, 50, 51, 52, 53, 54, 55, 56, 57, 97, 98, 99, 100, 101, 102])[k]'(by show k < 16; exact hk16)).toNat : Int) == lc) = true := by assumption
          rw [dig_at k hk16] at ht
          go_ret
          exact ⟨ret_int (fold_hit hk16 (.inl ⟨rfl, by omega⟩) (by simpa using ht)), rfl⟩
        · have hk16 : k < 16 := by omega
          have ht : ((((ByteArray.mk #[48, 49, 50, 51, 52, 53, 54, 55, 56, 57, 97, 98, 99, 100, 101, 102])[k]'(by show k < 16; exact hk16)).toNat : Int) == lc) = false := by assumption
          rw [dig_at k hk16] at ht
          go_round
          case rel => exact ⟨k + 1, by omega, by go_num, fun j hj => by
            by_cases e : j = k
            · subst e; simpa using ht
            · exact HN.out j (by omega)⟩
          case measure => simp [intOf]; omega
        · have hk16 : k = 16 := by omega
          subst hk16
          go_ret
          exact ⟨ret_int (fold_miss (.inl ⟨rfl, by omega⟩) HN.out), rfl⟩
  · go_enter Trym.func13, Trym.ntmps13
    go_wp2
    go_loop [4] (fun i => ∃ k : Nat, k ≤ 16 ∧ i = .int .i64 k ∧ ∀ j : Nat, j < k → digAt j ≠ c + 32) (fun i => 16 - (intOf i).toNat)
    case atStart => exact ⟨0, by omega, rfl, fun j hj => absurd hj (by omega)⟩
    case round =>
      obtain ⟨k, hk, rfl, hno⟩ := hrel
      have HN : Hid (∀ j : Nat, j < k → digAt j ≠ c + 32) := hno
      clear hno
      go_wp2
      · have hk16 : k < 16 := by omega
        have ht : ((((ByteArray.mk #[48, 49, 50, 51, 52, 53, 54, 55, 56, 57, 97, 98, 99, 100, 101, 102])[k]'(by show k < 16; exact hk16)).toNat : Int) == c + 32) = true := by assumption
        rw [dig_at k hk16] at ht
        go_ret
        exact ⟨ret_int (fold_hit hk16 (.inr ⟨rfl, h2, h3⟩) (by simpa using ht)), rfl⟩
      · have hk16 : k < 16 := by omega
        have ht : ((((ByteArray.mk #[48, 49, 50, 51, 52, 53, 54, 55, 56, 57, 97, 98, 99, 100, 101, 102])[k]'(by show k < 16; exact hk16)).toNat : Int) == c + 32) = false := by assumption
        rw [dig_at k hk16] at ht
        go_round
        case rel => exact ⟨k + 1, by omega, by go_num, fun j hj => by
          by_cases e : j = k
          · subst e; simpa using ht
          · exact HN.out j (by omega)⟩
        case measure => simp [intOf]; omega
      · have hk16 : k = 16 := by omega
        subst hk16
        go_ret
        exact ⟨ret_int (fold_miss (.inr ⟨rfl, h2, h3⟩) HN.out), rfl⟩

/-! ### The size guards (functions 10 and 14): in both laws the whole input's length is held at 2^20 -/
theorem guard10_yes (a : Option Addr) (n c : Nat) (d : Int) (w : World) (h : n ≤ 1048576) :
    Calls Trym.prog 10 #[.slice a n c, .int .i64 d] w fun e w' => e = .returned (.bool true) ∧ w' = w := by
  go_enter Trym.func10, Trym.ntmps10
  go_wp2
  go_ret
  exact ⟨rfl, rfl⟩
theorem guard10_no (a : Option Addr) (n c : Nat) (d : Int) (w : World) (h : ¬ n ≤ 1048576) :
    Calls Trym.prog 10 #[.slice a n c, .int .i64 d] w fun e w' => e = .returned (.bool false) ∧ w' = w := by
  go_enter Trym.func10, Trym.ntmps10
  go_wp2
  go_ret
  exact ⟨rfl, rfl⟩
theorem guard14_yes (v m k : Int) (a : Option Addr) (n c : Nat) (w : World) (h : n ≤ 1048576) :
    Calls Trym.prog 14 #[.int .u32 v, .int .i64 m, .int .u8 k, .slice a n c] w fun e w' => e = .returned (.bool true) ∧ w' = w := by
  go_enter Trym.func14, Trym.ntmps14
  go_wp2
  go_ret
  exact ⟨rfl, rfl⟩
theorem guard14_no (v m k : Int) (a : Option Addr) (n c : Nat) (w : World) (h : ¬ n ≤ 1048576) :
    Calls Trym.prog 14 #[.int .u32 v, .int .i64 m, .int .u8 k, .slice a n c] w fun e w' => e = .returned (.bool false) ∧ w' = w := by
  go_enter Trym.func14, Trym.ntmps14
  go_wp2
  go_ret
  exact ⟨rfl, rfl⟩

/-! ### The copy (function 11) -/
theorem copy_nil (w : World) : Calls Trym.prog 11 #[.slice none 0 0] w fun e w' => e = .returned (.slice none 0 0) ∧ w' = w := by
  have hq := fun (w : World) (a : Option Addr) (n c n' c' : Nat) => Lib.run_eql_slice_nil (P := Trym.prog) w 22 5 a n c n' c' Trym.underlying22
  go_enter Trym.func11, Trym.ntmps11
  go_wp2
  go_ret
  exact ⟨rfl, rfl⟩

theorem copy_step {w wr : World} {len k : Nat} {zs : List Int} (h : wr.rowIs w.heap.size 5 len (fun j => .int .u8 (if j < k then zs.getD j 0 else 0))) :
    (wr.setCell ⟨w.heap.size, k, none⟩ (.int .u8 (zs.getD k 0))).rowIs w.heap.size 5 len (fun j => .int .u8 (if j < k + 1 then zs.getD j 0 else 0)) := by
  refine (h.set k _).congr fun j _ => ?_
  by_cases e : j = k
  · subst e; simp
  · simp only [e, if_false]
    by_cases hj : j < k
    · rw [if_pos hj, if_pos (by omega)]
    · rw [if_neg hj, if_neg (by omega)]

set_option maxHeartbeats 400000 in
theorem copy_some (b off len cap : Nat) (spot : Option Nat) (zs : List Int) (w : World) (hm : len ≤ 1048576) (hb : 0 < len → b < w.heap.size)
    (hc : ∀ j, j < len → spot = none ∧ w.cell? ⟨b, off + j, none⟩ = some (.int .u8 (zs.getD j 0))) :
    Calls Trym.prog 11 #[.slice (some ⟨b, off, spot⟩) len cap] w fun e w' => e = .returned (.slice (some ⟨w.heap.size, 0, none⟩) len len) ∧
      w'.rowIs w.heap.size 5 len (fun j => .int .u8 (zs.getD j 0)) ∧ Below w.heap.size w w' := by
  have hq := fun (w : World) (a : Option Addr) (n c n' c' : Nat) => Lib.run_eql_slice_nil (P := Trym.prog) w 22 5 a n c n' c' Trym.underlying22
  have hmk := run_make_row' (P := Trym.prog) 22 5 (.int .u8 0) 1 Trym.underlying22 Trym.info5 rfl .i64 .i64 len (by omega) (by omega)
  go_enter Trym.func11, Trym.ntmps11
  go_wp2
  go_loopw [4] (fun i wr => ∃ k : Nat, k ≤ len ∧ i = .int .i64 k ∧ wr.rowIs w.heap.size 5 len (fun j => .int .u8 (if j < k then zs.getD j 0 else 0)) ∧ Below w.heap.size w wr) (fun i _ => len - (intOf i).toNat)
  case atStart => exact ⟨0, Nat.zero_le _, rfl, (World.rowIs_made w (.int .u8 0) len 5).congr (fun j _ => by simp), (Below.refl _ _).alloc (Nat.le_refl _) _⟩
  case round =>
    obtain ⟨k, hk, rfl, hrow, hnx⟩ := hrel
    by_cases hlt : k < len
    · obtain ⟨hs, hck⟩ := hc k hlt
      subst hs
      have hbb := hb (by omega)
      have hcx : wr.cell? ⟨b, off + k, none⟩ = some (.int .u8 (zs.getD k 0)) := (hnx.cell (by exact hbb)).trans hck
      have hfz := hrow.frozen k
      have hcd := hrow.cell hlt
      have R := copy_step hrow
      have N := hnx.setCell (p := ⟨w.heap.size, k, none⟩) (Nat.le_refl _) (.int .u8 (zs.getD k 0))
      have HR : Hid ((wr.setCell ⟨w.heap.size, k, none⟩ (.int .u8 (zs.getD k 0))).rowIs w.heap.size 5 len (fun j => .int .u8 (if j < k + 1 then zs.getD j 0 else 0)) ∧ Below w.heap.size w (wr.setCell ⟨w.heap.size, k, none⟩ (.int .u8 (zs.getD k 0)))) := ⟨R, N⟩
      clear R N hrow hnx hck hc
      go_wp2
      go_roundw
      case rel => exact ⟨k + 1, by omega, by go_num, HR.out.1, HR.out.2⟩
      case measure => simp [intOf]; omega
    · have hkl : k = len := by omega
      subst hkl
      clear hc
      go_wp2
      go_ret
      exact ⟨rfl, hrow.congr (fun j hj => by simp [hj]), hnx⟩

/-! ### hexCodePoint (function 52): the first d bytes -/
theorem join32 (v d : Int) (h0 : 0 ≤ d) (h1 : d < 16) : bits .or .u32 (v % 4294967296 * 16 % 4294967296) d = (v * 16 + d) % 4294967296 := by
  rw [bits_join .u32 32 (by decide) (fun n a b => by rw [IntKind.wrap_u32]; omega) 4 _ _ (by omega) (by omega) (by omega) h0 (by omega) (by omega)]
  omega

theorem hexv_ten (c : Int) (h0 : 48 ≤ c) (h1 : c ≤ 57) : hexv c = c - 48 := by unfold hexv; rw [if_pos ⟨h0, h1⟩]
theorem hexv_low (c : Int) (h0 : 97 ≤ c) (h1 : c ≤ 102) : hexv c = c - 97 + 10 := by unfold hexv; rw [if_neg (by omega), if_pos ⟨h0, h1⟩]; omega
theorem hexv_cap (c : Int) (h0 : 65 ≤ c) (h1 : c ≤ 70) : hexv c = c - 65 + 10 := by unfold hexv; rw [if_neg (by omega), if_neg (by omega), if_pos ⟨h0, h1⟩]; omega
theorem hexv_no (c : Int) (h : ¬ (48 ≤ c ∧ c ≤ 57) ∧ ¬ (97 ≤ c ∧ c ≤ 102) ∧ ¬ (65 ≤ c ∧ c ≤ 70)) : hexv c = -1 := by unfold hexv; rw [if_neg h.1, if_neg h.2.1, if_neg h.2.2]

/-- Its answer: the number of the digits, modulo 2^32 and read as an int32, where all are digits; else 0, false. -/
def AnsI (l : List Int) (e : Ending) : Prop :=
  (good l ∧ e = .returned (.tuple #[.int .i32 (wrap32 (ev l % 4294967296)), .bool true])) ∨ ((∃ c ∈ l, hexv c < 0) ∧ e = .returned (.tuple #[.int .i32 0, .bool false]))

set_option maxHeartbeats 400000 in
theorem hcp_some (b off len cap d : Nat) (zs : List Int) (w : World) (hd : d ≤ len) (hlc : len ≤ cap) (hz : len ≤ zs.length) (hm2 : cap ≤ 9223372036854775807)
    (hc : ∀ j, j < len → w.cell? ⟨b, off + j, none⟩ = some (.int .u8 (zs.getD j 0))) :
    Calls Trym.prog 52 #[.slice (some ⟨b, off, none⟩) len cap, .int .i64 d] w fun e w' => AnsI (zs.take d) e ∧ w' = w := by
  have hnd : ¬ len < d := by omega
  go_enter Trym.func52, Trym.ntmps52
  go_wp2
  go_loop [6, 17] (fun v i => ∃ k : Nat, k ≤ d ∧ i = .int .i64 k ∧ v = .int .u32 (ev (zs.take k) % 4294967296) ∧ good (zs.take k)) (fun _ i => d - (intOf i).toNat)
  case atStart => exact ⟨0, by omega, rfl, rfl, by intro c hcm; simp at hcm⟩
  case round =>
    obtain ⟨k, hk, rfl, rfl, hg⟩ := hrel
    have HG : Hid (good (zs.take k)) := hg
    clear hg
    by_cases hkd : k < d
    · have hcell : w.cell? ⟨b, off + k, none⟩ = some (.int .u8 (zs.getD k 0)) := hc _ (by omega)
      have HE : Hid (ev (zs.take (k + 1)) = ev (zs.take k) * 16 + hexv (zs.getD k 0)) := ev_take (by omega)
      have HT : Hid (zs.take (k + 1) = zs.take k ++ [zs.getD k 0]) := take_snoc (by omega)
      have HM : Hid (zs.getD k 0 ∈ zs.take d) := by
        show zs.getD k 0 ∈ zs.take d
        rw [show zs.getD k 0 = (zs.take d)[k]'(by simp; omega) from by simp [List.getD, show k < zs.length from by omega]]
        exact List.getElem_mem _
      clear hc
      generalize zs.getD k 0 = c at *
      generalize ev (zs.take k) = v at *
      rcases (show (48 ≤ c ∧ c ≤ 57) ∨ (97 ≤ c ∧ c ≤ 102) ∨ (65 ≤ c ∧ c ≤ 70) ∨ (¬ (48 ≤ c ∧ c ≤ 57) ∧ ¬ (97 ≤ c ∧ c ≤ 102) ∧ ¬ (65 ≤ c ∧ c ≤ 70)) from by omega) with ⟨h1, h2⟩ | ⟨h1, h2⟩ | ⟨h1, h2⟩ | hno
      · go_wp2
        go_round
        case rel => exact ⟨k + 1, by omega, by go_num, by rw [HE.out, hexv_ten c h1 h2, join32 v _ (by omega) (by omega)], by
          intro x hx; rw [HT.out] at hx; simp at hx; rcases hx with hx | rfl
          · exact HG.out x hx
          · rw [hexv_ten x h1 h2]; omega⟩
        case measure => simp [intOf]; omega
      · go_wp2
        go_round
        case rel => exact ⟨k + 1, by omega, by go_num, by rw [HE.out, hexv_low c h1 h2, join32 v _ (by omega) (by omega)], by
          intro x hx; rw [HT.out] at hx; simp at hx; rcases hx with hx | rfl
          · exact HG.out x hx
          · rw [hexv_low x h1 h2]; omega⟩
        case measure => simp [intOf]; omega
      · go_wp2
        go_round
        case rel => exact ⟨k + 1, by omega, by go_num, by rw [HE.out, hexv_cap c h1 h2, join32 v _ (by omega) (by omega)], by
          intro x hx; rw [HT.out] at hx; simp at hx; rcases hx with hx | rfl
          · exact HG.out x hx
          · rw [hexv_cap x h1 h2]; omega⟩
        case measure => simp [intOf]; omega
      · have HN := hexv_no c hno
        have HN' : Hid (hexv c = -1) := HN
        obtain ⟨n1, n2, n3⟩ := hno
        clear HN
        go_wp2
        all_goals
          go_ret2
          exact ⟨.inr ⟨⟨c, HM.out, by rw [HN'.out]; omega⟩, rfl⟩, rfl⟩
    · have hkl : k = d := by omega
      subst hkl
      clear hc
      go_wp2
      go_ret2
      exact ⟨.inl ⟨HG.out, rfl⟩, rfl⟩

/-- Too short a slice: 0, false. -/
theorem hcp_short (a : Option Addr) (len cap : Nat) (d : Int) (w : World) (hd : (len : Int) < d) :
    Calls Trym.prog 52 #[.slice a len cap, .int .i64 d] w fun e w' => e = .returned (.tuple #[.int .i32 0, .bool false]) ∧ w' = w := by
  go_enter Trym.func52, Trym.ntmps52
  go_wp2
  go_ret2
  exact ⟨rfl, rfl⟩

/-- The nil slice and no digit: 0, true. -/
theorem hcp_nil (w : World) :
    Calls Trym.prog 52 #[.slice none 0 0, .int .i64 0] w fun e w' => e = .returned (.tuple #[.int .i32 0, .bool true]) ∧ w' = w := by
  go_enter Trym.func52, Trym.ntmps52
  go_wp2
  refine wp_loop_rounds 1 ?_
  rw [rounds_succ]
  go_wp2
  go_ret2
  exact ⟨rfl, rfl⟩

/-! ### ZZHexCodePoint (function 12): it hands on -/
theorem zz_some (b off len cap d : Nat) (zs : List Int) (w : World) (hd : d ≤ len) (hlc : len ≤ cap) (hz : len ≤ zs.length) (hm2 : cap ≤ 9223372036854775807)
    (hc : ∀ j, j < len → w.cell? ⟨b, off + j, none⟩ = some (.int .u8 (zs.getD j 0))) :
    Calls Trym.prog 12 #[.slice (some ⟨b, off, none⟩) len cap, .int .i64 d] w fun e w' => AnsI (zs.take d) e ∧ w' = w := by
  have H := hcp_some b off len cap d zs w hd hlc hz hm2 hc
  clear hc
  go_enter Trym.func12, Trym.ntmps12
  go_wp2_with fail
  refine H.mono ?_
  rintro e w' ⟨⟨hg, rfl⟩ | ⟨hg, rfl⟩, rfl⟩
  · go_wp2
    go_ret2
    exact ⟨.inl ⟨hg, rfl⟩, rfl⟩
  · go_wp2
    go_ret2
    exact ⟨.inr ⟨hg, rfl⟩, rfl⟩
theorem zz_short (a : Option Addr) (len cap : Nat) (d : Int) (w : World) (hd : (len : Int) < d) :
    Calls Trym.prog 12 #[.slice a len cap, .int .i64 d] w fun e w' => e = .returned (.tuple #[.int .i32 0, .bool false]) ∧ w' = w := by
  go_enter Trym.func12, Trym.ntmps12
  go_wp2_with fail
  refine (hcp_short _ _ _ _ _ hd).mono ?_
  rintro e w' ⟨rfl, rfl⟩
  go_wp2
  go_ret2
  exact ⟨rfl, rfl⟩
theorem zz_nil (w : World) :
    Calls Trym.prog 12 #[.slice none 0 0, .int .i64 0] w fun e w' => e = .returned (.tuple #[.int .i32 0, .bool true]) ∧ w' = w := by
  go_enter Trym.func12, Trym.ntmps12
  go_wp2_with fail
  refine (hcp_nil _).mono ?_
  rintro e w' ⟨rfl, rfl⟩
  go_wp2
  go_ret2
  exact ⟨rfl, rfl⟩

end Go.Proofs.Qxb6601914aMods.Hex
