/-
  splitLookupB1 (function 9): three new rows; indicesWhereLookupB1 (13), firstKLookupB1 (12).
-/
import Derived.Test.Qxb6601955aModsKadBase
namespace Go.Proofs.Qxb6601955aMods.Kad
open Go.RowKit

theorem Trym.info9 : (Trym.prog.info? 9).map (fun i => (i.zero, i.size, i.bytes)) = some (some (.string ByteArray.empty), 1, 16) := by kernel_rfl
theorem Trym.info3 : (Trym.prog.info? 3).map (fun i => (i.zero, i.size, i.bytes)) = some (some (.int .i64 0), 1, 8) := by kernel_rfl

/-- One store into a row that is filled from its head. -/
theorem row_step {wr : World} {b t len k : Nat} {V Z : Nat → Value} (h : wr.rowIs b t len (fun j => if j < k then V j else Z j)) :
    (wr.setCell ⟨b, k, none⟩ (V k)).rowIs b t len (fun j => if j < k + 1 then V j else Z j) := by
  refine (h.set k _).congr fun j _ => ?_
  by_cases e : j = k
  · subst e; simp
  · simp only [e, if_false]
    by_cases hj : j < k
    · rw [if_pos hj, if_pos (by omega)]
    · rw [if_neg hj, if_neg (by omega)]
theorem row_full {w : World} {b t len : Nat} {V Z : Nat → Value} (h : w.rowIs b t len (fun j => if j < len then V j else Z j)) : w.rowIs b t len V :=
  h.congr fun j hj => by simp [hj]

set_option maxHeartbeats 400000 in
theorem split (a : Option Addr) (len cap : Nat) (I S : Nat → ByteArray) (N : Nat → Int) (w : World) (hc : Cands w a len I S N) (hl : len ≤ 65536) :
    Calls Trym.prog 9 #[.slice a len cap] w fun e w' => e = .returned (.tuple #[.slice (some ⟨w.heap.size, 0, none⟩) len len, .slice (some ⟨w.heap.size + 1, 0, none⟩) len len, .slice (some ⟨w.heap.size + 1 + 1, 0, none⟩) len len]) ∧
      w'.rowIs w.heap.size 9 len (fun j => .string (I j)) ∧ w'.rowIs (w.heap.size + 1) 9 len (fun j => .string (S j)) ∧ w'.rowIs (w.heap.size + 1 + 1) 3 len (fun j => .int .i64 (N j)) ∧ Below w.heap.size w w' := by
  have HC : Hid (Cands w a len I S N) := hc
  clear hc
  have hmk := run_make_row' (P := Trym.prog) 24 9 (.string ByteArray.empty) 16 Trym.underlying24 Trym.info9 rfl .i64 .i64 len (by omega) (by omega)
  have hmi := run_make_row' (P := Trym.prog) 25 3 (.int .i64 0) 8 Trym.underlying25 Trym.info3 rfl .i64 .i64 len (by omega) (by omega)
  go_enter Trym.func9, Trym.ntmps9
  go_wp2
  go_loopw [8] (fun i wr => ∃ k : Nat, k ≤ len ∧ i = .int .i64 k ∧ wr.rowIs w.heap.size 9 len (fun j => if j < k then .string (I j) else .string ByteArray.empty) ∧
      wr.rowIs (w.heap.size + 1) 9 len (fun j => if j < k then .string (S j) else .string ByteArray.empty) ∧ wr.rowIs (w.heap.size + 1 + 1) 3 len (fun j => if j < k then .int .i64 (N j) else .int .i64 0) ∧ Below w.heap.size w wr)
    (fun i _ => len - (intOf i).toNat)
  case atStart =>
    refine ⟨0, Nat.zero_le _, rfl, ?_, ?_, ?_, ?_⟩
    · exact (((World.rowIs_made w (.string ByteArray.empty) len 9).alloc _).alloc _).congr fun j _ => by simp
    · have h := World.rowIs_made (w.alloc (.cells (madeCells #[Value.string ByteArray.empty] len) 9)) (.string ByteArray.empty) len 9
      rw [Deep.nblk_alloc] at h
      exact (h.alloc _).congr fun j _ => by simp
    · have h := World.rowIs_made ((w.alloc (.cells (madeCells #[Value.string ByteArray.empty] len) 9)).alloc (.cells (madeCells #[Value.string ByteArray.empty] len) 9)) (.int .i64 0) len 3
      rw [Deep.nblk_alloc, Deep.nblk_alloc] at h
      exact h.congr fun j _ => by simp
    · exact (((Below.refl _ _).alloc (Nat.le_refl _) _).alloc (by simp) _).alloc (by simp; omega) _
  case round =>
    obtain ⟨k, hk, rfl, r0, r1, r2, hnx⟩ := hrel
    by_cases hlt : k < len
    · obtain ⟨b, off, rfl, hb, c0, c1, c2⟩ := HC.out k hlt
      have d0 := (hnx.cell (p := ⟨b, off + k * 3, none⟩) (by exact hb)).trans c0
      have d1 := (hnx.cell (p := ⟨b, off + k * 3 + 1, none⟩) (by exact hb)).trans c1
      have d2 := (hnx.cell (p := ⟨b, off + k * 3 + 2, none⟩) (by exact hb)).trans c2
      have f0 := r0.frozen k
      have f1 := r1.frozen k
      have f2 := r2.frozen k
      have e0 := r0.cell hlt
      have e1 := r1.cell hlt
      have e2 := r2.cell hlt
      simp only [Nat.lt_irrefl, if_false] at e0 e1 e2
      have n0 : ¬ b = w.heap.size := by omega
      have n1 : ¬ b = w.heap.size + 1 := by omega
      have n2 : ¬ b = w.heap.size + 1 + 1 := by omega
      have HR : Hid ((((wr.setCell ⟨w.heap.size, k, none⟩ (.string (I k))).setCell ⟨w.heap.size + 1, k, none⟩ (.string (S k))).setCell ⟨w.heap.size + 1 + 1, k, none⟩ (.int .i64 (N k))).rowIs w.heap.size 9 len (fun j => if j < k + 1 then .string (I j) else .string ByteArray.empty) ∧
         (((wr.setCell ⟨w.heap.size, k, none⟩ (.string (I k))).setCell ⟨w.heap.size + 1, k, none⟩ (.string (S k))).setCell ⟨w.heap.size + 1 + 1, k, none⟩ (.int .i64 (N k))).rowIs (w.heap.size + 1) 9 len (fun j => if j < k + 1 then .string (S j) else .string ByteArray.empty) ∧
         (((wr.setCell ⟨w.heap.size, k, none⟩ (.string (I k))).setCell ⟨w.heap.size + 1, k, none⟩ (.string (S k))).setCell ⟨w.heap.size + 1 + 1, k, none⟩ (.int .i64 (N k))).rowIs (w.heap.size + 1 + 1) 3 len (fun j => if j < k + 1 then .int .i64 (N j) else .int .i64 0) ∧
         Below w.heap.size w (((wr.setCell ⟨w.heap.size, k, none⟩ (.string (I k))).setCell ⟨w.heap.size + 1, k, none⟩ (.string (S k))).setCell ⟨w.heap.size + 1 + 1, k, none⟩ (.int .i64 (N k)))) := by
        refine ⟨?_, ?_, ?_, ?_⟩
        · exact ((row_step (V := fun j => .string (I j)) r0).setOther (by simp) _).setOther (by simp; omega) _
        · exact (row_step (V := fun j => .string (S j)) (r1.setOther (by simp) _)).setOther (by simp) _
        · exact row_step (V := fun j => .int .i64 (N j)) ((r2.setOther (by simp; omega) _).setOther (by simp) _)
        · exact ((hnx.setCell (Nat.le_refl _) _).setCell (by simp) _).setCell (by simp; omega) _
      clear r0 r1 r2 hnx c0 c1 c2
      go_wp2
      go_roundw
      case rel => exact ⟨k + 1, by omega, by go_num, HR.out.1, HR.out.2.1, HR.out.2.2.1, HR.out.2.2.2⟩
      case measure => simp [intOf]; omega
    · have hkl : k = len := by omega
      subst hkl
      go_wp2
      go_ret3
      exact ⟨rfl, row_full r0, row_full r1, row_full r2, hnx⟩

end Go.Proofs.Qxb6601955aMods.Kad
