/-
  THE SIZE GUARDS: zzBytes_.. (functions 7, 14, 17: one text three times), tooBigLookupB1 (8).
-/
import Derived.Test.Qxb6601955aModsKadBase
namespace Go.Proofs.Qxb6601955aMods.Kad
open Go.RowKit

set_option maxHeartbeats 400000 in
theorem bytes7 (a : Option Addr) (len cap : Nat) (I S : Nat → ByteArray) (N : Nat → Int) (w : World) (hc : Cands w a len I S N) (hl : len ≤ 9223372036854775807) :
    Calls Trym.prog 7 #[.slice a len cap] w fun e w' => SomeBool e ∧ w' = w := by
  by_cases hm : len ≤ 1048576
  · have t1 : decide ((1048576 : Int) < (len : Int)) = false := decide_eq_false (by omega)
    have HC : Hid (Cands w a len I S N) := hc
    clear hc
    go_enter Trym.func7, Trym.ntmps7
    go_wp2
    go_loop [3, 4] (fun z i => ∃ (k : Nat) (t : Int), k ≤ len ∧ i = .int .i64 k ∧ z = .int .i64 t ∧ 0 ≤ t ∧ t ≤ 1048576) (fun _ i => len - (intOf i).toNat)
    case atStart => exact ⟨0, len, by omega, rfl, rfl, by omega, by omega⟩
    case round =>
      obtain ⟨k, t, hk, rfl, rfl, ht0, ht1⟩ := hrel
      by_cases hlt : k < len
      · obtain ⟨b, off, rfl, hb, c0, c1, c2⟩ := HC.out k hlt
        go_wp2
        · go_ret
          exact ⟨SomeBool.mk _, rfl⟩
        · go_ret
          exact ⟨SomeBool.mk _, rfl⟩
        · go_ret
          exact ⟨SomeBool.mk _, rfl⟩
        · go_ret
          exact ⟨SomeBool.mk _, rfl⟩
        · go_round
          case rel => exact ⟨k + 1, _, by omega, by go_num, rfl, by omega, by omega⟩
          case measure => simp [intOf]; omega
      · go_wp2
        go_ret
        exact ⟨SomeBool.mk _, rfl⟩
  · clear hc
    go_enter Trym.func7, Trym.ntmps7
    go_wp2
    go_ret
    exact ⟨SomeBool.mk _, rfl⟩

set_option maxHeartbeats 400000 in
theorem bytes14 (a : Option Addr) (len cap : Nat) (I S : Nat → ByteArray) (N : Nat → Int) (w : World) (hc : Cands w a len I S N) (hl : len ≤ 9223372036854775807) :
    Calls Trym.prog 14 #[.slice a len cap] w fun e w' => SomeBool e ∧ w' = w := by
  by_cases hm : len ≤ 1048576
  · have t1 : decide ((1048576 : Int) < (len : Int)) = false := decide_eq_false (by omega)
    have HC : Hid (Cands w a len I S N) := hc
    clear hc
    go_enter Trym.func14, Trym.ntmps14
    go_wp2
    go_loop [3, 4] (fun z i => ∃ (k : Nat) (t : Int), k ≤ len ∧ i = .int .i64 k ∧ z = .int .i64 t ∧ 0 ≤ t ∧ t ≤ 1048576) (fun _ i => len - (intOf i).toNat)
    case atStart => exact ⟨0, len, by omega, rfl, rfl, by omega, by omega⟩
    case round =>
      obtain ⟨k, t, hk, rfl, rfl, ht0, ht1⟩ := hrel
      by_cases hlt : k < len
      · obtain ⟨b, off, rfl, hb, c0, c1, c2⟩ := HC.out k hlt
        go_wp2
        · go_ret
          exact ⟨SomeBool.mk _, rfl⟩
        · go_ret
          exact ⟨SomeBool.mk _, rfl⟩
        · go_ret
          exact ⟨SomeBool.mk _, rfl⟩
        · go_ret
          exact ⟨SomeBool.mk _, rfl⟩
        · go_round
          case rel => exact ⟨k + 1, _, by omega, by go_num, rfl, by omega, by omega⟩
          case measure => simp [intOf]; omega
      · go_wp2
        go_ret
        exact ⟨SomeBool.mk _, rfl⟩
  · clear hc
    go_enter Trym.func14, Trym.ntmps14
    go_wp2
    go_ret
    exact ⟨SomeBool.mk _, rfl⟩

set_option maxHeartbeats 400000 in
theorem bytes17 (a : Option Addr) (len cap : Nat) (I S : Nat → ByteArray) (N : Nat → Int) (w : World) (hc : Cands w a len I S N) (hl : len ≤ 9223372036854775807) :
    Calls Trym.prog 17 #[.slice a len cap] w fun e w' => SomeBool e ∧ w' = w := by
  by_cases hm : len ≤ 1048576
  · have t1 : decide ((1048576 : Int) < (len : Int)) = false := decide_eq_false (by omega)
    have HC : Hid (Cands w a len I S N) := hc
    clear hc
    go_enter Trym.func17, Trym.ntmps17
    go_wp2
    go_loop [3, 4] (fun z i => ∃ (k : Nat) (t : Int), k ≤ len ∧ i = .int .i64 k ∧ z = .int .i64 t ∧ 0 ≤ t ∧ t ≤ 1048576) (fun _ i => len - (intOf i).toNat)
    case atStart => exact ⟨0, len, by omega, rfl, rfl, by omega, by omega⟩
    case round =>
      obtain ⟨k, t, hk, rfl, rfl, ht0, ht1⟩ := hrel
      by_cases hlt : k < len
      · obtain ⟨b, off, rfl, hb, c0, c1, c2⟩ := HC.out k hlt
        go_wp2
        · go_ret
          exact ⟨SomeBool.mk _, rfl⟩
        · go_ret
          exact ⟨SomeBool.mk _, rfl⟩
        · go_ret
          exact ⟨SomeBool.mk _, rfl⟩
        · go_ret
          exact ⟨SomeBool.mk _, rfl⟩
        · go_round
          case rel => exact ⟨k + 1, _, by omega, by go_num, rfl, by omega, by omega⟩
          case measure => simp [intOf]; omega
      · go_wp2
        go_ret
        exact ⟨SomeBool.mk _, rfl⟩
  · clear hc
    go_enter Trym.func17, Trym.ntmps17
    go_wp2
    go_ret
    exact ⟨SomeBool.mk _, rfl⟩

/-- What the size guard leaves, where it lets the input by. -/
def Fits (len : Nat) (N : Nat → Int) : Prop := len ≤ 65536 ∧ ∀ i, i < len → N i ≤ 65536
/-- The size guard's answer. -/
def Guarded (len : Nat) (N : Nat → Int) (e : Ending) : Prop := e = .returned (.bool true) ∨ (e = .returned (.bool false) ∧ Fits len N)

theorem upto {N : Nat → Int} {k : Nat} {m : Int} (h : ∀ j, j < k → N j ≤ m) (hk : N k ≤ m) : ∀ j, j < k + 1 → N j ≤ m := fun j hj => by
  by_cases e : j = k
  · rw [e]; exact hk
  · exact h j (by omega)

set_option maxHeartbeats 400000 in
theorem toobig (a : Option Addr) (len cap : Nat) (I S : Nat → ByteArray) (N : Nat → Int) (w : World) (hc : Cands w a len I S N) (hl : len ≤ 9223372036854775807) :
    Calls Trym.prog 8 #[.slice a len cap] w fun e w' => Guarded len N e ∧ Below w.heap.size w w' := by
  by_cases hm : len ≤ 65536
  · have t1 : decide ((65536 : Int) < (len : Int)) = false := decide_eq_false (by omega)
    have HC : Hid (Cands w a len I S N) := hc
    clear hc
    go_enter Trym.func8, Trym.ntmps8
    go_wp2
    go_loopw [3, 4] (fun z i wr => ∃ (k : Nat) (t : Int), k ≤ len ∧ i = .int .i64 k ∧ z = .int .i64 t ∧ 0 ≤ t ∧ t ≤ 1048576 ∧ (∀ j, j < k → N j ≤ 65536) ∧ Below w.heap.size w wr) (fun _ i _ => len - (intOf i).toNat)
    case atStart => exact ⟨0, 0, by omega, rfl, rfl, by omega, by omega, fun j hj => absurd hj (by omega), Below.refl _ _⟩
    case round =>
      obtain ⟨k, t, hk, rfl, rfl, ht0, ht1, hN, hnx⟩ := hrel
      have HB : Hid (Below w.heap.size w wr ∧ ∀ j, j < k → N j ≤ 65536) := ⟨hnx, hN⟩
      have hsz := hnx.size
      by_cases hlt : k < len
      · obtain ⟨b, off, rfl, hb, c0, c1, c2⟩ := HC.out.below hnx k hlt
        clear hN hnx
        go_wp2
        · go_ret
          exact ⟨.inl rfl, HB.out.1.alloc hsz _⟩
        · go_ret
          exact ⟨.inl rfl, HB.out.1.alloc hsz _⟩
        · have hNk : (((I k).size : Int) ≤ 1048576 ∧ ((S k).size : Int) ≤ 1048576) ∧ N k ≤ 65536 := by assumption
          go_roundw
          case rel => exact ⟨k + 1, _, by omega, by go_num, rfl, by omega, by omega, upto HB.out.2 hNk.2, HB.out.1.alloc hsz _⟩
          case measure => simp [intOf]; omega
        · go_ret
          exact ⟨.inl rfl, HB.out.1.alloc hsz _⟩
        · have hNk : (((I k).size : Int) ≤ 1048576 ∧ ((S k).size : Int) ≤ 1048576) ∧ N k ≤ 65536 := by assumption
          go_roundw
          case rel => exact ⟨k + 1, _, by omega, by go_num, rfl, by omega, by omega, upto HB.out.2 hNk.2, HB.out.1.alloc hsz _⟩
          case measure => simp [intOf]; omega
        · go_ret
          exact ⟨.inl rfl, HB.out.1.alloc hsz _⟩
        · go_ret
          exact ⟨.inl rfl, HB.out.1.alloc hsz _⟩
      · have hkl : k = len := by omega
        clear hN hnx
        go_wp2
        go_ret
        exact ⟨.inr ⟨rfl, hm, by rw [← hkl]; exact HB.out.2⟩, HB.out.1⟩
  · clear hc
    go_enter Trym.func8, Trym.ntmps8
    go_wp2
    go_ret
    exact ⟨.inl rfl, Below.refl _ _⟩

end Go.Proofs.Qxb6601955aMods.Kad
