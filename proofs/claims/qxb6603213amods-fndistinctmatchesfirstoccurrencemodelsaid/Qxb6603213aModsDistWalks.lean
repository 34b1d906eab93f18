/-
  THE WALKS: the size guards (functions 5, 6), the copy (7), distinct (10) and ZZdistinct (8).
-/
import Derived.Test.Qxb6603213aModsDistBase
namespace Go.Proofs.Qxb6603213aMods.Dist
open Go.RowKit Go.Maps
open Go.WideMaps (keyOf_string_mk)

theorem Trym.info9 : (Trym.prog.info? 9).map (fun i => (i.zero, i.size, i.bytes)) = some (some (.string ByteArray.empty), 1, 16) := by kernel_rfl
theorem law : Keyed Trym.prog 9 := string_keyed Trym.underlying9
theorem zero4 (w : World) : (zeroValue 4).run Trym.prog w = .ok (.bool false) w := by kernel_rfl

/-! ### The size guards -/
set_option maxHeartbeats 400000 in
theorem bytes5 (a : Option Addr) (len cap : Nat) (P : Nat → ByteArray) (w : World) (hc : Strs w a len P) (hl : len ≤ 9223372036854775807) :
    Calls Trym.prog 5 #[.slice a len cap] w fun e w' => SomeBool e ∧ w' = w := by
  by_cases hm : len ≤ 1048576
  · have t1 : decide ((1048576 : Int) < (len : Int)) = false := decide_eq_false (by omega)
    have HC : Hid (Strs w a len P) := hc
    clear hc
    go_enter Trym.func5, Trym.ntmps5
    go_wp2
    go_loop [3, 4] (fun z i => ∃ (k : Nat) (t : Int), k ≤ len ∧ i = .int .i64 k ∧ z = .int .i64 t ∧ 0 ≤ t ∧ t ≤ 1048576) (fun _ i => len - (intOf i).toNat)
    case atStart => exact ⟨0, len, by omega, rfl, rfl, by omega, by omega⟩
    case round =>
      obtain ⟨k, t, hk, rfl, rfl, ht0, ht1⟩ := hrel
      by_cases hlt : k < len
      · obtain ⟨b, off, rfl, hb, c0, c1⟩ := HC.out k hlt
        clear c1
        go_wp2
        · go_ret
          exact ⟨SomeBool.mk _, rfl⟩
        · go_ret
          exact ⟨SomeBool.mk _, rfl⟩
        · go_round
          case rel => exact ⟨k + 1, _, by omega, by go_num, rfl, by omega, by omega⟩
          case measure => simp [intOf]; omega
      · go_wp2
        go_ret
        exact ⟨SomeBool.mk _, rfl⟩
  · clear hc
    go_enter Trym.func5, Trym.ntmps5
    go_wp2
    go_ret
    exact ⟨SomeBool.mk _, rfl⟩

set_option maxHeartbeats 400000 in
theorem bytes6 (a : Option Addr) (len cap : Nat) (P : Nat → ByteArray) (w : World) (hc : Strs w a len P) (hl : len ≤ 4096) :
    Calls Trym.prog 6 #[.slice a len cap] w fun e w' => SomeInt e ∧ w' = w := by
  have t1 : decide ((1048576 : Int) < 16 * (len : Int)) = false := decide_eq_false (by omega)
  have HC : Hid (Strs w a len P) := hc
  clear hc
  go_enter Trym.func6, Trym.ntmps6
  go_wp2
  go_loop [3, 4] (fun z i => ∃ (k : Nat) (t : Int), k ≤ len ∧ i = .int .i64 k ∧ z = .int .i64 t ∧ 0 ≤ t ∧ t ≤ 1048576) (fun _ i => len - (intOf i).toNat)
  case atStart => exact ⟨0, 16 * len, by omega, rfl, rfl, by omega, by omega⟩
  case round =>
    obtain ⟨k, t, hk, rfl, rfl, ht0, ht1⟩ := hrel
    by_cases hlt : k < len
    · obtain ⟨b, off, rfl, hb, c0, c1⟩ := HC.out k hlt
      clear c1
      go_wp2
      · go_ret
        exact ⟨SomeInt.mk _, rfl⟩
      · go_round
        case rel => exact ⟨k + 1, _, by omega, by go_num, rfl, by omega, by omega⟩
        case measure => simp [intOf]; omega
    · go_wp2
      go_ret
      exact ⟨SomeInt.mk _, rfl⟩

/-! ### The copy -/
theorem row_step {wr : World} {b t len k : Nat} {V Z : Nat → Value} (h : wr.rowIs b t len (fun j => if j < k then V j else Z j)) :
    (wr.setCell ⟨b, k, none⟩ (V k)).rowIs b t len (fun j => if j < k + 1 then V j else Z j) := by
  refine (h.set k _).congr fun j _ => ?_
  by_cases e : j = k
  · subst e; simp
  · simp only [e, if_false]
    by_cases hj : j < k
    · rw [if_pos hj, if_pos (by omega)]
    · rw [if_neg hj, if_neg (by omega)]

theorem copy_nil (w : World) : Calls Trym.prog 7 #[.slice none 0 0] w fun e w' => e = .returned (.slice none 0 0) ∧ w' = w := by
  have hq := fun (w : World) (a : Option Addr) (n c n' c' : Nat) => Lib.run_eql_slice_nil (P := Trym.prog) w 22 9 a n c n' c' Trym.underlying22
  go_enter Trym.func7, Trym.ntmps7
  go_wp2
  go_ret
  exact ⟨rfl, rfl⟩

set_option maxHeartbeats 400000 in
theorem copy_some (x : Addr) (len cap : Nat) (P : Nat → ByteArray) (w : World) (hm : len ≤ 4096) (hc : Strs w (some x) len P) :
    Calls Trym.prog 7 #[.slice (some x) len cap] w fun e w' => e = .returned (.slice (some ⟨w.heap.size, 0, none⟩) len len) ∧ w'.rowIs w.heap.size 9 len (fun j => .string (P j)) ∧ Below w.heap.size w w' := by
  have hq := fun (w : World) (a : Option Addr) (n c n' c' : Nat) => Lib.run_eql_slice_nil (P := Trym.prog) w 22 9 a n c n' c' Trym.underlying22
  have hmk := run_make_row' (P := Trym.prog) 22 9 (.string ByteArray.empty) 16 Trym.underlying22 Trym.info9 rfl .i64 .i64 len (by omega) (by omega)
  have HC : Hid (Strs w (some x) len P) := hc
  clear hc
  go_enter Trym.func7, Trym.ntmps7
  go_wp2
  go_loopw [4] (fun i wr => ∃ k : Nat, k ≤ len ∧ i = .int .i64 k ∧ wr.rowIs w.heap.size 9 len (fun j => if j < k then .string (P j) else .string ByteArray.empty) ∧ Below w.heap.size w wr) (fun i _ => len - (intOf i).toNat)
  case atStart => exact ⟨0, Nat.zero_le _, rfl, (World.rowIs_made w (.string ByteArray.empty) len 9).congr (fun j _ => by simp), (Below.refl _ _).alloc (Nat.le_refl _) _⟩
  case round =>
    obtain ⟨k, hk, rfl, hrow, hnx⟩ := hrel
    by_cases hlt : k < len
    · obtain ⟨b, off, hx, hb, c0, _⟩ := HC.out k hlt
      simp at hx
      subst hx
      have hcx : wr.cell? ⟨b, off + k, none⟩ = some (.string (P k)) := (hnx.cell (by exact hb)).trans c0
      have hfz := hrow.frozen k
      have hcd := hrow.cell hlt
      simp only [Nat.lt_irrefl, if_false] at hcd
      have HR : Hid ((wr.setCell ⟨w.heap.size, k, none⟩ (.string (P k))).rowIs w.heap.size 9 len (fun j => if j < k + 1 then .string (P j) else .string ByteArray.empty) ∧ Below w.heap.size w (wr.setCell ⟨w.heap.size, k, none⟩ (.string (P k)))) :=
        ⟨row_step (V := fun j => .string (P j)) hrow, hnx.setCell (Nat.le_refl _) _⟩
      clear hrow hnx c0
      go_wp2
      go_roundw
      case rel => exact ⟨k + 1, by omega, by go_num, HR.out.1, HR.out.2⟩
      case measure => simp [intOf]; omega
    · have hkl : k = len := by omega
      subst hkl
      go_wp2
      go_ret
      exact ⟨rfl, hrow.congr (fun j hj => by simp [hj]), hnx⟩

/-! ### distinct -/
/-- What distinct answers: the phrases at their first occurrence; nil if there is none. -/
def Kept (w w' : World) (P : Nat → ByteArray) (len : Nat) (e : Ending) : Prop :=
  ∃ v, e = .returned v ∧ w'.ownsRow (w.heap.size + 1) 9 1 v (firsts P len).length ((firsts P len).map fun i => .string (P i)) ∧ (firsts P len = [] → v = .slice none 0 0) ∧ Below w.heap.size w w'

theorem one_string (s : ByteArray) : ∀ u ∈ [Value.string s], u.oneCell' = true := by intro u hu; simp at hu; subst hu; rfl
/-- What the map says of every key. -/
def Tells (D : DataW Unit) (P : Nat → ByteArray) (k : Nat) : Prop := ∀ s : List UInt8, D.atKey (.string s) (.lit (.bool false)) = .lit (.bool (seen P k s))
theorem Tells.put {D : DataW Unit} {P : Nat → ByteArray} {k : Nat} (h : Tells D P k) (hm : IsMap D) : Tells (D.put (.string (P k).toList) (.lit (.bool true))) P (k + 1) := fun s => by
  rw [seen_succ]
  by_cases e : (P k).toList = s
  · subst e
    rw [atKey_put_same (k := .string (P k).toList) hm trivial]; simp
  · rw [atKey_put_other (fun h => e (by simpa using h.symm)), h s, beq_eq_false_iff_ne.2 e, Bool.or_false]
theorem Tells.again {D : DataW Unit} {P : Nat → ByteArray} {k : Nat} (h : Tells D P k) (hs : seen P k (P k).toList = true) : Tells D P (k + 1) := fun s => by rw [seen_again hs]; exact h s
theorem tells_start (P : Nat → ByteArray) : Tells (.map []) P 0 := fun s => by rw [seen_zero]; rfl

theorem own_ne {w : World} {B e size n : Nat} {v : Value} {xs : List Value} (h : w.ownsRow (B + 1) e size v n xs) : v.ownBlock = none ∨ v.ownBlock ≠ some B := by
  cases hv : v.ownBlock with
  | none => exact .inl rfl
  | some j => exact .inr fun e => by have := (h.lt j hv).1; simp at e; omega
theorem map_ne {w : World} {B e size n : Nat} {v : Value} {xs : List Value} (h : w.ownsRow (B + 1) e size v n xs) : some B ≠ v.ownBlock := fun e => by have := (h.lt B e.symm).1; omega
theorem kept_snoc {P : Nat → ByteArray} (L : List Nat) (k : Nat) : (L ++ [k]).map (fun i => Value.string (P i)) = L.map (fun i => Value.string (P i)) ++ [.string (P k)] := by simp
/-- What a round that keeps a phrase leaves of the old memory. -/
theorem round_below {w wr w1 w2 : World} {o : Obj} {e size n : Nat} {v : Value} {xs : List Value} (hnx : Below w.heap.size w wr) (h1 : wr.grownBy w1 (some w.heap.size)) (hown : wr.ownsRow (w.heap.size + 1) e size v n xs) (h2 : (w1.alloc o).grownBy w2 v.ownBlock) : Below w.heap.size w w2 := by
  have b1 : Below w.heap.size w w1 := hnx.grown h1 hnx.size (fun j hj => by cases hj; exact Nat.le_refl _)
  exact (b1.alloc b1.size o).grown h2 (by have := b1.size; simp; omega) (fun j hj => by have := (hown.lt j hj).1; omega)

set_option maxHeartbeats 1600000 in
theorem distinct_any (a : Option Addr) (len cap : Nat) (P : Nat → ByteArray) (w : World) (hl : len ≤ 4096) (hc : Strs w a len P) :
    Calls Trym.prog 10 #[.slice a len cap] w fun e w' => Kept w w' P len e := by
  obtain ⟨i0, hi, hz0, hz1, hz2⟩ := info_parts Trym.info9
  have hmm := @run_makeMap Trym.prog
  have HC : Hid (Strs w a len P) := hc
  clear hc
  go_enter Trym.func10, Trym.ntmps10
  go_wp2
  go_loopw [4, 10] (fun v i wr => ∃ (k : Nat) (L : List Nat) (D : DataW Unit), k ≤ len ∧ L.length ≤ k ∧ i = .int .i64 k ∧ wr.ownsRow (w.heap.size + 1) 9 1 v L.length (L.map fun i => .string (P i)) ∧
      wr.ownsMap Trym.prog 9 (plainElem Trym.prog 4) w.heap.size k D ∧ Below w.heap.size w wr ∧ Hid (L = firsts P k ∧ (L = [] → v = .slice none 0 0) ∧ Tells D P k)) (fun _ i _ => len - (intOf i).toNat)
  case atStart => exact ⟨0, [], .map [], Nat.zero_le _, Nat.zero_le _, rfl, World.ownsRow_nil _ _ _ _, World.ownsMap_made _ _ _ _, (Below.refl _ _).alloc (Nat.le_refl _) _, ⟨rfl, fun _ => rfl, tells_start P⟩⟩
  case round =>
    obtain ⟨k, L, D, hk, hLk, rfl, hown, hmap, hnx, HE⟩ := hrel
    have HB : Hid (Below w.heap.size w wr) := hnx
    have hsz := hmap.lt
    by_cases hlt : k < len
    · obtain ⟨b, off, rfl, hb, c0, hsize⟩ := HC.out.below hnx k hlt
      have HK : Hid (keyOf Trym.prog 9 (.string (P k)) = some (.string (P k).toList)) := by show _ = _; rw [keyOf_string_mk Trym.underlying9 hsize, ByteArray.toList_eq]
      clear hsize hnx
      by_cases hs : seen P k (P k).toList = true
      · have HS : Hid (seen P k (P k).toList = true) := hs
        have HAT : Hid (D.atKey (.string (P k).toList) (.lit (.bool false)) = .lit (.bool true)) := by show _ = _; rw [HE.out.2.2, hs]
        clear hs
        go_wp2_with (at_lookup; go_must (refine wpList_lookup_own_bool _ rfl _ _ 26 rfl 9 4 law Trym.underlying26 Trym.underlying4 (zero4 _) w.heap.size k D rfl hmap _ _ rfl HK.out true HAT.out ?_))
        go_roundw
        case rel => exact ⟨k + 1, L, D, by omega, by omega, by go_num, hown, hmap.mono (by omega), HB.out, ⟨by rw [firsts_miss HS.out]; exact HE.out.1, HE.out.2.1, HE.out.2.2.again HS.out⟩⟩
        case measure => simp [intOf]; omega
      · have hs' : seen P k (P k).toList = false := by simpa using hs
        have HS : Hid (seen P k (P k).toList = false) := hs'
        have HAT : Hid (D.atKey (.string (P k).toList) (.lit (.bool false)) = .lit (.bool false)) := by show _ = _; rw [HE.out.2.2, hs']
        clear hs hs'
        go_wp2_with (first | (at_lookup; refine wpList_lookup_own_bool _ rfl _ _ 26 rfl 9 4 law Trym.underlying26 Trym.underlying4 (zero4 _) w.heap.size k D rfl hmap _ _ rfl HK.out false HAT.out ?_) | (at_mapUpdate; refine wpList_mapUpdate_own _ rfl _ _ _ 26 rfl 9 4 law Trym.underlying26 _ w.heap.size k D rfl hmap (by unfold maxLen; omega) _ _ _ rfl rfl HK.out _ [] (plainElem_bool Trym.underlying4 true) ?_; intro w1 hmap1 hgrow1; have hsz1 := hgrow1.size) | (at_builtin; refine wpList_append_own _ rfl _ _ 22 rfl (w.heap.size + 1) 9 i0 (.string ByteArray.empty) 1 16 Trym.underlying22 hi hz0 hz1 hz2 rfl (by decide) _ _ _ rfl ((hown.kept hgrow1 (own_ne hown)).alloc _) ⟨w1.heap.size, 0, none⟩ 1 1 [.string (P k)] rfl rfl (cell_one_new _ _ _) (one_string _) (by unfold maxLen; omega) (by omega) (by simp; omega) ?_; intro v' w2 hown2 hgrow2 _))
        have HO : Hid (w2.ownsRow (w.heap.size + 1) 9 1 v' (L ++ [k]).length ((L ++ [k]).map fun i => .string (P i)) ∧ w2.ownsMap Trym.prog 9 (plainElem Trym.prog 4) w.heap.size (k + 1) (D.put (.string (P k).toList) (.lit (.bool true))) ∧ Below w.heap.size w w2 ∧ IsMap D) := by
          refine ⟨by rw [kept_snoc, List.length_append]; exact hown2, (hmap1.alloc _).kept hgrow2 (map_ne hown), round_below HB.out hgrow1 hown hgrow2, hmap.isMap⟩
        clear hown hown2 hgrow2 hgrow1 hmap hmap1
        go_wp2
        go_roundw
        case rel => exact ⟨k + 1, L ++ [k], _, by omega, by simp; omega, by go_num, HO.out.1, HO.out.2.1, HO.out.2.2.1, ⟨by rw [firsts_hit HS.out, HE.out.1], fun h => absurd h (by simp), HE.out.2.2.put HO.out.2.2.2⟩⟩
        case measure => simp [intOf]; omega
    · have hkl : k = len := by omega
      have HKL : Hid (k = len) := hkl
      clear hkl hnx
      go_wp2
      go_ret
      exact ⟨_, rfl, by rw [← HKL.out, ← HE.out.1]; exact hown, by rw [← HKL.out, ← HE.out.1]; exact HE.out.2.1, HB.out⟩

theorem zzdistinct (a : Option Addr) (len cap : Nat) (P : Nat → ByteArray) (w : World) (hl : len ≤ 4096) (hc : Strs w a len P) :
    Calls Trym.prog 8 #[.slice a len cap] w fun e w' => Kept w w' P len e := by
  have HC : Hid (Strs w a len P) := hc
  clear hc
  go_enter Trym.func8, Trym.ntmps8
  go_wp2_with fail
  refine (distinct_any a len cap P _ hl HC.out).mono ?_
  rintro e w1 ⟨v, rfl, h1, h2, h3⟩
  have HK : Hid (w1.ownsRow (w.heap.size + 1) 9 1 v (firsts P len).length ((firsts P len).map fun i => .string (P i)) ∧ (firsts P len = [] → v = .slice none 0 0) ∧ Below w.heap.size w w1) := ⟨h1, h2, h3⟩
  clear h1 h2 h3
  go_wp2
  go_ret
  exact ⟨v, rfl, HK.out⟩

end Go.Proofs.Qxb6603213aMods.Dist
