/-
  ZZMakeB1 (function 10): a lookup over candidates laid anew, one block a candidate.
-/
import Derived.Test.Qxb6601955aModsKadSplit
import Derived.BigRegion
import Derived.RegionTactic
import Derived.Laws.CopyOwn
namespace Go.Proofs.Qxb6601955aMods.Kad
open Go.RowKit

theorem Trym.info38 : (Trym.prog.info? 38).map (fun i => (i.zero, i.size, i.bytes)) = some (some (.pointer none), 1, 8) := by kernel_rfl
theorem Trym.info60 : (Trym.prog.info? 60).map (fun i => (i.zero, i.size, i.bytes)) = some (some (.agg #[.string ByteArray.empty]), 1, 16) := by kernel_rfl

/-- THE CANDIDATES AS THEY LIE: 'f j' leads to candidate j's block, whose first cell is the id, whose second is the addresses' slice 'ad j' (nil, or a row of its own), whose last is the state. -/
def Made (w : World) (C : Nat) (f ad : Nat → Value) (k : Nat) (I S : Nat → ByteArray) : Prop :=
  ∀ j, j < k → ∃ b A L, f j = .pointer (some ⟨b, 0, none⟩) ∧ ad j = .slice A L L ∧ (A = none ∧ L = 0 ∨ ∃ g, A = some ⟨g, 0, none⟩ ∧ 0 < L) ∧ C < b ∧ b < w.heap.size ∧
    w.cell? ⟨b, 0, none⟩ = some (.string (I j)) ∧ w.cell? ⟨b, 1, none⟩ = some (.slice A L L) ∧ w.cell? ⟨b, 34, none⟩ = some (.string (S j))

theorem Made.below {w w' : World} {B C : Nat} {f ad : Nat → Value} {k : Nat} {I S : Nat → ByteArray} (h : Made w C f ad k I S) (hb : Below B w w') (hB : w.heap.size ≤ B) : Made w' C f ad k I S := fun j hj => by
  obtain ⟨b, A, L, h1, h2, h3, h4, h5, h6, h7, h8⟩ := h j hj
  have hlt : b < B := Nat.lt_of_lt_of_le h5 hB
  exact ⟨b, A, L, h1, h2, h3, h4, Nat.lt_of_lt_of_le h5 hb.size, (hb.cell (by exact hlt)).trans h6, (hb.cell (by exact hlt)).trans h7, (hb.cell (by exact hlt)).trans h8⟩

theorem row_below {w w' : World} {B b t n : Nat} {f : Nat → Value} (h : w.rowIs b t n f) (hb : Below B w w') (hB : b < B) : w'.rowIs b t n f := h.of_block (hb.block b hB)

theorem cell_new {w : World} {c : Array Value} {t j : Nat} {v : Value} (h : c[j]? = some v) : (w.alloc (.cells c t)).cell? ⟨w.heap.size, j, none⟩ = some v := by
  have key : ∀ (W : World) (b : Nat), W.heap[b]? = some (.cells c t) → W.cell? ⟨b, j, none⟩ = some v := fun W b h1 => by simp [World.cell?, h1, h]
  exact key _ _ (Deep.blk_alloc_new w (.cells c t))

/-- One candidate more. -/
theorem make_step {w wr : World} {len k : Nat} {f ad : Nat → Value} {I S : Nat → ByteArray} {cells : Array Value} {A : Option Addr} {L : Nat}
    (hrow : wr.rowIs w.heap.size 38 len (fun j => if j < k then f j else .pointer none)) (hmade : Made wr w.heap.size f ad k I S) (hnx : Below w.heap.size w wr)
    (c0 : cells[0]? = some (.string (I k))) (c1 : cells[1]? = some (.slice A L L)) (c34 : cells[34]? = some (.string (S k))) (hA : A = none ∧ L = 0 ∨ ∃ g, A = some ⟨g, 0, none⟩ ∧ 0 < L) :
    ∃ f' ad' : Nat → Value, (((wr.setCell ⟨w.heap.size, k, none⟩ (.pointer (some ⟨wr.heap.size, 0, none⟩))).alloc (.cells cells 52)).drew).rowIs w.heap.size 38 len (fun j => if j < k + 1 then f' j else .pointer none) ∧
      Made (((wr.setCell ⟨w.heap.size, k, none⟩ (.pointer (some ⟨wr.heap.size, 0, none⟩))).alloc (.cells cells 52)).drew) w.heap.size f' ad' (k + 1) I S ∧
      Below w.heap.size w (((wr.setCell ⟨w.heap.size, k, none⟩ (.pointer (some ⟨wr.heap.size, 0, none⟩))).alloc (.cells cells 52)).drew) := by
  have hC := hrow.lt
  have hs : (wr.setCell ⟨w.heap.size, k, none⟩ (.pointer (some ⟨wr.heap.size, 0, none⟩))).heap.size = wr.heap.size := Deep.nblk_setCell _ _ _
  have hS : (((wr.setCell ⟨w.heap.size, k, none⟩ (.pointer (some ⟨wr.heap.size, 0, none⟩))).alloc (.cells cells 52)).drew).heap.size = wr.heap.size + 1 := by
    show ((wr.setCell ⟨w.heap.size, k, none⟩ (.pointer (some ⟨wr.heap.size, 0, none⟩))).alloc (.cells cells 52)).heap.size = _
    rw [Deep.nblk_alloc, hs]
  refine ⟨fun j => if j = k then .pointer (some ⟨wr.heap.size, 0, none⟩) else f j, fun j => if j = k then .slice A L L else ad j, ?_, ?_, ?_⟩
  · refine (((hrow.set k _).alloc _).drew).congr fun j _ => ?_
    by_cases e : j = k
    · subst e; simp
    · simp only [e, if_false]
      by_cases hj : j < k
      · rw [if_pos hj, if_pos (by omega)]
      · rw [if_neg hj, if_neg (by omega)]
  · intro j hj
    by_cases e : j = k
    · subst e
      refine ⟨wr.heap.size, A, L, by simp, by simp, hA, hC, by rw [hS]; omega, ?_, ?_, ?_⟩
      · have := cell_new (w := wr.setCell ⟨w.heap.size, j, none⟩ (.pointer (some ⟨wr.heap.size, 0, none⟩))) (t := 52) c0
        rw [hs] at this; exact this
      · have := cell_new (w := wr.setCell ⟨w.heap.size, j, none⟩ (.pointer (some ⟨wr.heap.size, 0, none⟩))) (t := 52) c1
        rw [hs] at this; exact this
      · have := cell_new (w := wr.setCell ⟨w.heap.size, j, none⟩ (.pointer (some ⟨wr.heap.size, 0, none⟩))) (t := 52) c34
        rw [hs] at this; exact this
    · obtain ⟨b, A', L', h1, h2, h3, h4, h5, h6, h7, h8⟩ := hmade j (by omega)
      have hblk : (((wr.setCell ⟨w.heap.size, k, none⟩ (.pointer (some ⟨wr.heap.size, 0, none⟩))).alloc (.cells cells 52)).drew).heap[b]? = wr.heap[b]? := by
        show ((wr.setCell ⟨w.heap.size, k, none⟩ (.pointer (some ⟨wr.heap.size, 0, none⟩))).alloc (.cells cells 52)).heap[b]? = _
        rw [Deep.blk_alloc_lt _ _ _ (by rw [hs]; exact h5), Deep.blk_setCell_other _ _ _ _ (by show b ≠ w.heap.size; omega)]
      exact ⟨b, A', L', by simp [e, h1], by simp [e, h2], h3, h4, by rw [hS]; omega, (World.cell?_of_block hblk).trans h6, (World.cell?_of_block hblk).trans h7, (World.cell?_of_block hblk).trans h8⟩
  · exact ((hnx.setCell (Nat.le_refl _) _).alloc (by rw [hs]; omega) _).drew

theorem Trym.size38 : (Trym.prog.info? 38).map (·.size) = some 1 := by kernel_rfl

/-- The row behind the copy. -/
theorem row_copied {w : World} {g k : Nat} {X Y : List Value} {f : Nat → Value} (h : w.heap[g]? = some (.cells (splice Y 0 X).toArray 38 (0, 0))) (hY : Y.length = k) (hX : X = (List.range k).map f) : w.rowIs g 38 k f := by
  have hl : X.length = k := by rw [hX]; simp
  have e : splice Y 0 X = X := by unfold splice; rw [List.take_zero, List.nil_append, Nat.zero_add, List.drop_of_length_le (by omega), List.append_nil]
  rw [e] at h
  refine ⟨X.toArray, h, by simp [hl], fun i hi => ?_⟩
  simp [hX, hi]

/-- What the copy wants to know of the source. -/
theorem src_cells {w wr : World} {k : Nat} {f : Nat → Value} {X : List Value} (hrow : wr.rowIs w.heap.size 38 k (fun j => if j < k then f j else .pointer none)) (hX : X = (List.range k).map f) (o : Obj) :
    ∀ j v, X[j]? = some v → (wr.alloc o).cell? ((⟨w.heap.size, 0, none⟩ : Addr).add j) = some v := fun j v hv => by
  have hj : j < k := by
    have := (List.getElem?_eq_some_iff.1 hv).1
    rw [hX] at this; simpa using this
  have e : (⟨w.heap.size, 0, none⟩ : Addr).add j = ⟨w.heap.size, j, none⟩ := by unfold Addr.add; split <;> simp_all
  rw [e, (hrow.alloc o).cell hj, if_pos hj, ← hv, hX]
  simp [hj]
theorem src_one {w : World} {C k : Nat} {f ad : Nat → Value} {I S : Nat → ByteArray} {X : List Value} (hm : Made w C f ad k I S) (hX : X = (List.range k).map f) : ∀ v ∈ X, v.oneCell' = true := fun v hv => by
  rw [hX] at hv
  obtain ⟨j, hj, rfl⟩ := List.mem_map.1 hv
  obtain ⟨b, A, L, h1, _⟩ := hm j (by simpa using hj)
  rw [h1]; rfl

set_option maxHeartbeats 800000 in
theorem make_any (bi bs bn len : Nat) (I S : Nat → ByteArray) (N : Nat → Int) (w : World) (hl : len ≤ 65536) (hN : ∀ j, j < len → N j ≤ 65536)
    (ri : w.rowIs bi 9 len (fun j => .string (I j))) (rs : w.rowIs bs 9 len (fun j => .string (S j))) (rn : w.rowIs bn 3 len (fun j => .int .i64 (N j))) :
    Calls Trym.prog 10 #[.slice (some ⟨bi, 0, none⟩) len len, .slice (some ⟨bs, 0, none⟩) len len, .slice (some ⟨bn, 0, none⟩) len len] w fun e w' =>
      ∃ lk sb f ad, e = .returned (.tuple #[.pointer (some ⟨lk, 0, none⟩), .slice (some ⟨w.heap.size, 0, none⟩) len len]) ∧ lk < w'.heap.size ∧ w'.cell? ⟨lk, 33, none⟩ = some (.slice (some ⟨sb, 0, none⟩) len len) ∧
        w'.rowIs sb 38 len f ∧ w'.rowIs w.heap.size 38 len f ∧ Made w' w.heap.size f ad len I S ∧ Below w.heap.size w w' := by
  obtain ⟨i0, hi, hz0, hz1, hz2⟩ := info_parts Trym.info60
  have hmk := run_make_row' (P := Trym.prog) 29 38 (.pointer none) 8 Trym.underlying29 Trym.info38 rfl .i64 .i64 len (by omega) (by omega)
  have HI : Hid (i0.bytes = 16 ∧ (∀ j, j < len → N j ≤ 65536)) := ⟨hz2, hN⟩
  have HR : Hid (w.rowIs bi 9 len (fun j => .string (I j)) ∧ w.rowIs bs 9 len (fun j => .string (S j)) ∧ w.rowIs bn 3 len (fun j => .int .i64 (N j))) := ⟨ri, rs, rn⟩
  have li := ri.lt
  have ls := rs.lt
  have ln := rn.lt
  clear hz2 hN ri rs rn
  go_enter Trym.func10, Trym.ntmps10
  go_wp2
  go_loopw [9] (fun i wr => ∃ (k : Nat) (f ad : Nat → Value), k ≤ len ∧ i = .int .i64 k ∧ wr.rowIs w.heap.size 38 len (fun j => if j < k then f j else .pointer none) ∧ Made wr w.heap.size f ad k I S ∧ Below w.heap.size w wr)
    (fun i _ => len - (intOf i).toNat)
  case atStart =>
    refine ⟨0, fun _ => .pointer none, fun _ => .pointer none, Nat.zero_le _, rfl, ?_, fun j hj => absurd hj (by omega), (Below.refl _ _).alloc (Nat.le_refl _) _⟩
    exact (World.rowIs_made w (.pointer none) len 38).congr fun j _ => by simp
  case round =>
    obtain ⟨k, f, ad, hk, rfl, hrow, hmade, hnx⟩ := hrel
    have HB : Hid (wr.rowIs w.heap.size 38 len (fun j => if j < k then f j else .pointer none) ∧ Made wr w.heap.size f ad k I S ∧ Below w.heap.size w wr) := ⟨hrow, hmade, hnx⟩
    by_cases hlt : k < len
    · have ci := (hnx.cell (p := ⟨bi, k, none⟩) (by exact li)).trans (HR.out.1.cell hlt)
      have cs := (hnx.cell (p := ⟨bs, k, none⟩) (by exact ls)).trans (HR.out.2.1.cell hlt)
      have cn := (hnx.cell (p := ⟨bn, k, none⟩) (by exact ln)).trans (HR.out.2.2.cell hlt)
      have cc := hrow.cell hlt
      have fc := hrow.frozen k
      have hC := hrow.lt
      have hsz := hnx.size
      simp only [Nat.lt_irrefl, if_false] at cc
      have hNk := HI.out.2 k hlt
      clear hrow hmade hnx
      by_cases hp : 0 < N k
      · obtain ⟨n, hn⟩ : ∃ n : Nat, N k = n := ⟨(N k).toNat, by omega⟩
        rw [hn] at cn hNk hp
        clear hn
        go_wp2_with (at_make; go_must (refine wpList_make_full _ rfl _ _ 43 rfl wr.heap.size 60 i0 (.agg #[.string ByteArray.empty]) 1 Trym.underlying43 hi hz0 hz1 .i64 .i64 _ _ n rfl rfl rfl rfl (by rw [HI.out.1]; omega) (by unfold maxLen; omega) (Nat.le_refl _) ?_); intro w2 _ hgrow)
        have hb2 : Below wr.heap.size wr w2 := (Below.refl _ _).grown hgrow (Nat.le_refl _) (fun j hj => by cases hj)
        have HB2 : Hid (w2.rowIs w.heap.size 38 len (fun j => if j < k then f j else .pointer none) ∧ Made w2 w.heap.size f ad k I S ∧ Below w.heap.size w w2) :=
          ⟨row_below HB.out.1 hb2 hC, HB.out.2.1.below hb2 (Nat.le_refl _), HB.out.2.2.trans (hb2.mono hsz)⟩
        have ci2 := (hb2.cell (p := ⟨bi, k, none⟩) (show bi < wr.heap.size by omega)).trans ci
        have cs2 := (hb2.cell (p := ⟨bs, k, none⟩) (show bs < wr.heap.size by omega)).trans cs
        have cc2 := (hb2.cell (p := ⟨w.heap.size, k, none⟩) hC).trans cc
        have fc2 := (hb2.frozen (p := ⟨w.heap.size, k, none⟩) hC).trans fc
        have hC2 := HB2.out.1.lt
        clear hb2 hgrow ci cs cc fc cn HB
        go_wp2
        go_region
        go_wp2
        go_roundw
        case rel =>
          obtain ⟨f', ad', h1, h2, h3⟩ := make_step (cells := #[Value.string (I k), Value.slice (some ⟨wr.heap.size, 0, none⟩) n n, Value.int IntKind.u8 0, Value.int IntKind.u8 0, Value.int IntKind.u8 0, Value.int IntKind.u8 0, Value.int IntKind.u8 0, Value.int IntKind.u8 0, Value.int IntKind.u8 0, Value.int IntKind.u8 0, Value.int IntKind.u8 0, Value.int IntKind.u8 0, Value.int IntKind.u8 0, Value.int IntKind.u8 0, Value.int IntKind.u8 0, Value.int IntKind.u8 0, Value.int IntKind.u8 0, Value.int IntKind.u8 0, Value.int IntKind.u8 0, Value.int IntKind.u8 0, Value.int IntKind.u8 0, Value.int IntKind.u8 0, Value.int IntKind.u8 0, Value.int IntKind.u8 0, Value.int IntKind.u8 0, Value.int IntKind.u8 0, Value.int IntKind.u8 0, Value.int IntKind.u8 0, Value.int IntKind.u8 0, Value.int IntKind.u8 0, Value.int IntKind.u8 0, Value.int IntKind.u8 0, Value.int IntKind.u8 0, Value.int IntKind.u8 0, Value.string (S k)]) (A := some ⟨wr.heap.size, 0, none⟩) (L := n) HB2.out.1 HB2.out.2.1 HB2.out.2.2 rfl rfl rfl (.inr ⟨_, rfl, by omega⟩)
          exact ⟨k + 1, f', ad', by omega, by go_num, h1, h2, h3⟩
        case measure => simp [intOf]; omega
      · go_wp2
        go_region
        go_wp2
        go_roundw
        case rel =>
          obtain ⟨f', ad', h1, h2, h3⟩ := make_step (cells := #[Value.string (I k), Value.slice none 0 0, Value.int IntKind.u8 0, Value.int IntKind.u8 0, Value.int IntKind.u8 0, Value.int IntKind.u8 0, Value.int IntKind.u8 0, Value.int IntKind.u8 0, Value.int IntKind.u8 0, Value.int IntKind.u8 0, Value.int IntKind.u8 0, Value.int IntKind.u8 0, Value.int IntKind.u8 0, Value.int IntKind.u8 0, Value.int IntKind.u8 0, Value.int IntKind.u8 0, Value.int IntKind.u8 0, Value.int IntKind.u8 0, Value.int IntKind.u8 0, Value.int IntKind.u8 0, Value.int IntKind.u8 0, Value.int IntKind.u8 0, Value.int IntKind.u8 0, Value.int IntKind.u8 0, Value.int IntKind.u8 0, Value.int IntKind.u8 0, Value.int IntKind.u8 0, Value.int IntKind.u8 0, Value.int IntKind.u8 0, Value.int IntKind.u8 0, Value.int IntKind.u8 0, Value.int IntKind.u8 0, Value.int IntKind.u8 0, Value.int IntKind.u8 0, Value.string (S k)]) (A := none) (L := 0) HB.out.1 HB.out.2.1 HB.out.2.2 rfl rfl rfl (.inl ⟨rfl, rfl⟩)
          exact ⟨k + 1, f', ad', by omega, by go_num, h1, h2, h3⟩
        case measure => simp [intOf]; omega
    · have hkl : k = len := by omega
      subst hkl
      clear hnx hmade hrow
      obtain ⟨X, hX⟩ : ∃ X, X = (List.range k).map f := ⟨_, rfl⟩
      obtain ⟨Y, hY⟩ : ∃ Y, Y = (madeCells #[Value.pointer none] k).toList := ⟨_, rfl⟩
      have HX : Hid (X = (List.range k).map f) := hX
      have hYl : Hid (Y.length = k) := by show Y.length = k; rw [hY]; simp [madeCells]
      have hXl : Hid (X.length = Nat.min k k ∧ 0 + X.length ≤ Y.length) := by
        have e : X.length = k := by rw [hX]; simp
        exact ⟨by rw [e]; simp, by rw [e, hYl.out]; omega⟩
      have hXc : Hid (∀ j v, X[j]? = some v → (wr.alloc (.cells (madeCells #[Value.pointer none] k) 38)).cell? ((⟨w.heap.size, 0, none⟩ : Addr).add j) = some v) := src_cells HB.out.1 hX _
      have hX1 : Hid (∀ v ∈ X, v.oneCell' = true) := src_one HB.out.2.1 hX
      have hYg : Hid ((wr.alloc (.cells (madeCells #[Value.pointer none] k) 38)).heap[wr.heap.size]? = some (.cells Y.toArray 38 (0, 0))) := by
        show _ = _
        rw [hY, Array.toArray_toList]; exact Deep.blk_alloc_new _ _
      clear hX hY
      go_wp2_with (refine wpList_copy_splice rfl (.tmp 49) (.tmp 50) 29 29 rfl 38 Trym.underlying29 Trym.size38 _ _ _ _ _ _ rfl rfl wr.heap.size 0 Y 38 hYg.out X hXl.out.1 (fun _ => ⟨rfl, _, rfl, hXc.out⟩) hXl.out.2 hX1.out wr.heap.size wr ((Below.refl _ _).alloc (Nat.le_refl _) _) (Nat.le_refl _) ?_; intro w3 hg3 hb3)
      have HF : Hid (w3.rowIs wr.heap.size 38 k f ∧ w3.rowIs w.heap.size 38 k f ∧ Made w3 w.heap.size f ad k I S ∧ Below w.heap.size w w3) :=
        ⟨row_copied hg3.out hYl.out HX.out, row_below (row_full HB.out.1) hb3 HB.out.1.lt, HB.out.2.1.below hb3 (Nat.le_refl _), HB.out.2.2.trans (hb3.mono HB.out.2.2.size)⟩
      clear hg3 hb3 hYg hXc hX1 hXl
      go_wp2
      go_ret2
      exact ⟨w3.heap.size, wr.heap.size, f, ad, rfl, by rw [Deep.nblk_alloc]; omega, cell_new rfl, HF.out.1.alloc _, HF.out.2.1.alloc _, HF.out.2.2.1.below ((Below.refl w3.heap.size w3).alloc (Nat.le_refl _) _) (Nat.le_refl _), HF.out.2.2.2.alloc HF.out.2.2.2.size _⟩

end Go.Proofs.Qxb6601955aMods.Kad
