/-
  THE WALK OF FnProgressIsTheWindowOfTheFirstKNotFailed (function 3).
-/
import Derived.Test.Qxb6601955aModsKadGuards
import Derived.Test.Qxb6601955aModsKadProgress
import Derived.Deep.QuietTactic
import Derived.BigQuiet
import Derived.Lib.Builder
namespace Go.Proofs.Qxb6601955aMods.Kad
open Go.RowKit

/-- A slice of one-cell elements in new memory: nil or not; element j holds 'F j'. -/
def Row1 (w : World) (a : Option Addr) (n : Nat) (F : Nat → Value) : Prop := ∀ j, j < n → ∃ g, a = some ⟨g, 0, none⟩ ∧ g < w.heap.size ∧ w.cell? ⟨g, j, none⟩ = some (F j)
theorem Row1.below {w w' : World} {a : Option Addr} {n : Nat} {F : Nat → Value} (h : Row1 w a n F) (hb : Below w.heap.size w w') : Row1 w' a n F := fun j hj => by
  obtain ⟨g, h1, h2, h3⟩ := h j hj
  exact ⟨g, h1, Nat.lt_of_lt_of_le h2 hb.size, (hb.cell (by exact h2)).trans h3⟩
theorem Row1.of_own {w : World} {B e : Nat} {v : Value} {W : List Nat} {f : Nat → Value} (h : w.ownsRow B e 1 v W.length (W.map f)) (hnil : W = [] → v = .slice none 0 0) :
    ∃ a cap, v = .slice a W.length cap ∧ (W = [] → a = none) ∧ Row1 w a W.length (fun j => f (W.getD j 0)) := by
  have h' := h
  obtain ⟨_, ⟨rfl, h0⟩ | ⟨g, cap, cur, rfl, _, hg, _⟩⟩ := h
  · exact ⟨none, 0, by rw [h0], fun _ => rfl, fun j hj => absurd hj (by omega)⟩
  · refine ⟨_, cap, rfl, fun e => by have := hnil e; simp at this, fun j hj => ⟨g, rfl, (Array.getElem?_eq_some_iff.1 hg).1, ?_⟩⟩
    rw [h'.cellAt j (by omega)]
    simp [List.getD, hj]

theorem take_snocN {L : List Nat} {m : Nat} (h : m < L.length) : L.take (m + 1) = L.take m ++ [L.getD m 0] := by
  rw [List.take_succ_eq_append_getElem h]; simp [List.getD, h]
theorem getD_mem {L : List Nat} {m : Nat} (h : m < L.length) : L.getD m 0 ∈ L := by
  rw [show L.getD m 0 = L[m] from by simp [List.getD, h]]; exact List.getElem_mem _
/-- The j-th that is to be asked, counted along the window. -/
theorem filter_at {L : List Nat} {p : Nat → Bool} {m : Nat} (h : m < L.length) (hp : p (L.getD m 0) = true) :
    ((L.take m).filter p).length < (L.filter p).length ∧ (L.filter p).getD ((L.take m).filter p).length 0 = L.getD m 0 := by
  have e : L.filter p = (L.take m).filter p ++ (L.getD m 0 :: (L.drop (m + 1)).filter p) := by
    rw [show L.getD m 0 = L[m] from by simp [List.getD, h]] at hp ⊢
    conv => lhs; rw [← List.take_append_drop m L, List.filter_append, List.drop_eq_getElem_cons h, List.filter_cons, if_pos hp]
  rw [e]
  exact ⟨by simp, by simp [List.getD]⟩
theorem filter_take_le {L : List Nat} {p : Nat → Bool} (m : Nat) : ((L.take m).filter p).length ≤ m := Nat.le_trans (List.length_filter_le _ _) (List.length_take_le _ _)

theorem Trym.some52 : (Trym.prog.info? 52).isSome = true := by kernel_rfl
theorem failed_list : (ByteArray.mk #[102, 97, 105, 108, 101, 100]).toList = [102, 97, 105, 108, 101, 100] := by decide +kernel
theorem answered_list : (ByteArray.mk #[97, 110, 115, 119, 101, 114, 101, 100]).toList = [97, 110, 115, 119, 101, 114, 101, 100] := by decide +kernel

set_option maxHeartbeats 1600000 in
theorem lawA (a : Option Addr) (len cap : Nat) (I S : Nat → ByteArray) (N : Nat → Int) (w : World) (hc : Cands w a len I S N) (hl : len ≤ 9223372036854775807) :
    Calls Trym.prog 3 #[.slice a len cap] w fun e w' => e = .returned (.bool true) ∧ Below w.heap.size w w' := by
  have HC : Hid (Cands w a len I S N) := hc
  clear hc
  obtain ⟨j52, hj52⟩ := Option.isSome_iff_exists.1 Trym.some52
  have HPE : Hid (∀ (w : World) (x : Addr), (binOp .neq 38 (.pointer (some x)) (.pointer (some x))).run Trym.prog w = .ok (.bool false) w) := fun w x => Lib.run_neq_ptr_same (P := Trym.prog) w x Trym.underlying38 hj52
  clear hj52
  go_enter Trym.func3, Trym.ntmps3
  go_wp2_with fail
  refine (bytes7 a len cap I S N _ HC.out hl).mono ?_
  rintro e w0 ⟨⟨bo, rfl⟩, rfl⟩
  cases bo
  · go_wp2
    go_ret
    exact ⟨rfl, Below.refl _ _⟩
  go_wp2_with fail
  refine (toobig a len cap I S N _ HC.out hl).mono ?_
  rintro e w1 ⟨rfl | ⟨rfl, hfit⟩, hb1⟩
  · have HB : Hid (Below w0.heap.size w0 w1) := hb1
    clear hb1
    go_wp2
    go_ret
    exact ⟨rfl, HB.out⟩
  have HF : Hid (Fits len N ∧ Below w0.heap.size w0 w1 ∧ Cands w1 a len I S N) := ⟨hfit, hb1, HC.out.below hb1⟩
  have hl' : len ≤ 65536 := hfit.1
  clear hb1 hfit HC
  go_wp2_with fail
  refine (split a len cap I S N _ HF.out.2.2 hl').mono ?_
  rintro e w2 ⟨rfl, r0, r1, r2, hb2⟩
  have HS : Hid (w2.rowIs w1.heap.size 9 len (fun j => .string (I j)) ∧ w2.rowIs (w1.heap.size + 1) 9 len (fun j => .string (S j)) ∧ w2.rowIs (w1.heap.size + 1 + 1) 3 len (fun j => .int .i64 (N j)) ∧ Below w0.heap.size w0 w2 ∧ Cands w2 a len I S N) :=
    ⟨r0, r1, r2, HF.out.2.1.trans (hb2.mono HF.out.2.1.size), HF.out.2.2.below hb2⟩
  clear r0 r1 r2 hb2
  go_wp2_with fail
  refine (make_any _ _ _ len I S N _ hl' HF.out.1.2 HS.out.1 HS.out.2.1 HS.out.2.2.1).mono ?_
  rintro e w3 ⟨lk, sb, f, ad, rfl, hlk, hcl, hrs, hrc, hmd, hb3⟩
  have HM : Hid (w3.cell? ⟨lk, 33, none⟩ = some (.slice (some ⟨sb, 0, none⟩) len len) ∧ w3.rowIs sb 38 len f ∧ w3.rowIs w2.heap.size 38 len f ∧ Made w3 w2.heap.size f ad len I S ∧ Below w0.heap.size w0 w3 ∧ Cands w3 a len I S N) :=
    ⟨hcl, hrs, hrc, hmd, HS.out.2.2.2.1.trans (hb3.mono HS.out.2.2.2.1.size), HS.out.2.2.2.2.below hb3⟩
  clear hlk hcl hrs hrc hmd hb3 HS HF
  go_wp2_with fail
  refine (zzprogress lk sb len _ f ad I S _ hl' HM.out.1 HM.out.2.1 HM.out.2.2.2.1).mono ?_
  rintro e w4 ⟨v, W, rfl, hW, hown, hnil, hb4⟩
  obtain ⟨av, cv, rfl, hav, hrow4⟩ := Row1.of_own hown hnil
  have HP : Hid (W = (win S len).filter (isH S) ∧ (W = [] → av = none) ∧ Row1 w4 av W.length (fun j => f (W.getD j 0)) ∧ w4.rowIs w2.heap.size 38 len f ∧ Made w4 w2.heap.size f ad len I S ∧ Below w0.heap.size w0 w4 ∧ Cands w4 a len I S N) :=
    ⟨hW, hav, hrow4, row_below HM.out.2.2.1 hb4 HM.out.2.2.1.lt, HM.out.2.2.2.1.below hb4 (Nat.le_refl _), HM.out.2.2.2.2.1.trans (hb4.mono HM.out.2.2.2.2.1.size), HM.out.2.2.2.2.2.below hb4⟩
  clear hW hown hnil hb4 hav hrow4 HM
  go_wp2_with fail
  refine (idx_not a len cap I S N _ _ HP.out.2.2.2.2.2.2 hl' (nf S) (fun i => by rw [failed_list]; rfl)).mono ?_
  rintro e w5 ⟨v5, rfl, hwin5, hb5⟩
  have HQ : Hid (Win w5 v5 (upTo (nf S) len) ∧ Below w4.heap.size w4 w5) := ⟨hwin5, hb5⟩
  clear hwin5 hb5
  go_wp2_with fail
  refine (firstK v5 _ _ HQ.out.1).mono ?_
  rintro e w6 ⟨v6, rfl, hwin6, rfl⟩
  obtain ⟨Q, hQe⟩ : ∃ Q, (upTo (nf S) len).take 20 = Q := ⟨_, rfl⟩
  rw [hQe] at hwin6
  obtain ⟨aw, cw, rfl, hcw1, hcw2, hwin⟩ := hwin6
  obtain ⟨dn, hdn⟩ : ∃ dn, (win S len).all (isA S) = dn := ⟨_, rfl⟩
  rw [hdn]
  have HQQ : Hid (W = Q.filter (isH S) ∧ dn = Q.all (isA S) ∧ ∀ i ∈ Q, i < len) := ⟨by rw [← hQe]; exact HP.out.1, by rw [← hdn, ← hQe]; rfl, fun i hi => (mem_take_upTo (by rw [hQe]; exact hi)).1⟩
  have HW : Hid (∀ j, j < Q.length → ∃ g, aw = some ⟨g, 0, none⟩ ∧ g < w6.heap.size ∧ w6.cell? ⟨g, j, none⟩ = some (.int .i64 ((Q.getD j 0 : Nat) : Int))) := hwin
  have hb46 : Below w4.heap.size w4 w6 := HQ.out.2
  have HR : Hid (Row1 w6 av W.length (fun j => f (W.getD j 0)) ∧ w6.rowIs w2.heap.size 38 len f ∧ Made w6 w2.heap.size f ad len I S ∧ Below w0.heap.size w0 w6 ∧ Cands w6 a len I S N ∧ (W = [] → av = none)) :=
    ⟨HP.out.2.2.1.below hb46, row_below HP.out.2.2.2.1 hb46 HP.out.2.2.2.1.lt, HP.out.2.2.2.2.1.below hb46 (Nat.le_refl _), HP.out.2.2.2.2.2.1.trans (hb46.mono HP.out.2.2.2.2.2.1.size), HP.out.2.2.2.2.2.2.below hb46, HP.out.2.1⟩
  have hWl : W.length ≤ Q.length := by rw [HQQ.out.1]; exact List.length_filter_le _ _
  have hwl : Q.length ≤ 20 := by rw [← hQe]; exact List.length_take_le _ _
  clear hwin hb46 HQ hQe hdn HP
  go_wp2_with fail
  go_loopw [11, 12, 13] (fun wd j mi wr => ∃ (m jn : Nat) (d : Bool), m ≤ Q.length ∧ jn ≤ W.length ∧ wd = .bool d ∧ j = .int .i64 jn ∧ mi = .int .i64 m ∧ Below w6.heap.size w6 wr ∧ Hid (jn = ((Q.take m).filter (isH S)).length ∧ d = (Q.take m).all (isA S)))
    (fun _ _ mi _ => Q.length - (intOf mi).toNat)
  case atStart => exact ⟨0, 0, true, Nat.zero_le _, Nat.zero_le _, rfl, rfl, rfl, Below.refl _ _, ⟨by simp, by simp⟩⟩
  case round =>
    obtain ⟨m, jn, d, hm, hjn, rfl, rfl, rfl, hnx, HE⟩ := hrel
    have HB : Hid (Below w6.heap.size w6 wr) := hnx
    by_cases hlt : m < Q.length
    · obtain ⟨g, rfl, hg, cw0⟩ := HW.out m hlt
      have cw1 := (hnx.cell (p := ⟨g, m, none⟩) (by exact hg)).trans cw0
      obtain ⟨q, hq⟩ : ∃ q, Q.getD m 0 = q := ⟨_, rfl⟩
      have hqlen : q < len := HQQ.out.2.2 q (by rw [← hq]; exact getD_mem hlt)
      rw [hq] at cw1
      obtain ⟨b, off, rfl, hb, c0, c1, c2⟩ := HR.out.2.2.2.2.1.below hnx q hqlen
      obtain ⟨bp, A, L, hf, ha, hA, hCb, hbp, e0, e1, e34⟩ := HR.out.2.2.1 q hqlen
      have cc := (hnx.cell (p := ⟨w2.heap.size, q, none⟩) (by exact HR.out.2.1.lt)).trans (HR.out.2.1.cell hqlen)
      rw [hf] at cc
      have HT : Hid (Q.take (m + 1) = Q.take m ++ [q]) := by rw [← hq]; exact take_snocN hlt
      have HFA : Hid (isH S q = true → jn < W.length ∧ W.getD jn 0 = q) := fun h => by
        have := filter_at (L := Q) (p := isH S) hlt (by rw [hq]; exact h)
        rw [hq, ← HE.out.1, ← HQQ.out.1] at this
        exact this
      have HFQ : Hid (f q = .pointer (some ⟨bp, 0, none⟩)) := hf
      clear cw0 c0 c2 e0 e1 e34 hA ha hf hq
      by_cases t2 : ((S q).toList == [97, 110, 115, 119, 101, 114, 101, 100]) = true
      · have HA : Hid (isA S q = true) := t2
        have t2n : (!(S q).toList == [97, 110, 115, 119, 101, 114, 101, 100]) = false := by rw [t2]; rfl
        have t3 : ((S q).toList == [104, 101, 97, 114, 100]) = false := by
          rw [beq_iff_eq] at t2; rw [t2]; decide
        have HH : Hid (isH S q = false) := t3
        clear hnx t2
        go_wp2
        go_roundw
        case rel => exact ⟨m + 1, jn, d, by omega, hjn, rfl, rfl, by go_num, HB.out, ⟨by rw [HT.out, filter_snoc_no HH.out]; exact HE.out.1, by rw [HT.out, all_snoc_yes HA.out]; exact HE.out.2⟩⟩
        case measure => simp [intOf]; omega
      · have t2' : ((S q).toList == [97, 110, 115, 119, 101, 114, 101, 100]) = false := by simpa using t2
        have HA : Hid (isA S q = false) := t2'
        have t2n : (!(S q).toList == [97, 110, 115, 119, 101, 114, 101, 100]) = true := by rw [t2']; rfl
        clear t2
        by_cases t3 : ((S q).toList == [104, 101, 97, 114, 100]) = true
        · have HH : Hid (isH S q = true) := t3
          obtain ⟨hj1, hj2⟩ := HFA.out t3
          obtain ⟨gv, rfl, hgv, cv0⟩ := HR.out.1 jn hj1
          have cv1 : wr.cell? ⟨gv, jn, none⟩ = some (f (W.getD jn 0)) := (hnx.cell (p := ⟨gv, jn, none⟩) (by exact hgv)).trans cv0
          rw [hj2, HFQ.out] at cv1
          clear hj2 cv0 hnx t2'
          have g1 : decide ((W.length : Int) ≤ (jn : Int)) = false := decide_eq_false (by omega)
          have g2 : (jn : Int) < (W.length : Int) := by omega
          have g3 : (q : Int) < (len : Int) := by omega
          have hpe := HPE.out
          go_wp2
          go_quiet (fail)
          go_wp2
          go_roundw
          case rel => exact ⟨m + 1, jn + 1, false, by omega, by omega, rfl, by go_num, by go_num, below_drewN HB.out _, ⟨by rw [HT.out, filter_snoc_yes HH.out, List.length_append, ← HE.out.1]; rfl, by rw [HT.out, all_snoc_no HA.out]⟩⟩
          case measure => simp [intOf]; omega
        · have t3' : ((S q).toList == [104, 101, 97, 114, 100]) = false := by simpa using t3
          have HH : Hid (isH S q = false) := t3'
          clear t3 hnx
          go_wp2
          go_roundw
          case rel => exact ⟨m + 1, jn, false, by omega, hjn, rfl, rfl, by go_num, HB.out, ⟨by rw [HT.out, filter_snoc_no HH.out]; exact HE.out.1, by rw [HT.out, all_snoc_no HA.out]⟩⟩
          case measure => simp [intOf]; omega
    · have hmQ : Q.take m = Q := List.take_of_length_le (by omega)
      have hj : jn = W.length := by rw [HE.out.1, hmQ, HQQ.out.1]
      have hd : d = dn := by rw [HE.out.2, hmQ, HQQ.out.2.1]
      subst hd
      have HJ : Hid (jn = W.length) := hj
      have q1 : ((jn : Int) != (W.length : Int)) = false := by simp [hj]
      clear hj hmQ hnx
      have hnn := fun (w : World) (a : Option Addr) (n c n' c' : Nat) => run_neq_slice_nil_any (P := Trym.prog) w 29 38 a n c n' c' Trym.underlying29
      by_cases hW0 : W = []
      · have hav := HR.out.2.2.2.2.2 hW0
        subst hav
        have q2 : ((W.length : Int) == 0) = true := by simp [hW0]
        clear hW0
        go_wp2
        go_ret
        exact ⟨ret_bool (by simp), HR.out.2.2.2.1.trans (HB.out.mono HR.out.2.2.2.1.size)⟩
      · have q2 : ((W.length : Int) == 0) = false := by simp [hW0]
        clear hW0
        go_wp2
        go_ret
        exact ⟨ret_bool (by simp), HR.out.2.2.2.1.trans (HB.out.mono HR.out.2.2.2.1.size)⟩

end Go.Proofs.Qxb6601955aMods.Kad
