/-
  THE WALK OF FnProgressDoneMeansClosestIsTheWindow (function 4).
-/
import Derived.Test.Qxb6601955aModsKadLawC
namespace Go.Proofs.Qxb6601955aMods.Kad
open Go.RowKit

theorem isA_nf {S : Nat → ByteArray} {i : Nat} (h : isA S i = true) : nf S i = true := by
  show (!fl (S i)) = true
  rw [an_not_fl _ h]; rfl
theorem isA_isH {S : Nat → ByteArray} {i : Nat} (h : isA S i = true) : isH S i = false := by
  unfold isA an at h; unfold isH hd
  rw [beq_iff_eq] at h
  rw [h]; decide
theorem upTo_isA (S : Nat → ByteArray) (n : Nat) : upTo (isA S) n = (upTo (nf S) n).filter (isA S) := by
  unfold upTo
  rw [List.filter_filter]
  apply List.filter_congr
  intro i _
  cases h : isA S i with
  | true => rw [isA_nf h]; rfl
  | false => rfl
theorem take_filter {L : List Nat} {p : Nat → Bool} (h : (L.take 20).all p = true) : (L.filter p).take 20 = L.take 20 := by
  have e : (L.take 20).filter p = L.take 20 := List.filter_eq_self.2 (by simpa using h)
  have e2 : L.filter p = L.take 20 ++ (L.drop 20).filter p := by
    conv => lhs; rw [← List.take_append_drop 20 L, List.filter_append, e]
  rw [e2]
  by_cases hl : 20 ≤ L.length
  · rw [List.take_append_of_le_length (by rw [List.length_take]; omega), List.take_take, Nat.min_self]
  · rw [List.drop_of_length_le (by omega), List.filter_nil, List.append_nil, List.take_take, Nat.min_self]
/-- A window all of whose candidates answered is the first twenty that answered; nobody is left to ask. -/
theorem ans_win {S : Nat → ByteArray} {n : Nat} (h : (win S n).all (isA S) = true) : ans S n = win S n := by
  unfold ans win at *
  rw [upTo_isA]; exact take_filter h
theorem none_left {S : Nat → ByteArray} {n : Nat} (h : (win S n).all (isA S) = true) : (win S n).filter (isH S) = [] := by
  rw [List.filter_eq_nil_iff]
  intro i hi
  rw [isA_isH (List.all_eq_true.1 h i hi)]; simp

set_option maxHeartbeats 1600000 in
theorem lawB (a : Option Addr) (len cap : Nat) (I S : Nat → ByteArray) (N : Nat → Int) (w : World) (hc : Cands w a len I S N) (hl : len ≤ 9223372036854775807) :
    Calls Trym.prog 4 #[.slice a len cap] w fun e w' => e = .returned (.bool true) ∧ Below w.heap.size w w' := by
  have HC : Hid (Cands w a len I S N) := hc
  clear hc
  go_enter Trym.func4, Trym.ntmps4
  go_wp2_with fail
  refine (bytes14 a len cap I S N _ HC.out hl).mono ?_
  rintro e w0 ⟨⟨bo, rfl⟩, rfl⟩
  cases bo
  · go_wp2
    go_ret
    exact ⟨rfl, Below.refl _ _⟩
  go_wp2_with fail
  refine (toobig a len cap I S N _ HC.out hl).mono ?_
  rintro e w1 ⟨rfl | ⟨rfl, hfit⟩, hb1⟩
  · have HB : Hid (Below w0.heap.size w0 w1) := hb1
    clear hb1
    go_wp2
    go_ret
    exact ⟨rfl, HB.out⟩
  have HF : Hid (Fits len N ∧ Below w0.heap.size w0 w1 ∧ Cands w1 a len I S N) := ⟨hfit, hb1, HC.out.below hb1⟩
  have hl' : len ≤ 65536 := hfit.1
  clear hb1 hfit HC
  go_wp2_with fail
  refine (split a len cap I S N _ HF.out.2.2 hl').mono ?_
  rintro e w2 ⟨rfl, r0, r1, r2, hb2⟩
  have HS : Hid (w2.rowIs w1.heap.size 9 len (fun j => .string (I j)) ∧ w2.rowIs (w1.heap.size + 1) 9 len (fun j => .string (S j)) ∧ w2.rowIs (w1.heap.size + 1 + 1) 3 len (fun j => .int .i64 (N j)) ∧ Below w0.heap.size w0 w2 ∧ Cands w2 a len I S N) :=
    ⟨r0, r1, r2, HF.out.2.1.trans (hb2.mono HF.out.2.1.size), HF.out.2.2.below hb2⟩
  clear r0 r1 r2 hb2
  go_wp2_with fail
  refine (make_any _ _ _ len I S N _ hl' HF.out.1.2 HS.out.1 HS.out.2.1 HS.out.2.2.1).mono ?_
  rintro e w3 ⟨lk, sb, f, ad, rfl, hlk, hcl, hrs, hrc, hmd, hb3⟩
  have HM : Hid (w3.cell? ⟨lk, 33, none⟩ = some (.slice (some ⟨sb, 0, none⟩) len len) ∧ w3.rowIs sb 38 len f ∧ w3.rowIs w2.heap.size 38 len f ∧ Made w3 w2.heap.size f ad len I S ∧ Below w0.heap.size w0 w3 ∧ Cands w3 a len I S N) :=
    ⟨hcl, hrs, hrc, hmd, HS.out.2.2.2.1.trans (hb3.mono HS.out.2.2.2.1.size), HS.out.2.2.2.2.below hb3⟩
  have HLK : Hid (lk < w3.heap.size) := hlk
  clear hlk hcl hrs hrc hmd hb3 HS HF
  go_wp2_with fail
  refine (zzprogress lk sb len _ f ad I S _ hl' HM.out.1 HM.out.2.1 HM.out.2.2.2.1).mono ?_
  rintro e w4 ⟨v, W, rfl, hW, hown, hnil, hb4⟩
  obtain ⟨av, cv, rfl, hav, hrow4⟩ := Row1.of_own hown hnil
  have HP : Hid (W = (win S len).filter (isH S) ∧ (W = [] → av = none) ∧ (w4.cell? ⟨lk, 33, none⟩ = some (.slice (some ⟨sb, 0, none⟩) len len) ∧ w4.rowIs sb 38 len f) ∧ w4.rowIs w2.heap.size 38 len f ∧ Made w4 w2.heap.size f ad len I S ∧ Below w0.heap.size w0 w4 ∧ Cands w4 a len I S N) :=
    ⟨hW, hav, ⟨(hb4.cell (by exact HLK.out)).trans HM.out.1, row_below HM.out.2.1 hb4 HM.out.2.1.lt⟩, row_below HM.out.2.2.1 hb4 HM.out.2.2.1.lt, HM.out.2.2.2.1.below hb4 (Nat.le_refl _), HM.out.2.2.2.2.1.trans (hb4.mono HM.out.2.2.2.2.1.size), HM.out.2.2.2.2.2.below hb4⟩
  clear hW hown hnil hb4 hav hrow4 HM
  obtain ⟨dn, hdn⟩ : ∃ dn, (win S len).all (isA S) = dn := ⟨_, rfl⟩
  rw [hdn]
  cases dn
  · clear hdn
    go_wp2
    go_ret
    exact ⟨rfl, HP.out.2.2.2.2.2.1⟩
  have hav := HP.out.2.1 (by rw [HP.out.1]; exact none_left hdn)
  subst hav
  have HAW : Hid (ans S len = win S len) := ans_win hdn
  clear hdn
  go_wp2_with fail
  refine (zzclosest lk sb len _ f ad I S _ hl' HP.out.2.2.1.1 HP.out.2.2.1.2 HP.out.2.2.2.2.1).mono ?_
  rintro e w7 ⟨ap, cp, rfl, hown, hnil, hb7⟩
  obtain ⟨Q, hQe⟩ : ∃ Q, win S len = Q := ⟨_, rfl⟩
  rw [HAW.out, hQe] at hown ⊢
  have HP7 : Hid (Row2 w7 ap Q.length (fun j => .string (I (Q.getD j 0))) (fun j => ad (Q.getD j 0)) ∧ w7.rowIs w2.heap.size 38 len f ∧ Made w7 w2.heap.size f ad len I S ∧ Below w0.heap.size w0 w7 ∧ Cands w7 a len I S N ∧ win S len = Q) :=
    ⟨Row2.of_own hown, row_below HP.out.2.2.2.1 hb7 HP.out.2.2.2.1.lt, HP.out.2.2.2.2.1.below hb7 (Nat.le_refl _), HP.out.2.2.2.2.2.1.trans (hb7.mono HP.out.2.2.2.2.2.1.size), HP.out.2.2.2.2.2.2.below hb7, hQe⟩
  clear hown hnil hb7 hQe HP HAW
  go_wp2_with fail
  refine (idx_not a len cap I S N _ _ HP7.out.2.2.2.2.1 hl' (nf S) (fun i => by rw [failed_list]; rfl)).mono ?_
  rintro e w5 ⟨v5, rfl, hwin5, hb5⟩
  have HQ : Hid (Win w5 v5 (upTo (nf S) len) ∧ Below w7.heap.size w7 w5) := ⟨hwin5, hb5⟩
  clear hwin5 hb5
  go_wp2_with fail
  refine (firstK v5 _ _ HQ.out.1).mono ?_
  rintro e w6 ⟨v6, rfl, hwin6, rfl⟩
  rw [show (upTo (nf S) len).take 20 = Q from HP7.out.2.2.2.2.2] at hwin6
  obtain ⟨aw, cw, rfl, hcw1, hcw2, hwin⟩ := hwin6
  have HQQ : Hid (∀ i ∈ Q, i < len) := fun i hi => (mem_take_upTo (p := nf S) (n := len) (by rw [show (upTo (nf S) len).take 20 = Q from HP7.out.2.2.2.2.2]; exact hi)).1
  have HW : Hid (∀ j, j < Q.length → ∃ g, aw = some ⟨g, 0, none⟩ ∧ g < w6.heap.size ∧ w6.cell? ⟨g, j, none⟩ = some (.int .i64 ((Q.getD j 0 : Nat) : Int))) := hwin
  have hb46 : Below w7.heap.size w7 w6 := HQ.out.2
  have HR : Hid (Row2 w6 ap Q.length (fun j => .string (I (Q.getD j 0))) (fun j => ad (Q.getD j 0)) ∧ w6.rowIs w2.heap.size 38 len f ∧ Made w6 w2.heap.size f ad len I S ∧ Below w0.heap.size w0 w6) :=
    ⟨HP7.out.1.below hb46, row_below HP7.out.2.1 hb46 HP7.out.2.1.lt, HP7.out.2.2.1.below hb46 (Nat.le_refl _), HP7.out.2.2.2.1.trans (hb46.mono HP7.out.2.2.2.1.size)⟩
  have hwl : Q.length ≤ 20 := by rw [← HP7.out.2.2.2.2.2]; exact List.length_take_le _ _
  have hnn := fun (w : World) (a : Option Addr) (n c n' c' : Nat) => run_neq_slice_nil_any (P := Trym.prog) w 29 38 a n c n' c' Trym.underlying29
  have q0 : ((Q.length : Int) != (Q.length : Int)) = false := by simp
  clear hwin hb46 HQ HP7
  go_wp2_with fail
  go_loopw [12] (fun j wr => ∃ jn : Nat, jn ≤ Q.length ∧ j = .int .i64 jn ∧ Below w6.heap.size w6 wr) (fun j _ => Q.length - (intOf j).toNat)
  case atStart => exact ⟨0, Nat.zero_le _, rfl, Below.refl _ _⟩
  case round =>
    obtain ⟨m, hm, rfl, hnx⟩ := hrel
    have HB : Hid (Below w6.heap.size w6 wr) := hnx
    have hsz := hnx.size
    by_cases hlt : m < Q.length
    · obtain ⟨g, rfl, hg, cw0⟩ := HW.out m hlt
      have cw1 := (hnx.cell (p := ⟨g, m, none⟩) (by exact hg)).trans cw0
      obtain ⟨gp, rfl, hgp, cp0, cp1⟩ := HR.out.1 m hlt
      obtain ⟨q, hq⟩ : ∃ q, Q.getD m 0 = q := ⟨_, rfl⟩
      have hqlen : q < len := HQQ.out q (by rw [← hq]; exact getD_mem hlt)
      simp only [hq] at cw1 cp0 cp1
      obtain ⟨bp, A, L, hf, ha, hA, hCb, hbp, e0, e1, e34⟩ := HR.out.2.2.1 q hqlen
      have cc := (hnx.cell (p := ⟨w2.heap.size, q, none⟩) (by exact HR.out.2.1.lt)).trans (HR.out.2.1.cell hqlen)
      rw [hf] at cc
      rw [ha] at cp1
      have cp0' := (hnx.cell (p := ⟨gp, m * 2, none⟩) (by exact hgp)).trans cp0
      have cp1' := (hnx.cell (p := ⟨gp, m * 2 + 1, none⟩) (by exact hgp)).trans cp1
      have HSM : Hid (∀ W : World, Below w6.heap.size w6 W → Calls Trym.prog 16 #[.agg #[.string (I q), .slice A L L], .pointer (some ⟨bp, 0, none⟩)] W fun e w' => e = .returned (.bool true) ∧ Below W.heap.size W w') := fun W hW =>
        same_any (I q) A L bp W hA (Nat.lt_of_lt_of_le hbp hW.size) ((hW.cell (by exact hbp)).trans e0) ((hW.cell (by exact hbp)).trans e1)
      have g1 : (m : Int) < (Q.length : Int) := by omega
      have g2 : (q : Int) < (len : Int) := by omega
      clear cw0 cp0 cp1 e0 e1 e34 hA ha hf hq hnx
      go_wp2
      go_region_with (go_at_call 16; refine Calls.mono (HSM.out _ (by first | exact HB.out | exact HB.out.drew | exact HB.out.drew.drew)) ?_; rintro e w9 ⟨rfl, hb9⟩)
      all_goals
        go_wp2
        go_roundw
        case rel => exact ⟨m + 1, by omega, by go_num, by first | exact HB.out.drew.trans (hb9.mono hsz) | exact HB.out.trans (hb9.mono hsz) | exact HB.out.drew.drew.trans (hb9.mono hsz)⟩
        case measure => simp [intOf]; omega
    · clear hnx
      go_wp2
      go_ret
      exact ⟨rfl, HR.out.2.2.2.trans (HB.out.mono HR.out.2.2.2.size)⟩

end Go.Proofs.Qxb6601955aMods.Kad
