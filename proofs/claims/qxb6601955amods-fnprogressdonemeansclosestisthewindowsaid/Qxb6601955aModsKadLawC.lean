/-
  THE WALK OF FnClosestIsTheFirstKAnswered (function 5).
-/
import Derived.Test.Qxb6601955aModsKadGuards
import Derived.Test.Qxb6601955aModsKadClosest
import Derived.Test.Qxb6601955aModsKadSame
import Derived.Test.Qxb6601955aModsKadLawA
import Derived.Deep.RegionWith
namespace Go.Proofs.Qxb6601955aMods.Kad
open Go.RowKit

/-- A slice of AddrInfos in new memory. -/
def Row2 (w : World) (a : Option Addr) (n : Nat) (F G : Nat → Value) : Prop := ∀ j, j < n → ∃ g, a = some ⟨g, 0, none⟩ ∧ g < w.heap.size ∧ w.cell? ⟨g, j * 2, none⟩ = some (F j) ∧ w.cell? ⟨g, j * 2 + 1, none⟩ = some (G j)
theorem Row2.below {w w' : World} {a : Option Addr} {n : Nat} {F G : Nat → Value} (h : Row2 w a n F G) (hb : Below w.heap.size w w') : Row2 w' a n F G := fun j hj => by
  obtain ⟨g, h1, h2, h3, h4⟩ := h j hj
  exact ⟨g, h1, Nat.lt_of_lt_of_le h2 hb.size, (hb.cell (by exact h2)).trans h3, (hb.cell (by exact h2)).trans h4⟩
theorem infos_at {I : Nat → ByteArray} {ad : Nat → Value} : ∀ (G : List Nat) (j : Nat), j < G.length → (infos I ad G)[j * 2]? = some (.string (I (G.getD j 0))) ∧ (infos I ad G)[j * 2 + 1]? = some (ad (G.getD j 0))
  | [], j, h => absurd h (by simp)
  | x :: G, 0, _ => ⟨by simp [infos], by simp [infos]⟩
  | x :: G, j + 1, h => by
    have ih := infos_at (I := I) (ad := ad) G j (by simpa using h)
    have e : infos I ad (x :: G) = .string (I x) :: ad x :: infos I ad G := by simp [infos]
    rw [e, show (j + 1) * 2 = j * 2 + 1 + 1 from by omega]
    simpa using ih
theorem Row2.of_own {w : World} {B cap : Nat} {a : Option Addr} {I : Nat → ByteArray} {ad : Nat → Value} {G : List Nat} (h : w.ownsRow B 45 2 (.slice a G.length cap) G.length (infos I ad G)) :
    Row2 w a G.length (fun j => .string (I (G.getD j 0))) (fun j => ad (G.getD j 0)) := fun j hj => by
  have h' := h
  obtain ⟨_, ⟨e, h0⟩ | ⟨g, cap', cur, e, _, hg, _⟩⟩ := h
  · omega
  · simp at e
    obtain ⟨rfl, rfl⟩ := e
    have k := infos_at (I := I) (ad := ad) G j hj
    exact ⟨g, rfl, (Array.getElem?_eq_some_iff.1 hg).1, by rw [h'.cellAt (j * 2) (by omega)]; exact k.1, by rw [h'.cellAt (j * 2 + 1) (by omega)]; exact k.2⟩

set_option maxHeartbeats 1600000 in
theorem lawC (a : Option Addr) (len cap : Nat) (I S : Nat → ByteArray) (N : Nat → Int) (w : World) (hc : Cands w a len I S N) (hl : len ≤ 9223372036854775807) :
    Calls Trym.prog 5 #[.slice a len cap] w fun e w' => e = .returned (.bool true) ∧ Below w.heap.size w w' := by
  have HC : Hid (Cands w a len I S N) := hc
  clear hc
  go_enter Trym.func5, Trym.ntmps5
  go_wp2_with fail
  refine (bytes17 a len cap I S N _ HC.out hl).mono ?_
  rintro e w0 ⟨⟨bo, rfl⟩, rfl⟩
  cases bo
  · go_wp2
    go_ret
    exact ⟨rfl, Below.refl _ _⟩
  go_wp2_with fail
  refine (toobig a len cap I S N _ HC.out hl).mono ?_
  rintro e w1 ⟨rfl | ⟨rfl, hfit⟩, hb1⟩
  · have HB : Hid (Below w0.heap.size w0 w1) := hb1
    clear hb1
    go_wp2
    go_ret
    exact ⟨rfl, HB.out⟩
  have HF : Hid (Fits len N ∧ Below w0.heap.size w0 w1 ∧ Cands w1 a len I S N) := ⟨hfit, hb1, HC.out.below hb1⟩
  have hl' : len ≤ 65536 := hfit.1
  clear hb1 hfit HC
  go_wp2_with fail
  refine (split a len cap I S N _ HF.out.2.2 hl').mono ?_
  rintro e w2 ⟨rfl, r0, r1, r2, hb2⟩
  have HS : Hid (w2.rowIs w1.heap.size 9 len (fun j => .string (I j)) ∧ w2.rowIs (w1.heap.size + 1) 9 len (fun j => .string (S j)) ∧ w2.rowIs (w1.heap.size + 1 + 1) 3 len (fun j => .int .i64 (N j)) ∧ Below w0.heap.size w0 w2 ∧ Cands w2 a len I S N) :=
    ⟨r0, r1, r2, HF.out.2.1.trans (hb2.mono HF.out.2.1.size), HF.out.2.2.below hb2⟩
  clear r0 r1 r2 hb2
  go_wp2_with fail
  refine (make_any _ _ _ len I S N _ hl' HF.out.1.2 HS.out.1 HS.out.2.1 HS.out.2.2.1).mono ?_
  rintro e w3 ⟨lk, sb, f, ad, rfl, hlk, hcl, hrs, hrc, hmd, hb3⟩
  have HM : Hid (w3.cell? ⟨lk, 33, none⟩ = some (.slice (some ⟨sb, 0, none⟩) len len) ∧ w3.rowIs sb 38 len f ∧ w3.rowIs w2.heap.size 38 len f ∧ Made w3 w2.heap.size f ad len I S ∧ Below w0.heap.size w0 w3 ∧ Cands w3 a len I S N) :=
    ⟨hcl, hrs, hrc, hmd, HS.out.2.2.2.1.trans (hb3.mono HS.out.2.2.2.1.size), HS.out.2.2.2.2.below hb3⟩
  clear hlk hcl hrs hrc hmd hb3 HS HF
  go_wp2_with fail
  refine (zzclosest lk sb len _ f ad I S _ hl' HM.out.1 HM.out.2.1 HM.out.2.2.2.1).mono ?_
  rintro e w4 ⟨ap, cp, rfl, hown, hnil, hb4⟩
  obtain ⟨Q, hQe⟩ : ∃ Q, ans S len = Q := ⟨_, rfl⟩
  rw [hQe] at hown hnil ⊢
  have HP : Hid ((Q = [] → ap = none) ∧ Row2 w4 ap Q.length (fun j => .string (I (Q.getD j 0))) (fun j => ad (Q.getD j 0)) ∧ w4.rowIs w2.heap.size 38 len f ∧ Made w4 w2.heap.size f ad len I S ∧ Below w0.heap.size w0 w4 ∧ Cands w4 a len I S N ∧ ans S len = Q) :=
    ⟨hnil, Row2.of_own hown, row_below HM.out.2.2.1 hb4 HM.out.2.2.1.lt, HM.out.2.2.2.1.below hb4 (Nat.le_refl _), HM.out.2.2.2.2.1.trans (hb4.mono HM.out.2.2.2.2.1.size), HM.out.2.2.2.2.2.below hb4, hQe⟩
  clear hown hnil hb4 HM hQe
  go_wp2_with fail
  refine (idx_is a len cap I S N _ _ HP.out.2.2.2.2.2.1 hl' (isA S) (fun i => by rw [answered_list]; rfl)).mono ?_
  rintro e w5 ⟨v5, rfl, hwin5, hb5⟩
  have HQ : Hid (Win w5 v5 (upTo (isA S) len) ∧ Below w4.heap.size w4 w5) := ⟨hwin5, hb5⟩
  clear hwin5 hb5
  go_wp2_with fail
  refine (firstK v5 _ _ HQ.out.1).mono ?_
  rintro e w6 ⟨v6, rfl, hwin6, rfl⟩
  rw [show (upTo (isA S) len).take 20 = Q from HP.out.2.2.2.2.2.2] at hwin6
  obtain ⟨aw, cw, rfl, hcw1, hcw2, hwin⟩ := hwin6
  have HQQ : Hid (∀ i ∈ Q, i < len) := fun i hi => (mem_take_upTo (p := isA S) (n := len) (by rw [show (upTo (isA S) len).take 20 = Q from HP.out.2.2.2.2.2.2]; exact hi)).1
  have HW : Hid (∀ j, j < Q.length → ∃ g, aw = some ⟨g, 0, none⟩ ∧ g < w6.heap.size ∧ w6.cell? ⟨g, j, none⟩ = some (.int .i64 ((Q.getD j 0 : Nat) : Int))) := hwin
  have hb46 : Below w4.heap.size w4 w6 := HQ.out.2
  have HR : Hid (Row2 w6 ap Q.length (fun j => .string (I (Q.getD j 0))) (fun j => ad (Q.getD j 0)) ∧ w6.rowIs w2.heap.size 38 len f ∧ Made w6 w2.heap.size f ad len I S ∧ Below w0.heap.size w0 w6 ∧ Cands w6 a len I S N ∧ (Q = [] → ap = none)) :=
    ⟨HP.out.2.1.below hb46, row_below HP.out.2.2.1 hb46 HP.out.2.2.1.lt, HP.out.2.2.2.1.below hb46 (Nat.le_refl _), HP.out.2.2.2.2.1.trans (hb46.mono HP.out.2.2.2.2.1.size), HP.out.2.2.2.2.2.1.below hb46, HP.out.1⟩
  have hwl : Q.length ≤ 20 := by rw [← HP.out.2.2.2.2.2.2]; exact List.length_take_le _ _
  have hnn := fun (w : World) (a : Option Addr) (n c n' c' : Nat) => run_neq_slice_nil_any (P := Trym.prog) w 39 45 a n c n' c' Trym.underlying39
  have q0 : ((Q.length : Int) != (Q.length : Int)) = false := by simp
  clear hwin hb46 HQ HP
  by_cases hQ0 : Q = []
  · have hap := HR.out.2.2.2.2.2 hQ0
    subst hap
    have q2 : ((Q.length : Int) == 0) = true := by simp [hQ0]
    have hQl : Q.length ≤ 0 := by simp [hQ0]
    clear hQ0
    go_wp2_with fail
    go_loopw [10] (fun j wr => ∃ jn : Nat, jn ≤ Q.length ∧ j = .int .i64 jn ∧ Below w6.heap.size w6 wr) (fun j _ => Q.length - (intOf j).toNat)
    case atStart => exact ⟨0, Nat.zero_le _, rfl, Below.refl _ _⟩
    case round =>
      obtain ⟨jn, hj, rfl, hnx⟩ := hrel
      have HB : Hid (Below w6.heap.size w6 wr) := hnx
      clear hnx
      go_wp2
      go_ret
      exact ⟨rfl, HR.out.2.2.2.1.trans (HB.out.mono HR.out.2.2.2.1.size)⟩
  · have q2 : ((Q.length : Int) == 0) = false := by simp [hQ0]
    clear hQ0
    go_wp2_with fail
    go_loopw [10] (fun j wr => ∃ jn : Nat, jn ≤ Q.length ∧ j = .int .i64 jn ∧ Below w6.heap.size w6 wr) (fun j _ => Q.length - (intOf j).toNat)
    case atStart => exact ⟨0, Nat.zero_le _, rfl, Below.refl _ _⟩
    case round =>
      obtain ⟨m, hm, rfl, hnx⟩ := hrel
      have HB : Hid (Below w6.heap.size w6 wr) := hnx
      have hsz := hnx.size
      by_cases hlt : m < Q.length
      · obtain ⟨g, rfl, hg, cw0⟩ := HW.out m hlt
        have cw1 := (hnx.cell (p := ⟨g, m, none⟩) (by exact hg)).trans cw0
        obtain ⟨gp, rfl, hgp, cp0, cp1⟩ := HR.out.1 m hlt
        obtain ⟨q, hq⟩ : ∃ q, Q.getD m 0 = q := ⟨_, rfl⟩
        have hqlen : q < len := HQQ.out q (by rw [← hq]; exact getD_mem hlt)
        simp only [hq] at cw1 cp0 cp1
        obtain ⟨bp, A, L, hf, ha, hA, hCb, hbp, e0, e1, e34⟩ := HR.out.2.2.1 q hqlen
        have cc := (hnx.cell (p := ⟨w2.heap.size, q, none⟩) (by exact HR.out.2.1.lt)).trans (HR.out.2.1.cell hqlen)
        rw [hf] at cc
        rw [ha] at cp1
        have cp0' := (hnx.cell (p := ⟨gp, m * 2, none⟩) (by exact hgp)).trans cp0
        have cp1' := (hnx.cell (p := ⟨gp, m * 2 + 1, none⟩) (by exact hgp)).trans cp1
        have HSM : Hid (∀ W : World, Below w6.heap.size w6 W → Calls Trym.prog 16 #[.agg #[.string (I q), .slice A L L], .pointer (some ⟨bp, 0, none⟩)] W fun e w' => e = .returned (.bool true) ∧ Below W.heap.size W w') := fun W hW =>
          same_any (I q) A L bp W hA (Nat.lt_of_lt_of_le hbp hW.size) ((hW.cell (by exact hbp)).trans e0) ((hW.cell (by exact hbp)).trans e1)
        have g1 : (m : Int) < (Q.length : Int) := by omega
        have g2 : (q : Int) < (len : Int) := by omega
        clear cw0 cp0 cp1 e0 e1 e34 hA ha hf hq hnx
        go_wp2
        go_region_with (go_at_call 16; refine Calls.mono (HSM.out _ (by first | exact HB.out | exact HB.out.drew | exact HB.out.drew.drew)) ?_; rintro e w7 ⟨rfl, hb7⟩)
        all_goals
          go_wp2
          go_roundw
          case rel => exact ⟨m + 1, by omega, by go_num, by first | exact HB.out.drew.trans (hb7.mono hsz) | exact HB.out.trans (hb7.mono hsz) | exact HB.out.drew.drew.trans (hb7.mono hsz)⟩
          case measure => simp [intOf]; omega
      · clear hnx
        go_wp2
        go_ret
        exact ⟨rfl, HR.out.2.2.2.1.trans (HB.out.mono HR.out.2.2.2.1.size)⟩

end Go.Proofs.Qxb6601955aMods.Kad
