import Derived.Test.Qxb6628649aDoorW5
namespace Go.Proofs.Qxb6628649aDoor
open Go.RowKit

theorem short1 : (⟨#[61]⟩ : ByteArray).size ≤ 1048576 := by decide
theorem short0 : (⟨#[]⟩ : ByteArray).size ≤ 1048576 := by decide

set_option maxHeartbeats 1600000 in
set_option maxRecDepth 100000 in
theorem law_core (op pre S E Bb P1 P2 P3 : ByteArray) (ma mi pa pt : Int) (w : World)
    (a0 : -9223372036854775808 ≤ ma) (a1 : ma ≤ 9223372036854775807) (b0 : -9223372036854775808 ≤ mi) (b1 : mi ≤ 9223372036854775807)
    (c0 : -9223372036854775808 ≤ pa) (c1 : pa ≤ 9223372036854775807) (htab : Tab w) (hsz : op.size + pre.size ≤ 1048576)
    (eS : Cnd.str ⟨op, ma, mi, pa, pre, pt⟩ = S) (eE : Cnd.str ⟨⟨#[61]⟩, ma, mi, pa, pre, pt⟩ = E) (eB : Cnd.str ⟨⟨#[61]⟩, ma, mi, pa, ⟨#[]⟩, pt⟩ = Bb)
    (e1 : Cnd.str ⟨⟨#[61]⟩, ma, mi, pa, ⟨#[]⟩, 1⟩ = P1) (e2 : Cnd.str ⟨⟨#[61]⟩, ma, mi, pa, ⟨#[]⟩, 2⟩ = P2) (e3 : Cnd.str ⟨⟨#[61]⟩, ma, mi, pa, ⟨#[]⟩, 3⟩ = P3)
    (k1 : (op.toList == [61]) = true → (S.toList == E.toList) = true) (k2 : (op.toList == [61]) = false → (S.toList == (op ++ ⟨#[32]⟩ ++ E).toList) = true)
    (k3 : pre.toList.isEmpty = true → (E.toList == Bb.toList) = true) (k4 : pre.toList.isEmpty = false → (E.toList == (Bb ++ ⟨#[45]⟩ ++ pre).toList) = true)
    (k5 : (P1.toList == (itoaB ma).toList) = true) (k6 : (P2.toList == (P1 ++ ⟨#[46]⟩ ++ itoaB mi).toList) = true) (k7 : (P3.toList == (P2 ++ ⟨#[46]⟩ ++ itoaB pa).toList) = true)
    (k8 : pt < 2 → (Bb.toList == P1.toList) = true) (k9 : pt = 2 → (Bb.toList == P2.toList) = true) (k10 : 2 < pt → (Bb.toList == P3.toList) = true)
    (sE : E.size ≤ 3000000) (sB : Bb.size ≤ 3000000) (s1 : P1.size ≤ 3000000) (s2 : P2.size ≤ 3000000) :
    Calls Tryd.prog 4 #[.string op, .int .i64 ma, .int .i64 mi, .int .i64 pa, .string pre, .int .i64 pt] w fun e w' => e = .returned (.bool true) ∧ Below w.heap.size w w' := by
  have h1 : op.size ≤ 1048576 := by omega
  have h2 : pre.size ≤ 1048576 := by omega
  have hbt : decide (op.size + pre.size ≤ 1048576) = true := by simpa using hsz
  have EqS : Hid (Cnd.str ⟨op, ma, mi, pa, pre, pt⟩ = S) := eS
  have EqE : Hid (Cnd.str ⟨⟨#[61]⟩, ma, mi, pa, pre, pt⟩ = E) := eE
  have EqB : Hid (Cnd.str ⟨⟨#[61]⟩, ma, mi, pa, ⟨#[]⟩, pt⟩ = Bb) := eB
  have Eq1 : Hid (Cnd.str ⟨⟨#[61]⟩, ma, mi, pa, ⟨#[]⟩, 1⟩ = P1) := e1
  have Eq2 : Hid (Cnd.str ⟨⟨#[61]⟩, ma, mi, pa, ⟨#[]⟩, 2⟩ = P2) := e2
  have Eq3 : Hid (Cnd.str ⟨⟨#[61]⟩, ma, mi, pa, ⟨#[]⟩, 3⟩ = P3) := e3
  clear eS eE eB e1 e2 e3
  have m1 := itoaB_size ma a0 a1
  have m2 := itoaB_size mi b0 b1
  have m3 := itoaB_size pa c0 c1
  have K8 : Hid (pt < 2 → (Bb.toList == P1.toList) = true) := k8
  have K9 : Hid (pt = 2 → (Bb.toList == P2.toList) = true) := k9
  have K10 : Hid (2 < pt → (Bb.toList == P3.toList) = true) := k10
  clear k8 k9 k10
  go_enter Tryd.func4, Tryd.ntmps4
  go_wp2_with fail
  refine (bytes_any _ _ _ _ _ _ _ (by unfold maxLen; omega) (by unfold maxLen; omega)).mono ?_
  rintro e w0 ⟨rfl, rfl⟩
  go_wp2_with fail
  refine (one_any ⟨op, ma, mi, pa, pre, pt⟩ _).mono ?_
  rintro e w1 ⟨q1, rfl, l1, H1, B1⟩
  go_wp2_with fail
  refine (one_any ⟨⟨#[61]⟩, ma, mi, pa, pre, pt⟩ _).mono ?_
  rintro e w2 ⟨q2, rfl, l2, H2, B2⟩
  go_wp2_with fail
  refine (one_any ⟨⟨#[61]⟩, ma, mi, pa, ⟨#[]⟩, pt⟩ _).mono ?_
  rintro e w3 ⟨q3, rfl, l3, H3, B3⟩
  go_wp2_with fail
  refine (one_any ⟨⟨#[61]⟩, ma, mi, pa, ⟨#[]⟩, 1⟩ _).mono ?_
  rintro e w4 ⟨q4, rfl, l4, H4, B4⟩
  go_wp2_with fail
  refine (one_any ⟨⟨#[61]⟩, ma, mi, pa, ⟨#[]⟩, 2⟩ _).mono ?_
  rintro e w5 ⟨q5, rfl, l5, H5, B5⟩
  go_wp2_with fail
  refine (one_any ⟨⟨#[61]⟩, ma, mi, pa, ⟨#[]⟩, 3⟩ _).mono ?_
  rintro e w6 ⟨q6, rfl, l6, H6, B6⟩
  have z1 := B1.size
  have z2 := B2.size
  have z3 := B3.size
  have z4 := B4.size
  have z5 := B5.size
  have z6 := B6.size
  go_wp2_with fail
  have D1 : Below w1.heap.size w1 w6 := B2.trans ((B3.mono (by omega)).trans ((B4.mono (by omega)).trans ((B5.mono (by omega)).trans (B6.mono (by omega)))))
  have D2 : Below w2.heap.size w2 w6 := B3.trans ((B4.mono (by omega)).trans ((B5.mono (by omega)).trans (B6.mono (by omega))))
  have D3 : Below w3.heap.size w3 w6 := B4.trans ((B5.mono (by omega)).trans (B6.mono (by omega)))
  have D4 : Below w4.heap.size w4 w6 := B5.trans (B6.mono (by omega))
  have D0 : Below w0.heap.size w0 w6 := B1.trans (D1.mono (by omega))
  have t6 := htab.belowSize D0
  have G1 := H1.below D1 l1
  have G2 := H2.below D2 l2
  have G3 := H3.below D3 l3
  have G4 := H4.below D4 l4
  have G5 := H5.below B6 l5
  refine (oneS_any ⟨op, ma, mi, pa, pre, pt⟩ S EqS.out q1 1 w6 (by omega) G1 ⟨a0, a1, b0, b1, c0, c1, h1, h2⟩ t6).mono ?_
  rintro e w7 ⟨rfl, B7⟩
  clear B2 B3 B4 B5 B6 D1 D2 D3 D4 B1 H1 H2 H3 H4 H5 G1
  have z7 := B7.size
  go_wp2_with fail
  refine (oneS_any ⟨⟨#[61]⟩, ma, mi, pa, pre, pt⟩ E EqE.out q2 1 w7 (by omega) (G2.below B7 (by omega)) ⟨a0, a1, b0, b1, c0, c1, short1, h2⟩ (t6.belowSize B7)).mono ?_
  rintro e w8 ⟨rfl, B8⟩
  have z8 := B8.size
  have D8 : Below w6.heap.size w6 w8 := B7.trans (B8.mono (by omega))
  clear B7 B8
  go_wp2_with fail
  refine (oneS_any ⟨⟨#[61]⟩, ma, mi, pa, ⟨#[]⟩, pt⟩ Bb EqB.out q3 1 w8 (by omega) (G3.below D8 (by omega)) ⟨a0, a1, b0, b1, c0, c1, short1, short0⟩ (t6.belowSize D8)).mono ?_
  rintro e w9 ⟨rfl, B9⟩
  have z9 := B9.size
  have D9 : Below w6.heap.size w6 w9 := D8.trans (B9.mono (by omega))
  clear D8 B9
  go_wp2_with fail
  refine (oneS_any ⟨⟨#[61]⟩, ma, mi, pa, ⟨#[]⟩, 1⟩ P1 Eq1.out q4 1 w9 (by omega) (G4.below D9 (by omega)) ⟨a0, a1, b0, b1, c0, c1, short1, short0⟩ (t6.belowSize D9)).mono ?_
  rintro e w10 ⟨rfl, B10⟩
  have z10 := B10.size
  have D10 : Below w6.heap.size w6 w10 := D9.trans (B10.mono (by omega))
  clear D9 B10
  go_wp2_with fail
  refine (oneS_any ⟨⟨#[61]⟩, ma, mi, pa, ⟨#[]⟩, 2⟩ P2 Eq2.out q5 1 w10 (by omega) (G5.below D10 (by omega)) ⟨a0, a1, b0, b1, c0, c1, short1, short0⟩ (t6.belowSize D10)).mono ?_
  rintro e w11 ⟨rfl, B11⟩
  have z11 := B11.size
  have D11 : Below w6.heap.size w6 w11 := D10.trans (B11.mono (by omega))
  clear D10 B11
  go_wp2_with fail
  refine (oneS_any ⟨⟨#[61]⟩, ma, mi, pa, ⟨#[]⟩, 3⟩ P3 Eq3.out q6 1 w11 (by omega) (H6.below D11 (by omega)) ⟨a0, a1, b0, b1, c0, c1, short1, short0⟩ (t6.belowSize D11)).mono ?_
  rintro e w12 ⟨rfl, B12⟩
  have z12 := B12.size
  have D12 : Below w0.heap.size w0 w12 := D0.trans ((D11.trans (B12.mono (by omega))).mono (by omega))
  clear D0 D11 B12 G2 G3 G4 G5 H6
  have T12 : Tab w12 := htab.belowSize D12
  clear htab t6
  cases ho : (op.toList == [61])
  all_goals
    first
      | (have r1 := k1 ho)
      | (have r1 := k2 ho)
    clear k1 k2
    cases hp : pre.toList.isEmpty
    all_goals
      first
        | (have r2 := k3 hp)
        | (have r2 := k4 hp)
      clear k3 k4
      go_wp2_with fail
      refine (zitoa_any ma _ a0 a1).mono ?_
      rintro e w13 ⟨rfl, B13⟩
      go_wp2_with fail
      refine (zitoa_any mi _ b0 b1).mono ?_
      rintro e w14 ⟨rfl, B14⟩
      go_wp2_with fail
      refine (zitoa_any pa _ c0 c1).mono ?_
      rintro e w15 ⟨rfl, B15⟩
      have D15 : Below w0.heap.size w0 w15 := D12.trans ((B13.mono (by omega)).trans ((B14.mono (by have := B13.size; omega)).trans (B15.mono (by have := B13.size; have := B14.size; omega))))
      clear B13 B14 B15
      by_cases hlt : pt < 2
      · have r3 := K8.out hlt
        go_wp2_with fail
        go_ret
        exact ⟨rfl, D15⟩
      · by_cases heq : pt = 2
        · have r3 := K9.out heq
          have hb : (pt == 2) = true := by simp [heq]
          go_wp2_with fail
          go_ret
          exact ⟨rfl, D15⟩
        · have r3 := K10.out (by omega)
          have hb : (pt == 2) = false := by simp [heq]
          go_wp2_with fail
          go_ret
          exact ⟨rfl, D15⟩
end Go.Proofs.Qxb6628649aDoor
