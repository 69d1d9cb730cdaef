import Derived.Test.Qxb6628675aRows
import Derived.Test.Qxb6628675aShelf
import Derived.Test.Qxb6628675aDivI
import Derived.WalkKit
import Derived.WalkSpells
import Derived.WalkLawsBesides
import Derived.Deep.QuietTactic
import Derived.BigQuiet
import Derived.Deep.RegionHeld3
import Derived.Laws.Bits64b
namespace Go.Proofs.Qxb6628675a
open Go.RowKit

theorem mul_small {a b : Int} (ha : 0 ≤ a) (ha' : a < 4294967296) (hb : 0 ≤ b) (hb' : b < 4294967296) : a * b ≤ 18446744073709551615 := by
  have h1 : a * b ≤ 4294967295 * b := Int.mul_le_mul_of_nonneg_right (by omega) hb
  omega

theorem wrap_nat (a : Int) (h0 : 0 ≤ a) (h1 : a ≤ 18446744073709551615) : IntKind.u64.wrap a = a := by rw [IntKind.wrap_u64]; omega

set_option maxHeartbeats 400000 in
theorem div64_zero (lo y : Nat) (w : World) (hlo : lo < 18446744073709551616) (hy0 : 0 < y) (hy : y < 18446744073709551616) :
    Calls Try.prog 30 #[.int .u64 0, .int .u64 lo, .int .u64 y] w fun e w' => e = .returned (.tuple #[.int .u64 ((lo / y : Nat) : Int), .int .u64 ((lo % y : Nat) : Int)]) ∧ ∃ n, w' = w.drewN n := by
  have hyb : ((y : Int) == 0) = false := by simp; omega
  have hle : ¬ (y : Int) ≤ 0 := by omega
  go_enter Try.func30, Try.ntmps30
  go_wp2
  go_quiet (fail)
  go_wp2
  go_ret2
  refine ⟨?_, _, rfl⟩
  show Ending.returned (Value.tuple #[Value.int .u64 (IntKind.u64.wrap ((lo : Int) / (y : Int))), Value.int .u64 ((lo : Int) % (y : Int))]) = _
  rw [wrap_nat _ (Int.ediv_nonneg (by omega) (by omega)) (by have := Int.ediv_le_self (y : Int) (show 0 ≤ (lo : Int) by omega); omega)]
  simp

set_option maxHeartbeats 1600000 in
theorem div64_core (hi lo y bl : Nat) (Y y1 y0 u t v1 v0 q0 r0 D D2 u2 R : Int) (w : World) (hy : y ≤ 18446744073709551615) (hh : hi < y) (hh0 : 0 < hi) (hbl : bl ≤ 64) (hbl1 : 1 ≤ bl)
    (HS : Hid (Lib.bitLen (y : Int).toNat = bl))
    (eY : IntKind.u64.wrap ((y : Int) * 2 ^ (64 - bl)) = Y) (e1 : Y / 4294967296 = y1) (e0 : bits .and .u64 Y 4294967295 = y0)
    (eu : bits .or .u64 (IntKind.u64.wrap ((hi : Int) * 2 ^ (64 - bl))) ((lo : Int) / 2 ^ (64 - (64 - bl))) = u)
    (et : IntKind.u64.wrap ((lo : Int) * 2 ^ (64 - bl)) = t) (ev1 : t / 4294967296 = v1) (ev0 : bits .and .u64 t 4294967295 = v0)
    (eq : IntKind.u64.wrap (u.tdiv y1) = q0) (er : IntKind.u64.wrap (u - IntKind.u64.wrap (q0 * y1)) = r0)
    (hY : Hid (Y = y1 * 4294967296 + y0)) (HF : Hid (Fix u v1 y1 y0)) (HF2 : Hid (Fix u2 v0 y1 y0)) (hq0 : 0 ≤ q0) (hr0 : 0 ≤ r0) (HE : Hid (EstI u v1 y1 y0 q0 r0))
    (HD : Hid (D = (digI u v1 y1 y0 : Int))) (HU : Hid (u2 = (restI u v1 y1 y0 : Int))) (HD2 : Hid (D2 = (digI u2 v0 y1 y0 : Int))) (HR : Hid (R = (restI u2 v0 y1 y0 : Int))) :
    Calls Try.prog 30 #[.int .u64 hi, .int .u64 lo, .int .u64 y] w fun e w' => e = .returned (.tuple #[.int .u64 (D * 4294967296 + D2), .int .u64 (R / 2 ^ (64 - bl))]) ∧ w' = w := by
  have hyb : ((y : Int) == 0) = false := by simp; omega
  have hhb : ((hi : Int) == 0) = false := by simp; omega
  have hle : ¬ (y : Int) ≤ (hi : Int) := by omega
  have hy1 := HF.out.a0
  have hy1' := HF.out.a1
  have hy0 := HF.out.b0
  have hy0' := HF.out.b1
  have hv1 := HF.out.v0
  have hv1' := HF.out.v1
  have hv0 := HF2.out.v0
  have hv0' := HF2.out.v1
  have hy1b : (y1 == 0) = false := by simp; omega
  have hDl : 0 ≤ D := by rw [HD.out]; omega
  have hDl' : D < 4294967296 := by rw [HD.out]; have := digI_lt HF.out; omega
  have hEl : 0 ≤ D2 := by rw [HD2.out]; omega
  have hEl' : D2 < 4294967296 := by rw [HD2.out]; have := digI_lt HF2.out; omega
  have hRl : 0 ≤ R := by rw [HR.out]; omega
  obtain ⟨q2, r2, g1, g2, hq2, hr2, HE2⟩ := start HF2.out
  have G1 : Hid (IntKind.u64.wrap (u2.tdiv y1) = q2) := g1
  have G2 : Hid (IntKind.u64.wrap (u2 - IntKind.u64.wrap (q2 * y1)) = r2) := g2
  have L1 : Hid (IntKind.u64.wrap (IntKind.u64.wrap (IntKind.u64.wrap (u * 4294967296) + v1) - IntKind.u64.wrap (D * Y)) = u2) := by
    show _ = _
    rw [hY.out, HU.out]; exact left_wrap HF.out HD.out
  have L2 : Hid (IntKind.u64.wrap (IntKind.u64.wrap (IntKind.u64.wrap (u2 * 4294967296) + v0) - IntKind.u64.wrap (D2 * Y)) = R) := by
    show _ = _
    rw [hY.out, HR.out]; exact left_wrap HF2.out HD2.out
  clear g1 g2
  go_enter Try.func30, Try.ntmps30
  go_wp2_with fail
  refine (Try.bits_LeadingZeros64 _ _ (by omega) (by omega)).mono ?_
  rintro e w1 ⟨rfl, rfl⟩
  rw [HS.out]
  go_wp2
  clear eY e1 e0 eu et ev1 ev0 eq er
  go_loop [15, 16] (fun a b => ∃ q r : Int, a = .int .u64 q ∧ b = .int .u64 r ∧ 0 ≤ q ∧ q ≤ 4294967297 ∧ 0 ≤ r ∧ r < 4294967296 ∧ Hid (EstI u v1 y1 y0 q r)) (fun a _ => (intOf a).toNat)
  case atStart => exact ⟨q0, r0, rfl, rfl, hq0, by have : q0.toNat ≤ 4294967297 := HE.out.hi; omega, hr0, by have : r0.toNat < 4294967296 := HE.out.r; omega, HE⟩
  case round =>
    obtain ⟨q, r, rfl, rfl, hq, hq', hr, hr', HI⟩ := hrel
    by_cases hqB : 4294967296 ≤ q
    · by_cases hbr : r + y1 < 4294967296
      · go_wp2
        go_round
        case rel => exact ⟨q - 1, r + y1, rfl, rfl, by omega, by omega, by omega, hbr, HI.out.next HF.out hq hr (.inl hqB) hbr⟩
        case measure => simp [intOf]; omega
      · have hx : q - 1 = D := (HI.out.brk HF.out hq hr (.inl hqB) hbr).trans HD.out.symm
        have l1 := L1.out
        have m1 := G1.out
        have m2 := G2.out
        go_wp2
        clear l1 m1 m2 hx
        go_loop [18, 16] (fun a b => ∃ q r : Int, a = .int .u64 q ∧ b = .int .u64 r ∧ 0 ≤ q ∧ q ≤ 4294967297 ∧ 0 ≤ r ∧ r < 4294967296 ∧ Hid (EstI u2 v0 y1 y0 q r)) (fun a _ => (intOf a).toNat)
        case atStart => exact ⟨q2, r2, rfl, rfl, hq2, by have : q2.toNat ≤ 4294967297 := HE2.hi; omega, hr2, by have : r2.toNat < 4294967296 := HE2.r; omega, HE2⟩
        case round =>
          clear HI hq hq' hr hr'
          obtain ⟨p, s, rfl, rfl, hp, hp', hs, hs', HI⟩ := hrel
          by_cases hpB : 4294967296 ≤ p
          · by_cases hbs : s + y1 < 4294967296
            · go_wp2
              go_round
              case rel => exact ⟨p - 1, s + y1, rfl, rfl, by omega, by omega, by omega, hbs, HI.out.next HF2.out hp hs (.inl hpB) hbs⟩
              case measure => simp [intOf]; omega
            · have hz : p - 1 = D2 := (HI.out.brk HF2.out hp hs (.inl hpB) hbs).trans HD2.out.symm
              have l2 := L2.out
              go_wp2
              go_ret2
              exact ⟨rfl, rfl⟩
          · obtain ⟨Q, hQ⟩ : ∃ Q, Q = p * y0 := ⟨_, rfl⟩
            have HQ : Hid (Q = p * y0) := hQ
            have hQ0 : 0 ≤ Q := by rw [hQ]; exact Int.mul_nonneg hp hy0
            have eq2 : IntKind.u64.wrap (p * y0) = Q := by rw [← hQ]; exact wrap_nat Q hQ0 (by rw [hQ]; exact mul_small hp (by omega) hy0 hy0')
            clear hQ
            by_cases hd : 4294967296 * s + v0 < Q
            · have hp1 : 1 ≤ p := HI.out.more HF2.out hp hs (.inr (by rw [← HQ.out]; exact hd))
              by_cases hbs : s + y1 < 4294967296
              · go_wp2
                go_round
                case rel => exact ⟨p - 1, s + y1, rfl, rfl, by omega, by omega, by omega, hbs, HI.out.next HF2.out hp hs (.inr (by rw [← HQ.out]; exact hd)) hbs⟩
                case measure => simp [intOf]; omega
              · have hz : p - 1 = D2 := (HI.out.brk HF2.out hp hs (.inr (by rw [← HQ.out]; exact hd)) hbs).trans HD2.out.symm
                have l2 := L2.out
                go_wp2
                go_ret2
                exact ⟨rfl, rfl⟩
            · have hz : p = D2 := (HI.out.stop HF2.out hp hs (by rw [← HQ.out]; exact hd)).trans HD2.out.symm
              subst hz
              have l2 := L2.out
              go_wp2
              go_ret2
              exact ⟨rfl, rfl⟩
    · obtain ⟨P, hP⟩ : ∃ P, P = q * y0 := ⟨_, rfl⟩
      have HP : Hid (P = q * y0) := hP
      have hP0 : 0 ≤ P := by rw [hP]; exact Int.mul_nonneg hq hy0
      have ep : IntKind.u64.wrap (q * y0) = P := by rw [← hP]; exact wrap_nat P hP0 (by rw [hP]; exact mul_small hq (by omega) hy0 hy0')
      clear hP
      by_cases hc : 4294967296 * r + v1 < P
      · have hq1 : 1 ≤ q := HI.out.more HF.out hq hr (.inr (by rw [← HP.out]; exact hc))
        by_cases hbr : r + y1 < 4294967296
        · go_wp2
          go_round
          case rel => exact ⟨q - 1, r + y1, rfl, rfl, by omega, by omega, by omega, hbr, HI.out.next HF.out hq hr (.inr (by rw [← HP.out]; exact hc)) hbr⟩
          case measure => simp [intOf]; omega
        · have hx : q - 1 = D := (HI.out.brk HF.out hq hr (.inr (by rw [← HP.out]; exact hc)) hbr).trans HD.out.symm
          have l1 := L1.out
          have m1 := G1.out
          have m2 := G2.out
          go_wp2
          clear l1 m1 m2 hx ep
          go_loop [18, 16] (fun a b => ∃ q r : Int, a = .int .u64 q ∧ b = .int .u64 r ∧ 0 ≤ q ∧ q ≤ 4294967297 ∧ 0 ≤ r ∧ r < 4294967296 ∧ Hid (EstI u2 v0 y1 y0 q r)) (fun a _ => (intOf a).toNat)
          case atStart => exact ⟨q2, r2, rfl, rfl, hq2, by have : q2.toNat ≤ 4294967297 := HE2.hi; omega, hr2, by have : r2.toNat < 4294967296 := HE2.r; omega, HE2⟩
          case round =>
            clear HI hq hq' hr hr'
            obtain ⟨p, s, rfl, rfl, hp, hp', hs, hs', HI⟩ := hrel
            by_cases hpB : 4294967296 ≤ p
            · by_cases hbs : s + y1 < 4294967296
              · go_wp2
                go_round
                case rel => exact ⟨p - 1, s + y1, rfl, rfl, by omega, by omega, by omega, hbs, HI.out.next HF2.out hp hs (.inl hpB) hbs⟩
                case measure => simp [intOf]; omega
              · have hz : p - 1 = D2 := (HI.out.brk HF2.out hp hs (.inl hpB) hbs).trans HD2.out.symm
                have l2 := L2.out
                go_wp2
                go_ret2
                exact ⟨rfl, rfl⟩
            · obtain ⟨Q, hQ⟩ : ∃ Q, Q = p * y0 := ⟨_, rfl⟩
              have HQ : Hid (Q = p * y0) := hQ
              have hQ0 : 0 ≤ Q := by rw [hQ]; exact Int.mul_nonneg hp hy0
              have eq2 : IntKind.u64.wrap (p * y0) = Q := by rw [← hQ]; exact wrap_nat Q hQ0 (by rw [hQ]; exact mul_small hp (by omega) hy0 hy0')
              clear hQ
              by_cases hd : 4294967296 * s + v0 < Q
              · have hp1 : 1 ≤ p := HI.out.more HF2.out hp hs (.inr (by rw [← HQ.out]; exact hd))
                by_cases hbs : s + y1 < 4294967296
                · go_wp2
                  go_round
                  case rel => exact ⟨p - 1, s + y1, rfl, rfl, by omega, by omega, by omega, hbs, HI.out.next HF2.out hp hs (.inr (by rw [← HQ.out]; exact hd)) hbs⟩
                  case measure => simp [intOf]; omega
                · have hz : p - 1 = D2 := (HI.out.brk HF2.out hp hs (.inr (by rw [← HQ.out]; exact hd)) hbs).trans HD2.out.symm
                  have l2 := L2.out
                  go_wp2
                  go_ret2
                  exact ⟨rfl, rfl⟩
              · have hz : p = D2 := (HI.out.stop HF2.out hp hs (by rw [← HQ.out]; exact hd)).trans HD2.out.symm
                subst hz
                have l2 := L2.out
                go_wp2
                go_ret2
                exact ⟨rfl, rfl⟩
      · have hx : q = D := (HI.out.stop HF.out hq hr (by rw [← HP.out]; exact hc)).trans HD.out.symm
        subst hx
        have l1 := L1.out
        have m1 := G1.out
        have m2 := G2.out
        go_wp2
        clear l1 m1 m2 ep
        go_loop [18, 16] (fun a b => ∃ q r : Int, a = .int .u64 q ∧ b = .int .u64 r ∧ 0 ≤ q ∧ q ≤ 4294967297 ∧ 0 ≤ r ∧ r < 4294967296 ∧ Hid (EstI u2 v0 y1 y0 q r)) (fun a _ => (intOf a).toNat)
        case atStart => exact ⟨q2, r2, rfl, rfl, hq2, by have : q2.toNat ≤ 4294967297 := HE2.hi; omega, hr2, by have : r2.toNat < 4294967296 := HE2.r; omega, HE2⟩
        case round =>
          clear HI hq hq' hr hr'
          obtain ⟨p, s, rfl, rfl, hp, hp', hs, hs', HI⟩ := hrel
          by_cases hpB : 4294967296 ≤ p
          · by_cases hbs : s + y1 < 4294967296
            · go_wp2
              go_round
              case rel => exact ⟨p - 1, s + y1, rfl, rfl, by omega, by omega, by omega, hbs, HI.out.next HF2.out hp hs (.inl hpB) hbs⟩
              case measure => simp [intOf]; omega
            · have hz : p - 1 = D2 := (HI.out.brk HF2.out hp hs (.inl hpB) hbs).trans HD2.out.symm
              have l2 := L2.out
              go_wp2
              go_ret2
              exact ⟨rfl, rfl⟩
          · obtain ⟨Q, hQ⟩ : ∃ Q, Q = p * y0 := ⟨_, rfl⟩
            have HQ : Hid (Q = p * y0) := hQ
            have hQ0 : 0 ≤ Q := by rw [hQ]; exact Int.mul_nonneg hp hy0
            have eq2 : IntKind.u64.wrap (p * y0) = Q := by rw [← hQ]; exact wrap_nat Q hQ0 (by rw [hQ]; exact mul_small hp (by omega) hy0 hy0')
            clear hQ
            by_cases hd : 4294967296 * s + v0 < Q
            · have hp1 : 1 ≤ p := HI.out.more HF2.out hp hs (.inr (by rw [← HQ.out]; exact hd))
              by_cases hbs : s + y1 < 4294967296
              · go_wp2
                go_round
                case rel => exact ⟨p - 1, s + y1, rfl, rfl, by omega, by omega, by omega, hbs, HI.out.next HF2.out hp hs (.inr (by rw [← HQ.out]; exact hd)) hbs⟩
                case measure => simp [intOf]; omega
              · have hz : p - 1 = D2 := (HI.out.brk HF2.out hp hs (.inr (by rw [← HQ.out]; exact hd)) hbs).trans HD2.out.symm
                have l2 := L2.out
                go_wp2
                go_ret2
                exact ⟨rfl, rfl⟩
            · have hz : p = D2 := (HI.out.stop HF2.out hp hs (by rw [← HQ.out]; exact hd)).trans HD2.out.symm
              subst hz
              have l2 := L2.out
              go_wp2
              go_ret2
              exact ⟨rfl, rfl⟩
end Go.Proofs.Qxb6628675a
