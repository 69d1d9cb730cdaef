import Derived.Test.Qxb6628675aW1
import Derived.Test.Qxb6628675aNorm
namespace Go.Proofs.Qxb6628675a
open Go.RowKit

theorem mask32 (a : Nat) (ha : a < 18446744073709551616) : bits .and .u64 (a : Int) 4294967295 = ((a % 4294967296 : Nat) : Int) := by
  have h := bits_and_u64_nat a 4294967295 ha (by omega)
  have e : a &&& 4294967295 = a % 4294967296 := Nat.and_two_pow_sub_one_eq_mod a 32
  rw [e] at h
  exact h

theorem emod_cast (a : Nat) : (a : Int) % 18446744073709551616 = ((a % 18446744073709551616 : Nat) : Int) := by omega

theorem tup_eq (a b c k : Nat) : Ending.returned (.tuple #[.int .u64 ((a : Int) * 4294967296 + (b : Int)), .int .u64 ((c : Int) / (k : Int))]) = .returned (.tuple #[.int .u64 ((a * 4294967296 + b : Nat) : Int), .int .u64 ((c / k : Nat) : Int)]) := by
  rw [Int.natCast_add, Int.natCast_mul, Int.natCast_ediv]; rfl

theorem digI_nat (u v a b : Nat) : digI (u : Int) (v : Int) (a : Int) (b : Int) = dig u v (a * 4294967296 + b) := by
  unfold digI; rw [Int.toNat_natCast, Int.toNat_natCast, Int.toNat_natCast, Int.toNat_natCast]
theorem restI_nat (u v a b : Nat) : restI (u : Int) (v : Int) (a : Int) (b : Int) = rest u v (a * 4294967296 + b) := by
  unfold restI; rw [Int.toNat_natCast, Int.toNat_natCast, Int.toNat_natCast, Int.toNat_natCast]

theorem fin_eq {hi lo y bl Y u t : Nat} (N : NormN hi lo y (2 ^ (64 - bl)) Y u t) (hY : 0 < Y) (hYd : Y = y * 2 ^ (64 - bl)) :
    Ending.returned (.tuple #[.int .u64 ((digI (u : Int) ((t / 4294967296 : Nat) : Int) ((Y / 4294967296 : Nat) : Int) ((Y % 4294967296 : Nat) : Int) : Int) * 4294967296 + (digI (restI (u : Int) ((t / 4294967296 : Nat) : Int) ((Y / 4294967296 : Nat) : Int) ((Y % 4294967296 : Nat) : Int) : Int) ((t % 4294967296 : Nat) : Int) ((Y / 4294967296 : Nat) : Int) ((Y % 4294967296 : Nat) : Int) : Int)),
      .int .u64 ((restI (restI (u : Int) ((t / 4294967296 : Nat) : Int) ((Y / 4294967296 : Nat) : Int) ((Y % 4294967296 : Nat) : Int) : Int) ((t % 4294967296 : Nat) : Int) ((Y / 4294967296 : Nat) : Int) ((Y % 4294967296 : Nat) : Int) : Int) / 2 ^ (64 - bl))]) =
    .returned (.tuple #[.int .u64 (((hi * 18446744073709551616 + lo) / y : Nat) : Int), .int .u64 (((hi * 18446744073709551616 + lo) % y : Nat) : Int)]) := by
  have key := two_digits u (t / 4294967296) (t % 4294967296) Y hY
  have et : t / 4294967296 * 4294967296 + t % 4294967296 = t := Nat.div_add_mod' _ _
  rw [et, ← N.all] at key
  obtain ⟨k1, k2⟩ := norm_back (N := hi * 18446744073709551616 + lo) (y := y) (k := 64 - bl) (Q := _) (R := _) hYd key.1 key.2
  rw [← k1, ← k2]
  have eD : Y / 4294967296 * 4294967296 + Y % 4294967296 = Y := Nat.div_add_mod' _ _
  rw [restI_nat, digI_nat, digI_nat, restI_nat, eD]
  rw [pow_cast]
  generalize dig (rest u (t / 4294967296) Y) (t % 4294967296) Y = B
  generalize rest (rest u (t / 4294967296) Y) (t % 4294967296) Y = C
  generalize dig u (t / 4294967296) Y = A
  generalize 2 ^ (64 - bl) = K
  exact tup_eq A B C K

theorem div64_norm (hi lo y bl : Nat) (w : World) (hlo : lo < 18446744073709551616) (hy : y < 18446744073709551616) (hh : hi < y) (hh0 : 0 < hi) (hb : Lib.bitLen y = bl) (s1 : 1 ≤ bl) (s2 : 2 ^ (bl - 1) ≤ y) (s3 : y < 2 ^ bl) (s4 : bl ≤ 64) :
    Calls Try.prog 30 #[.int .u64 hi, .int .u64 lo, .int .u64 y] w fun e w' => e = .returned (.tuple #[.int .u64 (((hi * 18446744073709551616 + lo) / y : Nat) : Int), .int .u64 (((hi * 18446744073709551616 + lo) % y : Nat) : Int)]) ∧ w' = w := by
  obtain ⟨N, hq⟩ := norm_all hlo hh s1 s4 s2 s3
  generalize hYd : y * 2 ^ (64 - bl) = Y at N
  generalize hud : hi * 2 ^ (64 - bl) + lo / 2 ^ bl = u at N
  generalize htd : lo * 2 ^ (64 - bl) % 18446744073709551616 = t at N
  have y63 := N.y63
  have y64 := N.y64
  have t64 := N.t64
  have hlt := N.lt
  have F : Fix (u : Int) ((t / 4294967296 : Nat) : Int) ((Y / 4294967296 : Nat) : Int) ((Y % 4294967296 : Nat) : Int) := ⟨by omega, by omega, by omega, by omega, by omega, by omega, by omega, by omega⟩
  have hl2 := restI_lt F
  have F2 : Fix (restI (u : Int) ((t / 4294967296 : Nat) : Int) ((Y / 4294967296 : Nat) : Int) ((Y % 4294967296 : Nat) : Int) : Int) ((t % 4294967296 : Nat) : Int) ((Y / 4294967296 : Nat) : Int) ((Y % 4294967296 : Nat) : Int) := ⟨by omega, by omega, by omega, by omega, by omega, by omega, by omega, hl2⟩
  obtain ⟨q0, r0, g1, g2, hq0, hr0, HE⟩ := start F
  have hK : 0 < 2 ^ (64 - bl) := Nat.two_pow_pos _
  have hhu : hi * 2 ^ (64 - bl) ≤ u := by rw [← hud]; exact Nat.le_add_right _ _
  have hhK : hi * 2 ^ (64 - bl) < 18446744073709551616 := by omega
  have hor : hi * 2 ^ (64 - bl) ||| lo / 2 ^ bl = u := by rw [or_add _ _ _ hq]; exact hud
  have hqq : lo / 2 ^ bl ≤ lo := Nat.div_le_self _ _
  refine (div64_core hi lo y bl (Y : Int) ((Y / 4294967296 : Nat) : Int) ((Y % 4294967296 : Nat) : Int) (u : Int) (t : Int) ((t / 4294967296 : Nat) : Int) ((t % 4294967296 : Nat) : Int) q0 r0 _ _ _ _ w (by omega) hh hh0 s4 s1 ?hs ?_ ?e1 ?_ ?_ ?_ ?e2 ?_ g1 g2 ?_ F F2 hq0 hr0 HE rfl rfl rfl rfl).mono ?_
  case hs => show Lib.bitLen (y : Int).toNat = bl; rw [Int.toNat_natCast]; exact hb
  case e1 => omega
  case e2 => omega
  · rw [pow_cast, mul_cast, hYd]; exact wrap_nat _ (by omega) (by omega)
  · exact mask32 Y y64
  · rw [pow_cast, mul_cast, wrap_nat _ (by omega) (by omega), show 64 - (64 - bl) = bl from by omega, pow_cast, ← Int.natCast_ediv, ← hor]
    exact bits_or_u64_nat _ _ hhK (by omega)
  · rw [pow_cast, mul_cast, wrapU, ← htd]; exact emod_cast _
  · exact mask32 t t64
  · show (Y : Int) = _
    omega
  · rintro e w' ⟨rfl, hw⟩
    exact ⟨fin_eq N (by omega) hYd.symm, hw⟩

theorem div64_any (hi lo y : Nat) (w : World) (hlo : lo < 18446744073709551616) (hy : y < 18446744073709551616) (hh : hi < y) :
    Calls Try.prog 30 #[.int .u64 hi, .int .u64 lo, .int .u64 y] w fun e w' => e = .returned (.tuple #[.int .u64 (((hi * 18446744073709551616 + lo) / y : Nat) : Int), .int .u64 (((hi * 18446744073709551616 + lo) % y : Nat) : Int)]) ∧ ∃ n, w' = w.drewN n := by
  by_cases h0 : hi = 0
  · subst h0
    have := div64_zero lo y w hlo hh hy
    simpa using this
  · obtain ⟨s1, s2, s3⟩ := bitLen_spec y (by omega) (by omega)
    exact (div64_norm hi lo y _ w hlo hy hh (by omega) rfl s1 s2 s3 (Lib.bitLen_le y 64 (Nat.le_refl _) (by omega))).mono fun _ _ ⟨a, b⟩ => ⟨a, 0, b⟩

end Go.Proofs.Qxb6628675a
