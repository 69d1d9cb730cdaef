import Derived.Test.Qxb6628675aDiv
import Derived.Laws.Bits64b
import Derived.Lib.BitFns
namespace Go.Proofs.Qxb6628675a

/-! ### The digit's estimate over Int, as the walk has the numbers -/

/-- What is fixed in one digit's search. -/
structure Fix (u v y1 y0 : Int) : Prop where
  u0 : 0 ≤ u
  v0 : 0 ≤ v
  v1 : v < 4294967296
  a0 : 2147483648 ≤ y1
  a1 : y1 < 4294967296
  b0 : 0 ≤ y0
  b1 : y0 < 4294967296
  lt : u < y1 * 4294967296 + y0

def EstI (u v y1 y0 q r : Int) : Prop := Est u.toNat v.toNat y1.toNat y0.toNat q.toNat r.toNat
def digI (u v y1 y0 : Int) : Nat := dig u.toNat v.toNat (y1.toNat * 4294967296 + y0.toNat)
def restI (u v y1 y0 : Int) : Nat := rest u.toNat v.toNat (y1.toNat * 4294967296 + y0.toNat)

theorem mul_cast (a b : Nat) : (a : Int) * (b : Int) = ((a * b : Nat) : Int) := (Int.natCast_mul a b).symm

theorem EstI.more {u v y1 y0 q r : Int} (h : EstI u v y1 y0 q r) (f : Fix u v y1 y0) (hq : 0 ≤ q) (hr : 0 ≤ r) (hc : 4294967296 ≤ q ∨ 4294967296 * r + v < q * y0) : 1 ≤ q := by
  rcases hc with hc | hc
  · omega
  · by_cases e : q = 0
    · subst e; simp at hc; have := f.v0; omega
    · omega

theorem cond_nat {v y0 q r : Int} (hv : 0 ≤ v) (hy : 0 ≤ y0) (hq : 0 ≤ q) (hr : 0 ≤ r) (hc : 4294967296 ≤ q ∨ 4294967296 * r + v < q * y0) : 4294967296 ≤ q.toNat ∨ 4294967296 * r.toNat + v.toNat < q.toNat * y0.toNat := by
  obtain ⟨q, rfl⟩ := Int.eq_ofNat_of_zero_le hq
  obtain ⟨r, rfl⟩ := Int.eq_ofNat_of_zero_le hr
  obtain ⟨v, rfl⟩ := Int.eq_ofNat_of_zero_le hv
  obtain ⟨y0, rfl⟩ := Int.eq_ofNat_of_zero_le hy
  simp only [Int.toNat_natCast]
  rw [mul_cast q y0] at hc
  omega

theorem Fix.natLt {u v y1 y0 : Int} (f : Fix u v y1 y0) : u.toNat < y1.toNat * 4294967296 + y0.toNat := by
  obtain ⟨a, b, c, d, e, g, h, i⟩ := f
  omega

theorem EstI.next {u v y1 y0 q r : Int} (h : EstI u v y1 y0 q r) (f : Fix u v y1 y0) (hq : 0 ≤ q) (hr : 0 ≤ r) (hc : 4294967296 ≤ q ∨ 4294967296 * r + v < q * y0) (hb : r + y1 < 4294967296) : EstI u v y1 y0 (q - 1) (r + y1) := by
  have h1 := h.more f hq hr hc
  have a0 := f.a0
  have v1 := f.v1
  have := est_next h (by omega) f.natLt (by omega) (cond_nat f.v0 f.b0 hq hr hc) (by omega)
  unfold EstI
  rw [show (q - 1).toNat = q.toNat - 1 by omega, show (r + y1).toNat = r.toNat + y1.toNat by omega]
  exact this

theorem EstI.brk {u v y1 y0 q r : Int} (h : EstI u v y1 y0 q r) (f : Fix u v y1 y0) (hq : 0 ≤ q) (hr : 0 ≤ r) (hc : 4294967296 ≤ q ∨ 4294967296 * r + v < q * y0) (hb : ¬ r + y1 < 4294967296) : q - 1 = (digI u v y1 y0 : Int) := by
  have h1 := h.more f hq hr hc
  have a0 := f.a0
  have v1 := f.v1
  have b1 := f.b1
  have := est_break h (by omega) (by omega) f.natLt (by omega) (cond_nat f.v0 f.b0 hq hr hc) (by omega)
  unfold digI
  omega

theorem EstI.stop {u v y1 y0 q r : Int} (h : EstI u v y1 y0 q r) (f : Fix u v y1 y0) (hq : 0 ≤ q) (hr : 0 ≤ r) (hc : ¬ 4294967296 * r + v < q * y0) : q = (digI u v y1 y0 : Int) := by
  have a0 := f.a0
  have := est_stop h (by omega) (by
    have hv := f.v0
    have hy := f.b0
    obtain ⟨q, rfl⟩ := Int.eq_ofNat_of_zero_le hq
    obtain ⟨r, rfl⟩ := Int.eq_ofNat_of_zero_le hr
    obtain ⟨v, rfl⟩ := Int.eq_ofNat_of_zero_le hv
    obtain ⟨y0, rfl⟩ := Int.eq_ofNat_of_zero_le hy
    simp only [Int.toNat_natCast]
    rw [mul_cast q y0] at hc
    omega)
  unfold digI
  omega

theorem digI_lt {u v y1 y0 : Int} (f : Fix u v y1 y0) : digI u v y1 y0 < 4294967296 := by
  have a0 := f.a0
  have v1 := f.v1
  exact dig_lt (by omega) f.natLt (by omega)

theorem restI_lt {u v y1 y0 : Int} (f : Fix u v y1 y0) : (restI u v y1 y0 : Int) < y1 * 4294967296 + y0 := by
  have a0 := f.a0
  have b0 := f.b0
  have : restI u v y1 y0 < y1.toNat * 4294967296 + y0.toNat := Nat.mod_lt _ (by omega)
  omega

theorem wrapU (a : Int) : IntKind.u64.wrap a = a % 18446744073709551616 := by rw [IntKind.wrap_u64]

/-- The start of a digit's search. -/
theorem start {u v y1 y0 : Int} (f : Fix u v y1 y0) : ∃ q r : Int, IntKind.u64.wrap (u.tdiv y1) = q ∧ IntKind.u64.wrap (u - IntKind.u64.wrap (q * y1)) = r ∧ 0 ≤ q ∧ 0 ≤ r ∧ EstI u v y1 y0 q r := by
  have f' := f
  obtain ⟨a, b, c, d, e, g, h, i⟩ := f
  obtain ⟨u, rfl⟩ := Int.eq_ofNat_of_zero_le a
  obtain ⟨y1, rfl⟩ := Int.eq_ofNat_of_zero_le (show 0 ≤ y1 by omega)
  obtain ⟨y0, rfl⟩ := Int.eq_ofNat_of_zero_le g
  have he := est_start (u := u) (v := v.toNat) (y1 := y1) (y0 := y0) (by omega) (by omega) (by omega) (by omega) (by omega)
  have hq : u / y1 ≤ u := Nat.div_le_self _ _
  have e1 : ((u : Int).tdiv (y1 : Int)) = ((u / y1 : Nat) : Int) := by rw [Int.tdiv_eq_ediv_of_nonneg (by omega)]; rfl
  have hm : u / y1 * y1 ≤ u := Nat.div_mul_le_self _ _
  rw [e1]
  generalize u / y1 = k at *
  refine ⟨(k : Int), ((u - k * y1 : Nat) : Int), ?_, ?_, Int.natCast_nonneg _, Int.natCast_nonneg _, ?_⟩
  · rw [wrapU]; omega
  · rw [mul_cast]
    generalize k * y1 = m at *
    rw [wrapU, wrapU]; omega
  · unfold EstI
    simp only [Int.toNat_natCast]
    exact he

theorem key_eq (u v y d r : Nat) (h : d * y + r = u * 4294967296 + v) (Y : Int) (hY : (y : Int) = Y) : (d : Int) * Y + (r : Int) = (u : Int) * 4294967296 + (v : Int) := by
  rw [← hY, mul_cast]
  omega

/-- What is left, as the text reckons it, modulo 2^64. -/
theorem left_wrap {u v y1 y0 D : Int} (f : Fix u v y1 y0) (hD : D = (digI u v y1 y0 : Int)) :
    IntKind.u64.wrap (IntKind.u64.wrap (IntKind.u64.wrap (u * 4294967296) + v) - IntKind.u64.wrap (D * (y1 * 4294967296 + y0))) = (restI u v y1 y0 : Int) := by
  have hl := restI_lt f
  have f' := f
  obtain ⟨a, b, c, d, e, g, h, i⟩ := f
  have key : D * (y1 * 4294967296 + y0) + (restI u v y1 y0 : Int) = u * 4294967296 + v := by
    have h1 := key_eq _ _ _ _ _ (rest_eq u.toNat v.toNat (y1.toNat * 4294967296 + y0.toNat)) (y1 * 4294967296 + y0) (by omega)
    rw [Int.toNat_of_nonneg a, Int.toNat_of_nonneg b] at h1
    rw [hD]
    exact h1
  generalize D * (y1 * 4294967296 + y0) = X at *
  rw [wrapU, wrapU, wrapU, wrapU]
  omega

end Go.Proofs.Qxb6628675a
