import Derived.Laws.BitsAllLaws
namespace Go.Proofs.Qxb6628717a

theorem or_fin : ∀ v : Fin 128, ∀ z : Fin 2, bits .or .i64 (2 * (v.val : Int)) (z.val : Int) = 2 * (v.val : Int) + (z.val : Int) := by decide +kernel

theorem or_bit {v z : Int} (v0 : 0 ≤ v) (v1 : v < 128) (z0 : 0 ≤ z) (z1 : z ≤ 1) : bits .or .i64 (2 * v) z = 2 * v + z := by
  obtain ⟨a, rfl⟩ := Int.eq_ofNat_of_zero_le v0
  obtain ⟨b, rfl⟩ := Int.eq_ofNat_of_zero_le z0
  exact or_fin ⟨a, by omega⟩ ⟨b, by omega⟩

theorem or_zero {z : Int} (z0 : 0 ≤ z) (z1 : z ≤ 1) : bits .or .i64 0 z = z := by
  have := or_bit (v := 0) (by omega) (by omega) z0 z1
  simpa using this

theorem and_one {x : Int} (x0 : 0 ≤ x) (x1 : x < 256) : bits .and .u8 x 1 = x % 2 := by
  rw [u8_and x 1 x0 x1 (by decide) (by decide)]
  rw [show (1 : Int).toNat = 1 from rfl, nat_mask1]
  omega

theorem div_pow_bd {x : Int} (k : Nat) (x0 : 0 ≤ x) (x1 : x < 256) : 0 ≤ x / 2 ^ k ∧ x / 2 ^ k < 256 := by
  have h : (0 : Int) < 2 ^ k := Int.pow_pos (by decide)
  refine ⟨Int.ediv_nonneg x0 (by omega), ?_⟩
  have := Int.ediv_le_self (a := x) (2 ^ k) x0
  omega

/-- Bit j of the stream. -/
def sbit (bs : Nat → Int) (n : Nat) (j : Int) : Int := if 8 * (n : Int) ≤ j then 0 else bs (j / 8).toNat / 2 ^ (j % 8).toNat % 2

theorem sbit_bd (bs : Nat → Int) (n : Nat) (j : Int) : 0 ≤ sbit bs n j ∧ sbit bs n j ≤ 1 := by
  unfold sbit
  split <;> omega

/-- The number of the first k bits from at on, highest first. -/
def val (bs : Nat → Int) (n : Nat) (at_ : Int) : Nat → Int
  | 0 => 0
  | k + 1 => 2 * val bs n at_ k + sbit bs n (at_ + k)

/-- The first code of length k + 1. -/
def fst (cn : Nat → Int) : Nat → Int
  | 0 => 0
  | k + 1 => 2 * (fst cn k + cn (k + 1))

/-- The index of the first symbol of length k + 1. -/
def idx (cn : Nat → Int) : Nat → Int
  | 0 => 0
  | k + 1 => idx cn k + cn (k + 1)

theorem val_bd (bs : Nat → Int) (n : Nat) (at_ : Int) (k : Nat) (hk : k ≤ 7) : 0 ≤ val bs n at_ k ∧ val bs n at_ k < 128 := by
  have h : ∀ j, 0 ≤ sbit bs n (at_ + (j : Nat)) ∧ sbit bs n (at_ + (j : Nat)) ≤ 1 := fun j => sbit_bd _ _ _
  have := h 0
  have := h 1
  have := h 2
  have := h 3
  have := h 4
  have := h 5
  have := h 6
  match k, hk with
  | 0, _ => simp only [val]; omega
  | 1, _ => simp only [val]; omega
  | 2, _ => simp only [val]; omega
  | 3, _ => simp only [val]; omega
  | 4, _ => simp only [val]; omega
  | 5, _ => simp only [val]; omega
  | 6, _ => simp only [val]; omega
  | 7, _ => simp only [val]; omega

theorem fst_bd (cn : Nat → Int) (h : ∀ j, 1 ≤ j → j < 8 → 0 ≤ cn j ∧ cn j ≤ 65536) (k : Nat) (hk : k ≤ 7) : 0 ≤ fst cn k ∧ fst cn k ≤ 16646144 := by
  have := h 1 (by omega) (by omega)
  have := h 2 (by omega) (by omega)
  have := h 3 (by omega) (by omega)
  have := h 4 (by omega) (by omega)
  have := h 5 (by omega) (by omega)
  have := h 6 (by omega) (by omega)
  have := h 7 (by omega) (by omega)
  match k, hk with
  | 0, _ => simp only [fst]; omega
  | 1, _ => simp only [fst, Nat.reduceAdd]; omega
  | 2, _ => simp only [fst, Nat.reduceAdd]; omega
  | 3, _ => simp only [fst, Nat.reduceAdd]; omega
  | 4, _ => simp only [fst, Nat.reduceAdd]; omega
  | 5, _ => simp only [fst, Nat.reduceAdd]; omega
  | 6, _ => simp only [fst, Nat.reduceAdd]; omega
  | 7, _ => simp only [fst, Nat.reduceAdd]; omega

theorem idx_le (cn : Nat → Int) (h : ∀ j, 1 ≤ j → j < 8 → 0 ≤ cn j ∧ cn j ≤ 65536) (k : Nat) (hk : k ≤ 7) : 0 ≤ idx cn k ∧ idx cn k ≤ idx cn 7 := by
  have := h 1 (by omega) (by omega)
  have := h 2 (by omega) (by omega)
  have := h 3 (by omega) (by omega)
  have := h 4 (by omega) (by omega)
  have := h 5 (by omega) (by omega)
  have := h 6 (by omega) (by omega)
  have := h 7 (by omega) (by omega)
  match k, hk with
  | 0, _ => simp only [idx, Nat.reduceAdd]; omega
  | 1, _ => simp only [idx, Nat.reduceAdd]; omega
  | 2, _ => simp only [idx, Nat.reduceAdd]; omega
  | 3, _ => simp only [idx, Nat.reduceAdd]; omega
  | 4, _ => simp only [idx, Nat.reduceAdd]; omega
  | 5, _ => simp only [idx, Nat.reduceAdd]; omega
  | 6, _ => simp only [idx, Nat.reduceAdd]; omega
  | 7, _ => simp only [idx, Nat.reduceAdd]; omega
end Go.Proofs.Qxb6628717a
