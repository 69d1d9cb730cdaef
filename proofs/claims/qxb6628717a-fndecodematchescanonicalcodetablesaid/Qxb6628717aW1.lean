import Derived.Test.Qxb6628717aRows
import Derived.WalkKit
import Derived.Deep.QuietTactic
import Derived.BigQuiet
import Derived.WalkSmall
import Derived.Test.Qxb6628717aPlain
namespace Go.Proofs.Qxb6628717a
open Go.RowKit

/-- The row of numbers at a slice. -/
def Nums (w : World) (L : Nat) (bo : Option Addr) (n : Nat) (k : IntKind) (f : Nat → Int) : Prop := ∀ i, i < n → ∃ B, bo = some ⟨B, 0, none⟩ ∧ B < L ∧ w.cell? ⟨B, i, none⟩ = some (.int k (f i))

theorem Nums.below {w w' : World} {L : Nat} {bo : Option Addr} {n : Nat} {k : IntKind} {f : Nat → Int} (h : Nums w L bo n k f) (hb : Below L w w') : Nums w' L bo n k f := by
  intro i hi
  obtain ⟨B, h1, h2, h3⟩ := h i hi
  exact ⟨B, h1, h2, (hb.cell (p := ⟨B, i, none⟩) h2).trans h3⟩

theorem Nums.mono {w : World} {L L' : Nat} {bo : Option Addr} {n : Nat} {k : IntKind} {f : Nat → Int} (h : Nums w L bo n k f) (hL : L ≤ L') : Nums w L' bo n k f := by
  intro i hi
  obtain ⟨B, h1, h2, h3⟩ := h i hi
  exact ⟨B, h1, Nat.lt_of_lt_of_le h2 hL, h3⟩

/-- The reader at a block. -/
structure Rd (w : World) (b : Nat) (s : Value) (at_ : Int) (sh : Bool) : Prop where
  c0 : w.cell? ⟨b, 0, none⟩ = some s
  c1 : w.cell? ⟨b, 1, none⟩ = some (.int .i64 at_)
  c2 : w.cell? ⟨b, 2, none⟩ = some (.bool sh)
  free : ∀ j, w.frozen? ⟨b, j, none⟩ = false
  lt : b < w.heap.size

theorem grown_set {w X : World} {b j : Nat} {v : Value} (h : w.grownBy X (some b)) : w.grownBy (X.setCell ⟨b, j, none⟩ v) (some b) :=
  ⟨h.os, h.tape, h.output, by simpa using h.size, fun k hk hne => by
    rw [Below.heap_setCell _ _ _ _ (by simpa using hne)]
    exact h.block k hk hne⟩

theorem grown_drewN (w : World) (n b : Nat) : w.grownBy (w.drewN n) (some b) :=
  have h := below_drewN (Below.refl w.heap.size w) n
  ⟨h.os, h.tape, h.output, h.size, fun k hk _ => h.block k hk⟩

theorem Rd.drewN {w : World} {b : Nat} {s : Value} {a : Int} {sh : Bool} (h : Rd w b s a sh) (n : Nat) : Rd (w.drewN n) b s a sh := by
  have hb := below_drewN (Below.refl w.heap.size w) n
  obtain ⟨c0, c1, c2, free, lt⟩ := h
  exact ⟨(hb.cell (p := ⟨b, 0, none⟩) lt).trans c0, (hb.cell (p := ⟨b, 1, none⟩) lt).trans c1, (hb.cell (p := ⟨b, 2, none⟩) lt).trans c2, fun j => (hb.frozen (p := ⟨b, j, none⟩) lt).trans (free j), Nat.lt_of_lt_of_le lt hb.size⟩

theorem Rd.setAt {w : World} {b : Nat} {s : Value} {a : Int} {sh : Bool} (h : Rd w b s a sh) (a' : Int) : Rd (w.setCell ⟨b, 1, none⟩ (.int .i64 a')) b s a' sh := by
  obtain ⟨c0, c1, c2, free, lt⟩ := h
  refine ⟨?_, ?_, ?_, fun j => ?_, ?_⟩
  · rw [World.cell?_setCell_other _ _ _ _ (by simp)]; exact c0
  · exact World.cell?_setCell_same _ _ _ c1
  · rw [World.cell?_setCell_other _ _ _ _ (by simp)]; exact c2
  · rw [World.frozen?_setCell]; exact free j
  · simpa using lt

theorem Rd.setShort {w : World} {b : Nat} {s : Value} {a : Int} {sh : Bool} (h : Rd w b s a sh) (sh' : Bool) : Rd (w.setCell ⟨b, 2, none⟩ (.bool sh')) b s a sh' := by
  obtain ⟨c0, c1, c2, free, lt⟩ := h
  refine ⟨?_, ?_, ?_, fun j => ?_, ?_⟩
  · rw [World.cell?_setCell_other _ _ _ _ (by simp)]; exact c0
  · rw [World.cell?_setCell_other _ _ _ _ (by simp)]; exact c1
  · exact World.cell?_setCell_same _ _ _ c2
  · rw [World.frozen?_setCell]; exact free j
  · simpa using lt

theorem wrap_in {n : Int} (h0 : -9223372036854775808 ≤ n) (h1 : n ≤ 9223372036854775807) : wrap64 n = n := by unfold wrap64; omega

set_option maxHeartbeats 1000000 in
theorem bits_past (b : Nat) (bo : Option Addr) (n cap : Nat) (at_ : Int) (sh : Bool) (w : World) (HR : Hid (Rd w b (.slice bo n cap) at_ sh))
    (hn : n ≤ 524288) (a0 : 0 ≤ at_) (a1 : at_ ≤ 8 * n) (hp : 8 * n < at_ + 1) :
    Calls Try.prog 12 #[.pointer (some ⟨b, 0, none⟩), .int .i64 1] w fun e w' => e = .returned (.int .i64 0) ∧ Rd w' b (.slice bo n cap) (8 * n) true ∧ w.grownBy w' (some b) := by
  have c0 := HR.out.c0
  have c1 := HR.out.c1
  have c2 := HR.out.c2
  have free := HR.out.free
  go_enter Try.func12, Try.ntmps12
  go_wp2
  go_quiet (fail)
  go_wp2
  go_ret
  exact ⟨rfl, ((HR.out.drewN _).setAt _).setShort _, grown_set (grown_set (grown_drewN _ _ _))⟩

set_option maxHeartbeats 1000000 in
theorem bits_in (b B : Nat) (n cap : Nat) (at_ x : Int) (sh : Bool) (w : World) (HR : Hid (Rd w b (.slice (some ⟨B, 0, none⟩) n cap) at_ sh))
    (hn : n ≤ 524288) (a0 : 0 ≤ at_) (hp : at_ + 1 ≤ 8 * n) (hx : w.cell? ⟨B, (at_ / 8).toNat, none⟩ = some (.int .u8 x)) (x0 : 0 ≤ x) (x1 : x ≤ 255) :
    Calls Try.prog 12 #[.pointer (some ⟨b, 0, none⟩), .int .i64 1] w fun e w' => e = .returned (.int .i64 (x / 2 ^ (at_ % 8).toNat % 2)) ∧ Rd w' b (.slice (some ⟨B, 0, none⟩) n cap) (at_ + 1) sh ∧ w.grownBy w' (some b) := by
  have c0 := HR.out.c0
  have c1 := HR.out.c1
  have c2 := HR.out.c2
  have free := HR.out.free
  have hd := div_pow_bd (at_ % 8).toNat x0 (by omega)
  have hv : bits .or .i64 0 (wrap64 (wrap64 (bits .and .u8 (x / 2 ^ (at_ % 8).toNat) 1))) = x / 2 ^ (at_ % 8).toNat % 2 := by
    rw [and_one hd.1 hd.2]
    have h1 := Int.emod_two_eq (x / 2 ^ (at_ % 8).toNat)
    have h2 : wrap64 (x / 2 ^ (at_ % 8).toNat % 2) = x / 2 ^ (at_ % 8).toNat % 2 := wrap_in (by omega) (by omega)
    rw [h2, h2, or_zero (by omega) (by omega)]
  have HV : Hid (bits .or .i64 0 (wrap64 (wrap64 (bits .and .u8 (x / 2 ^ (at_ % 8).toNat) 1))) = x / 2 ^ (at_ % 8).toNat % 2) := hv
  clear hv hd
  go_enter Try.func12, Try.ntmps12
  go_wp2
  go_quiet (fail)
  go_wp2
  refine wp_loop_rounds 2 ?_
  rw [rounds_succ]
  go_wp2
  go_quiet (fail)
  go_wp2
  rw [rounds_succ]
  go_wp2
  go_ret
  refine ⟨?_, (HR.out.drewN _).setAt _, grown_set (grown_drewN _ _ _)⟩
  rw [← HV.out]
  rfl

/-- Where the reader stands after k bits. -/
def pos (n : Nat) (at_ : Int) (k : Nat) : Int := if at_ + k ≤ 8 * n then at_ + k else 8 * n
/-- Is it short after k bits? -/
def shs (n : Nat) (at_ : Int) (sh : Bool) (k : Nat) : Bool := sh || decide (8 * (n : Int) < at_ + k)

theorem bits_any (b : Nat) (bo : Option Addr) (n cap k L : Nat) (bs : Nat → Int) (at_ : Int) (sh : Bool) (w : World) (hR : Rd w b (.slice bo n cap) (pos n at_ k) (shs n at_ sh k)) (hB : Nums w L bo n .u8 bs) (hbs : ∀ i, i < n → 0 ≤ bs i ∧ bs i ≤ 255)
    (hn : n ≤ 524288) (a0 : 0 ≤ at_) :
    Calls Try.prog 12 #[.pointer (some ⟨b, 0, none⟩), .int .i64 1] w fun e w' => e = .returned (.int .i64 (sbit bs n (at_ + k))) ∧ Rd w' b (.slice bo n cap) (pos n at_ (k + 1)) (shs n at_ sh (k + 1)) ∧ w.grownBy w' (some b) := by
  by_cases h : at_ + k + 1 ≤ 8 * n
  · have hp : pos n at_ k = at_ + k := if_pos (by omega)
    have hp' : pos n at_ (k + 1) = at_ + k + 1 := by rw [pos, if_pos (by omega)]; omega
    have hs : shs n at_ sh (k + 1) = shs n at_ sh k := by
      unfold shs
      rw [decide_eq_false (by omega), decide_eq_false (by omega)]
    have hsb : sbit bs n (at_ + k) = bs ((at_ + k) / 8).toNat / 2 ^ ((at_ + k) % 8).toNat % 2 := if_neg (by omega)
    rw [hp] at hR
    rw [hp', hs, hsb]
    have hi : ((at_ + k) / 8).toNat < n := by omega
    obtain ⟨B, rfl, _, hc⟩ := hB _ hi
    exact bits_in b B n cap (at_ + k) _ _ w hR hn (by omega) (by omega) hc (hbs _ hi).1 (hbs _ hi).2
  · have hp : pos n at_ k = 8 * n := by unfold pos; split <;> omega
    have hp' : pos n at_ (k + 1) = 8 * n := by unfold pos; split <;> omega
    have hs : shs n at_ sh (k + 1) = true := by
      unfold shs
      rw [decide_eq_true (by omega), Bool.or_true]
    have hsb : sbit bs n (at_ + k) = 0 := if_pos (by omega)
    rw [hp', hs, hsb]
    rw [hp] at hR
    exact bits_past b bo n cap _ _ w hR hn (by omega) (by omega) (by omega)
end Go.Proofs.Qxb6628717a
