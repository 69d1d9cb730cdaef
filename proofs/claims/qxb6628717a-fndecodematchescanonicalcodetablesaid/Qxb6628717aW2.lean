import Derived.Test.Qxb6628717aW1
namespace Go.Proofs.Qxb6628717a
open Go.RowKit

/-- The code of the first k + 1 bits is a code of that length, and no shorter one is. -/
def Hit (cn bs : Nat → Int) (n : Nat) (at_ : Int) (k : Nat) : Prop := k < 7 ∧ (∀ j, j < k → fst cn j + cn (j + 1) ≤ val bs n at_ (j + 1)) ∧ val bs n at_ (k + 1) < fst cn k + cn (k + 1)
/-- No beginning of the stream is a code. -/
def Miss (cn bs : Nat → Int) (n : Nat) (at_ : Int) : Prop := ∀ j, j < 7 → fst cn j + cn (j + 1) ≤ val bs n at_ (j + 1)

theorem fst_le (cn bs : Nat → Int) (n : Nat) (at_ : Int) (k : Nat) (h : ∀ j, j < k → fst cn j + cn (j + 1) ≤ val bs n at_ (j + 1)) : fst cn k ≤ val bs n at_ (k + 1) := by
  have hz := sbit_bd bs n (at_ + (k : Nat))
  cases k with
  | zero => simp only [fst, val]; omega
  | succ j =>
    have := h j (by omega)
    rw [fst, val]
    omega

theorem grown_Below {w w' : World} {b : Nat} (h : w.grownBy w' (some b)) (hb : b < w.heap.size) : Below b w w' :=
  ⟨h.os, h.tape, h.output, h.size, fun k hk => h.block k (Nat.lt_trans hk hb) (by simpa using Nat.ne_of_lt hk)⟩

/-- What decode finds in memory. -/
structure Ctx (w : World) (cb rb : Nat) (so bo : Option Addr) (sn scap n cap : Nat) (sy bs cn : Nat → Int) : Prop where
  cnt : ∀ j, j < 8 → w.cell? ⟨cb, j, none⟩ = some (.int .i64 (cn j))
  sl : w.cell? ⟨cb, 8, none⟩ = some (.slice so sn scap)
  lt : cb < rb
  sym : Nums w rb so sn .i64 sy
  byt : Nums w rb bo n .u8 bs
  hb : ∀ i, i < n → 0 ≤ bs i ∧ bs i ≤ 255
  hn : n ≤ 524288
  hs : sn ≤ 65536
  hc : ∀ j, 1 ≤ j → j < 8 → 0 ≤ cn j ∧ cn j ≤ 65536
  ht : idx cn 7 ≤ sn

set_option maxHeartbeats 2000000 in
theorem decode_hit (cb rb : Nat) (so bo : Option Addr) (sn scap n cap k : Nat) (sy bs cn : Nat → Int) (at_ : Int) (sh : Bool) (w : World) (HC : Hid (Ctx w cb rb so bo sn scap n cap sy bs cn)) (HR : Hid (Rd w rb (.slice bo n cap) at_ sh)) (a0 : 0 ≤ at_) (a1 : at_ ≤ 8 * n) (HH : Hid (Hit cn bs n at_ k)) :
    Calls Try.prog 9 #[.pointer (some ⟨cb, 0, none⟩), .pointer (some ⟨rb, 0, none⟩)] w fun e w' => e = .returned (.int .i64 (sy (idx cn k + val bs n at_ (k + 1) - fst cn k).toNat)) ∧ Rd w' rb (.slice bo n cap) (pos n at_ (k + 1)) (shs n at_ sh (k + 1)) ∧ Below rb w w' := by
  obtain ⟨k1, HH1, HH2⟩ := HH.out
  have H1 : Hid (∀ j, j < k → fst cn j + cn (j + 1) ≤ val bs n at_ (j + 1)) := HH1
  have H2 : Hid (val bs n at_ (k + 1) < fst cn k + cn (k + 1)) := HH2
  have A0 : Hid (0 ≤ at_) := a0
  have A1 : Hid (at_ ≤ 8 * n) := a1
  clear HH HH1 HH2 a0 a1
  go_enter Try.func9, Try.ntmps9
  go_wp2
  go_loopw [5, 6, 7, 8] (fun vc vf vi vm wr => ∃ (m j : Nat) (v f i : Int), vc = .int .i64 (2 * v) ∧ vf = .int .i64 f ∧ vi = .int .i64 i ∧ vm = .int .i64 m ∧ 1 ≤ m ∧ m ≤ k + 1 ∧ Hid (m = j + 1 ∧ v = val bs n at_ j ∧ f = fst cn j ∧ i = idx cn j) ∧ Hid (Rd wr rb (.slice bo n cap) (pos n at_ j) (shs n at_ sh j)) ∧ Hid (Below rb w wr)) (fun _ _ _ i _ => 9 - (intOf i).toNat)
  case atStart =>
    refine ⟨1, 0, 0, 0, 0, rfl, rfl, rfl, rfl, by omega, by omega, ⟨rfl, rfl, rfl, rfl⟩, ?_, Below.refl _ _⟩
    have e1 : pos n at_ 0 = at_ := by have := A1.out; unfold pos; split <;> omega
    have e2 : shs n at_ sh 0 = sh := by have := A1.out; unfold shs; rw [decide_eq_false (by omega), Bool.or_false]
    show Rd _ _ _ _ _
    rw [e1, e2]
    exact HR.out
  case round =>
    obtain ⟨m, j, v, f, i, rfl, rfl, rfl, rfl, m0, m1, HE, HR', HB⟩ := hrel
    obtain ⟨E1, E2, E3, E4⟩ := HE.out
    have hm : m < 8 := by omega
    obtain ⟨z, hz⟩ : ∃ z, z = sbit bs n (at_ + j) := ⟨_, rfl⟩
    obtain ⟨u, hu⟩ : ∃ u, u = val bs n at_ (j + 1) := ⟨_, rfl⟩
    have bz := sbit_bd bs n (at_ + j)
    have bv := val_bd bs n at_ j (by omega)
    have bu := val_bd bs n at_ (j + 1) (by omega)
    have bf := fst_bd cn HC.out.hc j (by omega)
    have bi := idx_le cn HC.out.hc j (by omega)
    have bi1 := idx_le cn HC.out.hc (j + 1) (by omega)
    have bt := HC.out.ht
    have bs0 := HC.out.hs
    have hfu := fst_le cn bs n at_ j (fun j' hj' => H1.out j' (by omega))
    obtain ⟨c, hc⟩ : ∃ c, c = cn m := ⟨_, rfl⟩
    have bc := HC.out.hc m m0 hm
    have cc : wr.cell? ⟨cb, m, none⟩ = some (.int .i64 c) := by rw [hc]; exact (HB.out.cell (p := ⟨cb, m, none⟩) HC.out.lt).trans (HC.out.cnt m hm)
    have cs : wr.cell? ⟨cb, 8, none⟩ = some (.slice so sn scap) := (HB.out.cell (p := ⟨cb, 8, none⟩) HC.out.lt).trans HC.out.sl
    have hor : bits .or .i64 (2 * v) z = u := by
      rw [hz, hu, val, ← E2]
      exact or_bit (by omega) (by omega) bz.1 bz.2
    rw [← hu] at bu hfu
    rw [← E2] at bv
    rw [← E3] at bf hfu
    rw [idx, ← E1, ← hc, ← E4] at bi1
    rw [← E4] at bi
    rw [← hc] at bc
    have HZ : Hid (z = sbit bs n (at_ + j)) := hz
    have HU : Hid (u = val bs n at_ (j + 1)) := hu
    have HK : Hid (c = cn m) := hc
    rw [← hz] at bz
    clear hz hu hc E1 E2 E3 E4
    have HBI : Hid (Calls Try.prog 12 #[.pointer (some ⟨rb, 0, none⟩), .int .i64 1] wr fun e w' => e = .returned (.int .i64 z) ∧ Rd w' rb (.slice bo n cap) (pos n at_ (j + 1)) (shs n at_ sh (j + 1)) ∧ wr.grownBy w' (some rb)) := by
      have h := bits_any rb bo n cap j rb bs at_ sh wr HR'.out (HC.out.byt.below HB.out) HC.out.hb HC.out.hn A0.out
      rw [← HZ.out] at h
      exact h
    clear cc cs
    by_cases hjk : j = k
    · have hit : u - f < c := by
        have := H2.out
        rw [← hjk, ← HU.out, ← HE.out.2.2.1, ← HE.out.1, ← HK.out] at this
        omega
      have hin : (i + u - f).toNat < sn := by omega
      obtain ⟨B, rfl, hB, hsy⟩ := HC.out.sym _ hin
      obtain ⟨y, hy⟩ : ∃ y, y = sy (i + u - f).toNat := ⟨_, rfl⟩
      have HY : Hid (y = sy (i + u - f).toNat) := hy
      rw [← hy] at hsy
      clear hy
      go_wp2_with fail
      refine HBI.out.mono ?_
      rintro r w2 ⟨rfl, hR2, hg2⟩
      have HR2 : Hid (Rd w2 rb (.slice bo n cap) (pos n at_ (j + 1)) (shs n at_ sh (j + 1))) := hR2
      have HB2 : Hid (Below rb w w2) := HB.out.trans (grown_Below hg2 HR'.out.lt)
      have cc2 : w2.cell? ⟨cb, m, none⟩ = some (.int .i64 c) := by rw [HK.out]; exact (HB2.out.cell (p := ⟨cb, m, none⟩) HC.out.lt).trans (HC.out.cnt m hm)
      have cs2 : w2.cell? ⟨cb, 8, none⟩ = some (.slice (some ⟨B, 0, none⟩) sn scap) := (HB2.out.cell (p := ⟨cb, 8, none⟩) HC.out.lt).trans HC.out.sl
      clear hR2
      have hsy2 : w2.cell? ⟨B, (i + u - f).toNat, none⟩ = some (.int .i64 y) := (HB2.out.cell (p := ⟨B, (i + u - f).toNat, none⟩) hB).trans hsy
      clear hsy
      go_wp2_with fail
      go_ret
      refine ⟨?_, ?_, HB2.out⟩
      · rw [← hjk, ← HU.out, ← HE.out.2.2.1, ← HE.out.2.2.2, ← HY.out]
        rfl
      · rw [← hjk]
        exact HR2.out
    · have hit : c ≤ u - f := by
        have := H1.out j (by have := HE.out.1; omega)
        rw [← HU.out, ← HE.out.2.2.1, ← HE.out.1, ← HK.out] at this
        omega
      go_wp2_with fail
      refine HBI.out.mono ?_
      rintro r w2 ⟨rfl, hR2, hg2⟩
      have HR2 : Hid (Rd w2 rb (.slice bo n cap) (pos n at_ (j + 1)) (shs n at_ sh (j + 1))) := hR2
      have HB2 : Hid (Below rb w w2) := HB.out.trans (grown_Below hg2 HR'.out.lt)
      have cc2 : w2.cell? ⟨cb, m, none⟩ = some (.int .i64 c) := by rw [HK.out]; exact (HB2.out.cell (p := ⟨cb, m, none⟩) HC.out.lt).trans (HC.out.cnt m hm)
      have cs2 : w2.cell? ⟨cb, 8, none⟩ = some (.slice so sn scap) := (HB2.out.cell (p := ⟨cb, 8, none⟩) HC.out.lt).trans HC.out.sl
      clear hR2
      go_wp2_with fail
      go_roundw
      case rel =>
        refine ⟨m + 1, j + 1, u, 2 * (f + c), i + c, ?_, ?_, ?_, ?_, by omega, by have := HE.out.1; omega, ?_, HR2.out, HB2.out⟩
        · go_num
        · go_num
        · go_num
        · go_num
        · obtain ⟨E1, E2, E3, E4⟩ := HE.out
          have hk := HK.out
          exact ⟨by omega, HU.out, by rw [fst, ← E3, ← E1, ← hk], by rw [idx, ← E4, ← E1, ← hk]⟩
      case measure => simp [intOf]; omega
end Go.Proofs.Qxb6628717a
