import Derived.Test.Qxb6628717aW2
namespace Go.Proofs.Qxb6628717a
open Go.RowKit

set_option maxHeartbeats 2000000 in
theorem decode_miss (cb rb : Nat) (so bo : Option Addr) (sn scap n cap : Nat) (sy bs cn : Nat → Int) (at_ : Int) (sh : Bool) (w : World) (HC : Hid (Ctx w cb rb so bo sn scap n cap sy bs cn)) (HR : Hid (Rd w rb (.slice bo n cap) at_ sh)) (a0 : 0 ≤ at_) (a1 : at_ ≤ 8 * n) (H1 : Hid (Miss cn bs n at_)) :
    Calls Try.prog 9 #[.pointer (some ⟨cb, 0, none⟩), .pointer (some ⟨rb, 0, none⟩)] w fun e w' => e = .returned (.int .i64 (-1)) ∧ Rd w' rb (.slice bo n cap) (pos n at_ 7) (shs n at_ sh 7) ∧ Below rb w w' := by
  have A0 : Hid (0 ≤ at_) := a0
  have A1 : Hid (at_ ≤ 8 * n) := a1
  clear a0 a1
  go_enter Try.func9, Try.ntmps9
  go_wp2
  go_loopw [5, 6, 7, 8] (fun vc vf vi vm wr => ∃ (m j : Nat) (v f i : Int), vc = .int .i64 (2 * v) ∧ vf = .int .i64 f ∧ vi = .int .i64 i ∧ vm = .int .i64 m ∧ 1 ≤ m ∧ m ≤ 8 ∧ Hid (m = j + 1 ∧ v = val bs n at_ j ∧ f = fst cn j ∧ i = idx cn j) ∧ Hid (Rd wr rb (.slice bo n cap) (pos n at_ j) (shs n at_ sh j)) ∧ Hid (Below rb w wr)) (fun _ _ _ i _ => 9 - (intOf i).toNat)
  case atStart =>
    refine ⟨1, 0, 0, 0, 0, rfl, rfl, rfl, rfl, by omega, by omega, ⟨rfl, rfl, rfl, rfl⟩, ?_, Below.refl _ _⟩
    have e1 : pos n at_ 0 = at_ := by have := A1.out; unfold pos; split <;> omega
    have e2 : shs n at_ sh 0 = sh := by have := A1.out; unfold shs; rw [decide_eq_false (by omega), Bool.or_false]
    show Rd _ _ _ _ _
    rw [e1, e2]
    exact HR.out
  case round =>
    obtain ⟨m, j, v, f, i, rfl, rfl, rfl, rfl, m0, m1, HE, HR', HB⟩ := hrel
    obtain ⟨E1, E2, E3, E4⟩ := HE.out
    by_cases hm : m < 8
    · skip
      obtain ⟨z, hz⟩ : ∃ z, z = sbit bs n (at_ + j) := ⟨_, rfl⟩
      obtain ⟨u, hu⟩ : ∃ u, u = val bs n at_ (j + 1) := ⟨_, rfl⟩
      have bz := sbit_bd bs n (at_ + j)
      have bv := val_bd bs n at_ j (by omega)
      have bu := val_bd bs n at_ (j + 1) (by omega)
      have bf := fst_bd cn HC.out.hc j (by omega)
      have bi := idx_le cn HC.out.hc j (by omega)
      have bi1 := idx_le cn HC.out.hc (j + 1) (by omega)
      have bt := HC.out.ht
      have bs0 := HC.out.hs
      have hfu := fst_le cn bs n at_ j (fun j' hj' => H1.out j' (by omega))
      obtain ⟨c, hc⟩ : ∃ c, c = cn m := ⟨_, rfl⟩
      have bc := HC.out.hc m m0 hm
      have cc : wr.cell? ⟨cb, m, none⟩ = some (.int .i64 c) := by rw [hc]; exact (HB.out.cell (p := ⟨cb, m, none⟩) HC.out.lt).trans (HC.out.cnt m hm)
      have cs : wr.cell? ⟨cb, 8, none⟩ = some (.slice so sn scap) := (HB.out.cell (p := ⟨cb, 8, none⟩) HC.out.lt).trans HC.out.sl
      have hor : bits .or .i64 (2 * v) z = u := by
        rw [hz, hu, val, ← E2]
        exact or_bit (by omega) (by omega) bz.1 bz.2
      rw [← hu] at bu hfu
      rw [← E2] at bv
      rw [← E3] at bf hfu
      rw [idx, ← E1, ← hc, ← E4] at bi1
      rw [← E4] at bi
      rw [← hc] at bc
      have HZ : Hid (z = sbit bs n (at_ + j)) := hz
      have HU : Hid (u = val bs n at_ (j + 1)) := hu
      have HK : Hid (c = cn m) := hc
      rw [← hz] at bz
      clear hz hu hc E1 E2 E3 E4
      have HBI : Hid (Calls Try.prog 12 #[.pointer (some ⟨rb, 0, none⟩), .int .i64 1] wr fun e w' => e = .returned (.int .i64 z) ∧ Rd w' rb (.slice bo n cap) (pos n at_ (j + 1)) (shs n at_ sh (j + 1)) ∧ wr.grownBy w' (some rb)) := by
        have h := bits_any rb bo n cap j rb bs at_ sh wr HR'.out (HC.out.byt.below HB.out) HC.out.hb HC.out.hn A0.out
        rw [← HZ.out] at h
        exact h
      clear cc cs
      have hit : c ≤ u - f := by
        have := H1.out j (by have := HE.out.1; omega)
        rw [← HU.out, ← HE.out.2.2.1, ← HE.out.1, ← HK.out] at this
        omega
      go_wp2_with fail
      refine HBI.out.mono ?_
      rintro r w2 ⟨rfl, hR2, hg2⟩
      have HR2 : Hid (Rd w2 rb (.slice bo n cap) (pos n at_ (j + 1)) (shs n at_ sh (j + 1))) := hR2
      have HB2 : Hid (Below rb w w2) := HB.out.trans (grown_Below hg2 HR'.out.lt)
      have cc2 : w2.cell? ⟨cb, m, none⟩ = some (.int .i64 c) := by rw [HK.out]; exact (HB2.out.cell (p := ⟨cb, m, none⟩) HC.out.lt).trans (HC.out.cnt m hm)
      have cs2 : w2.cell? ⟨cb, 8, none⟩ = some (.slice so sn scap) := (HB2.out.cell (p := ⟨cb, 8, none⟩) HC.out.lt).trans HC.out.sl
      clear hR2
      go_wp2_with fail
      go_roundw
      case rel =>
        refine ⟨m + 1, j + 1, u, 2 * (f + c), i + c, ?_, ?_, ?_, ?_, by omega, by have := HE.out.1; omega, ?_, HR2.out, HB2.out⟩
        · go_num
        · go_num
        · go_num
        · go_num
        · obtain ⟨E1, E2, E3, E4⟩ := HE.out
          have hk := HK.out
          exact ⟨by omega, HU.out, by rw [fst, ← E3, ← E1, ← hk], by rw [idx, ← E4, ← E1, ← hk]⟩
      case measure => simp [intOf]; omega
    · obtain ⟨E1, _⟩ := HE.out
      have hj : j = 7 := by omega
      subst hj
      have hm8 : m = 8 := by omega
      subst hm8
      go_wp2_with fail
      go_ret
      exact ⟨rfl, HR'.out, HB.out⟩
end Go.Proofs.Qxb6628717a
