import Derived.Test.Qxb6628755aW4
namespace Go.Proofs.Qxb6628755a
open Go.RowKit

theorem owns_below {w w' : World} {base e size g n cap : Nat} {vs : List Value} (h : w.ownsRow base e size (.slice (some ⟨g, 0, none⟩) n cap) n vs) (hb : Below w.heap.size w w') : w'.ownsRow base e size (.slice (some ⟨g, 0, none⟩) n cap) n vs :=
  h.kept (row := none) ⟨hb.os, hb.tape, hb.output, hb.size, fun k hk _ => hb.block k hk⟩ (.inr (by simp [Value.ownBlock]))

/-- Get, as one word. -/
def Gets (so : Option Addr) (n cap : Nat) (tag : Int) (s : ByteArray) (ok : Bool) (xs : List F) : Prop :=
  ∀ W : World, ArgF W W.heap.size so xs → Calls Try.prog 8 #[.slice so n cap, .int .i64 tag] W fun e w' => e = .returned (.tuple #[.string s, .bool ok]) ∧ Below W.heap.size W w'

theorem gets {so : Option Addr} {n cap : Nat} {tag : Int} {s : ByteArray} {ok : Bool} {xs : List F} (hn : n ≤ 2097152) (hl : n = xs.length) (hg : get tag xs = (s, ok)) : Gets so n cap tag s ok xs := by
  intro W hA
  have h := get_any so cap n tag xs W hn hl hA
  rw [hg] at h
  exact h

set_option maxRecDepth 20000 in
set_option maxHeartbeats 4000000 in
theorem law3_any (so bo : Option Addr) (ca cb n m : Nat) (tag : Int) (v : ByteArray) (xs ys : List F) (w : World) (hn : n ≤ 9223372036854775807) (hm : m ≤ 9223372036854775807) (HN : Hid (n = xs.length)) (HM : Hid (m = ys.length)) (ha0 : so = none → n = 0) (hb0 : bo = none → m = 0)
    (HA : Hid (ArgF w w.heap.size so xs)) (HB : Hid (ArgF w w.heap.size bo ys)) :
    Calls Try.prog 3 #[.slice so n ca, .slice bo m cb, .int .i64 tag, .string v] w fun e w' => e = .returned (.bool true) ∧ Below w.heap.size w w' := by
  obtain ⟨i0, hi, hz0, hz1, hz2⟩ := info_parts info29
  have HSO : Hid (so = none → n = 0) := ha0
  have HBO : Hid (bo = none → m = 0) := hb0
  clear ha0 hb0
  go_enter Try.func3, Try.ntmps3
  go_wp2_with fail
  refine (bytes5_any so bo ca cb n m tag v xs ys w hn hm HN HM HA HB).mono ?_
  rintro e w1 ⟨r, rfl, hB1⟩
  have HB1 : Hid (Below w.heap.size w w1) := hB1
  clear hB1
  cases r
  · go_wp2_with fail
    go_ret
    exact ⟨rfl, HB1.out⟩
  · have HA1 : Hid (ArgF w1 w1.heap.size so xs) := (HA.out.below HB1.out).mono HB1.out.size
    have HC1 : Hid (ArgF w1 w1.heap.size bo ys) := (HB.out.below HB1.out).mono HB1.out.size
    go_wp2_with fail
    refine (fields_any so ca n xs w1 hn HN HA1).mono ?_
    rintro e w2 ⟨ba, rfl, ba0, ba1, han, rfl⟩
    by_cases hba : ba ≤ 1048576
    · have hn16 := han hba
      go_wp2_with fail
      refine (fields_any bo cb m ys w2 hm HM HC1).mono ?_
      rintro e w3 ⟨bb, rfl, bb0, bb1, hbm, rfl⟩
      by_cases hbb : bb ≤ 1048576
      · have hm16 := hbm hbb
        by_cases hv : v.size ≤ 1048576
        · by_cases hsum : ba + bb + v.size ≤ 1048576
          · go_wp2_with fail
            refine (toMsg_any so ca n xs _ hn16 HN HSO.out HA1).mono ?_
            rintro e w4 ⟨so', ca', rfl, hA4, hca, hca2, hno4, hB4⟩
            have HA4 : Hid (ArgF w4 w4.heap.size so' xs) := hA4
            have HNO4 : Hid (so' = none → n = 0 ∧ ca' = 0) := hno4
            clear hA4 hno4
            go_wp2_with fail
            refine (toMsg_any bo cb m ys _ hm16 HM HBO.out ((HC1.out.below hB4).mono hB4.size)).mono ?_
            rintro e w5 ⟨bo', cb', rfl, hA5, hcb, hcb2, hno5, hB5⟩
            have HM5 : Hid (ArgF w5 w5.heap.size bo' ys) := hA5
            have HA5 : Hid (ArgF w5 w5.heap.size so' xs) := (HA4.out.below hB5).mono hB5.size
            have HNO5 : Hid (bo' = none → m = 0 ∧ cb' = 0) := hno5
            have HB5 : Hid (Below w.heap.size w w5) := (HB1.out.trans (hB4.mono HB1.out.size)).trans (hB5.mono (Nat.le_trans HB1.out.size hB4.size))
            clear hA5 hno5 hB4 hB5 HA4
            go_upto_region 16 with (at_make; refine wpList_make_own _ rfl _ _ 26 rfl w5.heap.size 29 i0 _ 2 Try.underlying26 hi hz0 hz1 .i64 .i64 _ (n + m) rfl rfl (by omega) (by rw [hz2]; omega) (by unfold maxLen; omega) (Nat.le_refl _) ?_; intro w6 hown6 hg6)
            have HO6 : Hid (w6.ownsRow w5.heap.size 29 2 (.slice (some ⟨w5.heap.size, 0, none⟩) 0 (n + m)) 0 []) := hown6
            have HL6 : Hid (Below w5.heap.size w5 w6) := below_grown hg6 (Nat.le_refl _) (fun q hq => by cases hq)
            clear hown6 hg6
            have hlx : (valsOf xs).length = n * 2 := by rw [valsOf_length, HN.out]
            have hly : (valsOf ys).length = m * 2 := by rw [valsOf_length, HM.out]
            go_upto_region 17 with (at_builtin; refine wpList_append_fits_any _ rfl _ _ 26 rfl w5.heap.size 29 i0 2 Try.underlying26 hi hz1 w5.heap.size 0 (n + m) [] rfl HO6.out so' n ca' (valsOf xs) rfl hlx HNO4.out (src_of_arg (HA5.out.below HL6.out)) (vals_one xs) (by omega) ?_; intro w7 hown7 hg7)
            have HO7 : Hid (w7.ownsRow w5.heap.size 29 2 (.slice (some ⟨w5.heap.size, 0, none⟩) n (n + m)) n (valsOf xs)) := by
              show World.ownsRow _ _ _ _ _ _ _
              simpa using hown7
            have HL7 : Hid (Below w5.heap.size w5 w7) := HL6.out.grown hg7 HL6.out.size (fun q hq => by cases hq; exact Nat.le_refl _)
            clear hown7 hg7 HO6
            go_upto_region 18 with (at_builtin; refine wpList_append_fits_any _ rfl _ _ 26 rfl w5.heap.size 29 i0 2 Try.underlying26 hi hz1 w5.heap.size n (n + m) (valsOf xs) rfl HO7.out bo' m cb' (valsOf ys) rfl hly HNO5.out (src_of_arg (HM5.out.below HL7.out)) (vals_one ys) (by omega) ?_; intro w8 hown8 hg8)
            have HO8 : Hid (w8.ownsRow w5.heap.size 29 2 (.slice (some ⟨w5.heap.size, 0, none⟩) (n + m) (n + m)) (n + m) (valsOf (xs ++ ys))) := by
              show World.ownsRow _ _ _ _ _ _ _
              rw [valsOf_append]
              exact hown8
            have HL8 : Hid (Below w5.heap.size w5 w8) := HL7.out.grown hg8 HL7.out.size (fun q hq => by cases hq; exact Nat.le_refl _)
            clear hown8 hg8 HO7
            go_upto_region 19 with (at_make; refine wpList_make_own _ rfl _ _ 26 rfl w8.heap.size 29 i0 _ 2 Try.underlying26 hi hz0 hz1 .i64 .i64 _ (n + m + 1) rfl rfl (by omega) (by rw [hz2]; omega) (by unfold maxLen; omega) (Nat.le_refl _) ?_; intro w9 hown9 hg9)
            have HO9 : Hid (w9.ownsRow w8.heap.size 29 2 (.slice (some ⟨w8.heap.size, 0, none⟩) 0 (n + m + 1)) 0 []) := hown9
            have HP9 : Hid (Below w8.heap.size w8 w9) := below_grown hg9 (Nat.le_refl _) (fun q hq => by cases hq)
            clear hown9 hg9
            have hL8 := HL8.out.size
            go_upto_region 20 with (at_builtin; refine wpList_append_fits_any _ rfl _ _ 26 rfl w8.heap.size 29 i0 2 Try.underlying26 hi hz1 w8.heap.size 0 (n + m + 1) [] rfl HO9.out so' n ca' (valsOf xs) rfl hlx HNO4.out (src_of_arg (HA5.out.below (HL8.out.trans (HP9.out.mono hL8)))) (vals_one xs) (by omega) ?_; intro w10 hown10 hg10)
            have HO10 : Hid (w10.ownsRow w8.heap.size 29 2 (.slice (some ⟨w8.heap.size, 0, none⟩) n (n + m + 1)) n (valsOf xs)) := by
              show World.ownsRow _ _ _ _ _ _ _
              simpa using hown10
            have HP10 : Hid (Below w8.heap.size w8 w10) := HP9.out.grown hg10 HP9.out.size (fun q hq => by cases hq; exact Nat.le_refl _)
            clear hown10 hg10 HO9
            go_upto_region 21 with (at_builtin; refine wpList_append_fits_any _ rfl _ _ 26 rfl w8.heap.size 29 i0 2 Try.underlying26 hi hz1 w8.heap.size n (n + m + 1) (valsOf xs) rfl HO10.out bo' m cb' (valsOf ys) rfl hly HNO5.out (src_of_arg (HM5.out.below (HL8.out.trans (HP10.out.mono hL8)))) (vals_one ys) (by omega) ?_; intro w11 hown11 hg11)
            have HO11 : Hid (w11.ownsRow w8.heap.size 29 2 (.slice (some ⟨w8.heap.size, 0, none⟩) (n + m) (n + m + 1)) (n + m) (valsOf (xs ++ ys))) := by
              show World.ownsRow _ _ _ _ _ _ _
              rw [valsOf_append]
              exact hown11
            have HP11 : Hid (Below w8.heap.size w8 w11) := HP10.out.grown hg11 HP10.out.size (fun q hq => by cases hq; exact Nat.le_refl _)
            clear hown11 hg11 HO10
            go_upto_region 22 with (at_builtin; refine wpList_append_fits _ rfl _ _ 26 rfl w8.heap.size 29 i0 2 Try.underlying26 hi hz1 w8.heap.size (n + m) (n + m + 1) (valsOf (xs ++ ys)) rfl (HO11.out.alloc _) ⟨w11.heap.size, 0, none⟩ 1 1 (F.vals ⟨tag, v⟩) rfl rfl (new_cells w11 ⟨tag, v⟩) (by intro u hu; exact vals_one [⟨tag, v⟩] u (by simpa [valsOf] using hu)) (by omega) ?_; intro w12 hown12 hg12)
            have HO12 : Hid (w12.ownsRow w8.heap.size 29 2 (.slice (some ⟨w8.heap.size, 0, none⟩) (n + m + 1) (n + m + 1)) (n + m + 1) (valsOf ((xs ++ ys) ++ [⟨tag, v⟩]))) := by
              show World.ownsRow _ _ _ _ _ _ _
              rw [valsOf_append]
              exact hown12
            have HP12 : Hid (Below w8.heap.size w8 w12) := (HP11.out.alloc HP11.out.size _).grown hg12 (by have := HP11.out.size; simp; omega) (fun q hq => by cases hq; exact Nat.le_refl _)
            clear hown12 hg12 HO11
            have HL12 : Hid (Below w5.heap.size w5 w12) := HL8.out.trans (HP12.out.mono hL8)
            have A12 : Hid (ArgF w12 w12.heap.size so' xs) := (HA5.out.below HL12.out).mono HL12.out.size
            have B12 : Hid (ArgF w12 w12.heap.size bo' ys) := (HM5.out.below HL12.out).mono HL12.out.size
            have C12 : Hid (ArgF w12 w12.heap.size (some ⟨w5.heap.size, 0, none⟩) (xs ++ ys)) := arg_of_owns (owns_below HO8.out HP12.out) (by rw [List.length_append, ← HN.out, ← HM.out])
            have D12 : Hid (ArgF w12 w12.heap.size (some ⟨w8.heap.size, 0, none⟩) ((xs ++ ys) ++ [⟨tag, v⟩])) := arg_of_owns HO12.out (by rw [List.length_append, List.length_append, ← HN.out, ← HM.out]; rfl)
            have HX12 : Hid (Below w.heap.size w w12) := HB5.out.trans (HL12.out.mono HB5.out.size)
            obtain ⟨⟨va, oka⟩, hga⟩ : ∃ g, g = get tag xs := ⟨_, rfl⟩
            obtain ⟨⟨vb, okb⟩, hgb⟩ : ∃ g, g = get tag ys := ⟨_, rfl⟩
            have G1 : Hid (Gets so' n ca' tag va oka xs) := gets (by omega) HN.out hga.symm
            have G2 : Hid (Gets bo' m cb' tag vb okb ys) := gets (by omega) HM.out hgb.symm
            have e3 : get tag (xs ++ ys) = if oka = true then (va, oka) else (vb, okb) := by rw [get_append, ← hga, ← hgb]
            have e4 : get tag ((xs ++ ys) ++ [⟨tag, v⟩]) = if (get tag (xs ++ ys)).2 = true then get tag (xs ++ ys) else (v, true) := by
              rw [get_append]
              simp [get]
            have hl3 : n + m = (xs ++ ys).length := by rw [List.length_append, ← HN.out, ← HM.out]
            have hl4 : n + m + 1 = ((xs ++ ys) ++ [⟨tag, v⟩] : List F).length := by rw [List.length_append, ← hl3]; rfl
            clear hga hgb HL6 HL7 HP9 HP10 HP11 HO8 HO12 HA5 HM5 hlx hly
            cases oka
            · cases okb
              · have G3 : Hid (Gets (some ⟨w5.heap.size, 0, none⟩) (n + m) (n + m) tag vb false (xs ++ ys)) := gets (by omega) hl3 (by rw [e3]; rfl)
                have G4 : Hid (Gets (some ⟨w8.heap.size, 0, none⟩) (n + m + 1) (n + m + 1) tag v true ((xs ++ ys) ++ [⟨tag, v⟩])) := gets (by omega) hl4 (by rw [e4, e3]; rfl)
                clear e3 e4 hl3 hl4
                go_wp2_with fail
                refine (G1.out _ A12.out).mono ?_
                rintro e w13 ⟨rfl, k13⟩
                have B13 : Hid (ArgF w13 w13.heap.size bo' ys) := (B12.out.below k13).mono k13.size
                go_wp2_with fail
                refine (G2.out _ B13.out).mono ?_
                rintro e w14 ⟨rfl, k14⟩
                have j14 := k13.trans (k14.mono k13.size)
                have C14 : Hid (ArgF w14 w14.heap.size (some ⟨w5.heap.size, 0, none⟩) (xs ++ ys)) := (C12.out.below j14).mono j14.size
                go_wp2_with fail
                refine (G3.out _ C14.out).mono ?_
                rintro e w15 ⟨rfl, k15⟩
                have j15 := j14.trans (k15.mono j14.size)
                have D15 : Hid (ArgF w15 w15.heap.size (some ⟨w8.heap.size, 0, none⟩) ((xs ++ ys) ++ [⟨tag, v⟩])) := (D12.out.below j15).mono j15.size
                go_wp2_with fail
                refine (G4.out _ D15.out).mono ?_
                rintro e w16 ⟨rfl, k16⟩
                have j16 := j15.trans (k16.mono j15.size)
                go_wp2_with fail
                go_ret
                exact ⟨rfl, HX12.out.trans (j16.mono HX12.out.size)⟩
              · have G3 : Hid (Gets (some ⟨w5.heap.size, 0, none⟩) (n + m) (n + m) tag vb true (xs ++ ys)) := gets (by omega) hl3 (by rw [e3]; rfl)
                have G4 : Hid (Gets (some ⟨w8.heap.size, 0, none⟩) (n + m + 1) (n + m + 1) tag vb true ((xs ++ ys) ++ [⟨tag, v⟩])) := gets (by omega) hl4 (by rw [e4, e3]; rfl)
                clear e3 e4 hl3 hl4
                go_wp2_with fail
                refine (G1.out _ A12.out).mono ?_
                rintro e w13 ⟨rfl, k13⟩
                have B13 : Hid (ArgF w13 w13.heap.size bo' ys) := (B12.out.below k13).mono k13.size
                go_wp2_with fail
                refine (G2.out _ B13.out).mono ?_
                rintro e w14 ⟨rfl, k14⟩
                have j14 := k13.trans (k14.mono k13.size)
                have C14 : Hid (ArgF w14 w14.heap.size (some ⟨w5.heap.size, 0, none⟩) (xs ++ ys)) := (C12.out.below j14).mono j14.size
                go_wp2_with fail
                refine (G3.out _ C14.out).mono ?_
                rintro e w15 ⟨rfl, k15⟩
                have j15 := j14.trans (k15.mono j14.size)
                have D15 : Hid (ArgF w15 w15.heap.size (some ⟨w8.heap.size, 0, none⟩) ((xs ++ ys) ++ [⟨tag, v⟩])) := (D12.out.below j15).mono j15.size
                go_wp2_with fail
                refine (G4.out _ D15.out).mono ?_
                rintro e w16 ⟨rfl, k16⟩
                have j16 := j15.trans (k16.mono j15.size)
                go_wp2_with fail
                go_ret
                exact ⟨rfl, HX12.out.trans (j16.mono HX12.out.size)⟩
            · have G3 : Hid (Gets (some ⟨w5.heap.size, 0, none⟩) (n + m) (n + m) tag va true (xs ++ ys)) := gets (by omega) hl3 (by rw [e3]; rfl)
              have G4 : Hid (Gets (some ⟨w8.heap.size, 0, none⟩) (n + m + 1) (n + m + 1) tag va true ((xs ++ ys) ++ [⟨tag, v⟩])) := gets (by omega) hl4 (by rw [e4, e3]; rfl)
              clear e3 e4 hl3 hl4
              cases okb
              · skip
                go_wp2_with fail
                refine (G1.out _ A12.out).mono ?_
                rintro e w13 ⟨rfl, k13⟩
                have B13 : Hid (ArgF w13 w13.heap.size bo' ys) := (B12.out.below k13).mono k13.size
                go_wp2_with fail
                refine (G2.out _ B13.out).mono ?_
                rintro e w14 ⟨rfl, k14⟩
                have j14 := k13.trans (k14.mono k13.size)
                have C14 : Hid (ArgF w14 w14.heap.size (some ⟨w5.heap.size, 0, none⟩) (xs ++ ys)) := (C12.out.below j14).mono j14.size
                go_wp2_with fail
                refine (G3.out _ C14.out).mono ?_
                rintro e w15 ⟨rfl, k15⟩
                have j15 := j14.trans (k15.mono j14.size)
                have D15 : Hid (ArgF w15 w15.heap.size (some ⟨w8.heap.size, 0, none⟩) ((xs ++ ys) ++ [⟨tag, v⟩])) := (D12.out.below j15).mono j15.size
                go_wp2_with fail
                refine (G4.out _ D15.out).mono ?_
                rintro e w16 ⟨rfl, k16⟩
                have j16 := j15.trans (k16.mono j15.size)
                go_wp2_with fail
                go_ret
                exact ⟨rfl, HX12.out.trans (j16.mono HX12.out.size)⟩
              · skip
                go_wp2_with fail
                refine (G1.out _ A12.out).mono ?_
                rintro e w13 ⟨rfl, k13⟩
                have B13 : Hid (ArgF w13 w13.heap.size bo' ys) := (B12.out.below k13).mono k13.size
                go_wp2_with fail
                refine (G2.out _ B13.out).mono ?_
                rintro e w14 ⟨rfl, k14⟩
                have j14 := k13.trans (k14.mono k13.size)
                have C14 : Hid (ArgF w14 w14.heap.size (some ⟨w5.heap.size, 0, none⟩) (xs ++ ys)) := (C12.out.below j14).mono j14.size
                go_wp2_with fail
                refine (G3.out _ C14.out).mono ?_
                rintro e w15 ⟨rfl, k15⟩
                have j15 := j14.trans (k15.mono j14.size)
                have D15 : Hid (ArgF w15 w15.heap.size (some ⟨w8.heap.size, 0, none⟩) ((xs ++ ys) ++ [⟨tag, v⟩])) := (D12.out.below j15).mono j15.size
                go_wp2_with fail
                refine (G4.out _ D15.out).mono ?_
                rintro e w16 ⟨rfl, k16⟩
                have j16 := j15.trans (k16.mono j15.size)
                go_wp2_with fail
                go_ret
                exact ⟨rfl, HX12.out.trans (j16.mono HX12.out.size)⟩
          · go_wp2_with fail
            go_ret
            exact ⟨rfl, HB1.out⟩
        · go_wp2_with fail
          go_ret
          exact ⟨rfl, HB1.out⟩
      · go_wp2_with fail
        go_ret
        exact ⟨rfl, HB1.out⟩
    · go_wp2_with fail
      go_ret
      exact ⟨rfl, HB1.out⟩
end Go.Proofs.Qxb6628755a
